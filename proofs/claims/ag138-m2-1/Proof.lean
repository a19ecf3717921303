import JvmDerived
import JvmDerived.Pilot.@@N@@Statement
import JvmDerived.Pilot.@@N@@Code
set_option linter.unusedVariables false
set_option linter.unusedSimpArgs false
/- laws to paste: Road.backV, Road.codOf (cut by pick.py; bodies as the Statement names them) -/
namespace Jvm.Pilot.@@N@@
namespace StrChars
open Jvm Sem ClassFile Op Lib Jvm.Stand Jvm.Free.XT Jvm.Free.ALB Jvm.Free.JM Jvm.Free
open Jvm.Lib.Cold (StaticIs)
/-- a char array whose places are chars -/
def Ch (a : Addr) (A : Cell) (U : State) : Prop := Arr .char a A U ∧ Typed .char A
theorem Ch.mv {a : Addr} {A : Cell} {U U' : State} (h : Ch a A U) (hal : U.vm.Alike U'.vm) (hh : U'.heap = U.heap) : Ch a A U' := ⟨h.1.mv hal hh, h.2⟩
theorem Ch.keep {a : Addr} {A : Cell} {U U' : State} (h : Ch a A U) (hal : U.vm.Alike U'.vm) (hk : U'.heap[a]? = some A) : Ch a A U' := ⟨h.1.keep hal hk, h.2⟩
/-- what place i of a char[]'s cell holds -/
def cv (A : Cell) (i : Nat) : Int32 := match A.slots[i]? with | some (.int x) => x | _ => 0
theorem Ch.get {a : Addr} {A : Cell} {U : State} (h : Ch a A U) {i : Nat} (hi : i < A.slots.size) : A.slots[i]? = some (.int (cv A i)) := by
  have e := Array.getElem?_eq_getElem hi
  have f := h.2 i _ e
  unfold cv; rw [e]
  generalize A.slots[i] = v at f
  cases v <;> simp [fits] at f ⊢
/-- the byte that i2b leaves of a char -/
def lo8 (x : Int32) : Int32 := x.toInt8.toInt32
theorem fits_lo8 (y : Int32) : fits .byte (.int (lo8 y)) = true := by
  have h1 := y.toInt8.le_toInt
  have h2 := y.toInt8.toInt_lt
  simp only [lo8, fits, Bool.and_eq_true, decide_eq_true_eq, Int32.le_iff_toInt_le, Int8.toInt_toInt32, show (-128 : Int32).toInt = -128 from by decide, show (127 : Int32).toInt = 127 from by decide]
  omega
/-- A' is A but that each place j of lo .. hi - 1 holds f j -/
def Laid (A A' : Cell) (lo hi : Nat) (f : Nat → Value) : Prop := A'.cls = A.cls ∧ A'.vm = A.vm ∧ A'.slots.size = A.slots.size ∧ ∀ i, A'.slots[i]? = if lo ≤ i ∧ i < hi then some (f i) else A.slots[i]?
theorem Laid.zero (A : Cell) (lo : Nat) (f : Nat → Value) : Laid A A lo (lo + 0) f := ⟨rfl, rfl, rfl, fun i => by rw [if_neg (by omega)]⟩
theorem Laid.step {A Ak : Cell} {lo k : Nat} {f : Nat → Value} {v : Value} (h : Laid A Ak lo k f) (hlo : lo ≤ k) (hk : k < Ak.slots.size) (hv : v = f k) : Laid A (Ak.setSlot k v) lo (k + 1) f := by
  refine ⟨h.1, h.2.1, by simpa [Cell.setSlot] using h.2.2.1, fun i => ?_⟩
  by_cases e : k = i
  · subst e; rw [Cell.slots_setSlot_self v hk, if_pos (by omega), hv]
  · rw [Cell.slots_setSlot_ne v e, h.2.2.2 i]
    by_cases q : lo ≤ i ∧ i < k
    · rw [if_pos q, if_pos (by omega)]
    · rw [if_neg q, if_neg (by omega)]
def U16 : String := "java/lang/StringUTF16"
namespace Cmp5
def yN : MethodName := ⟨"java/lang/StringUTF16", "compress", "([CI[BII)I"⟩
abbrev yB : ByteArray := jdk_52_method_21_code
theorem d0 : decode yB 0 = .ok (.iconst 0, 1) := by decide +kernel
theorem d1 : decode yB 1 = .ok (.istore 5, 2) := by decide +kernel
theorem d3 : decode yB 3 = .ok (.iload 5, 2) := by decide +kernel
theorem d5 : decode yB 5 = .ok (.iload 4, 2) := by decide +kernel
theorem d7 : decode yB 7 = .ok (.if_icmp (.ge) 37, 3) := by decide +kernel
theorem d10 : decode yB 10 = .ok (.aload_n 0, 1) := by decide +kernel
theorem d11 : decode yB 11 = .ok (.iload_n 1, 1) := by decide +kernel
theorem d12 : decode yB 12 = .ok (.caload, 1) := by decide +kernel
theorem d13 : decode yB 13 = .ok (.istore 6, 2) := by decide +kernel
theorem d15 : decode yB 15 = .ok (.iload 6, 2) := by decide +kernel
theorem d17 : decode yB 17 = .ok (.sipush 255, 3) := by decide +kernel
theorem d20 : decode yB 20 = .ok (.if_icmp (.le) 6, 3) := by decide +kernel
theorem d26 : decode yB 26 = .ok (.aload_n 2, 1) := by decide +kernel
theorem d27 : decode yB 27 = .ok (.iload_n 3, 1) := by decide +kernel
theorem d28 : decode yB 28 = .ok (.iload 6, 2) := by decide +kernel
theorem d30 : decode yB 30 = .ok (.i2b, 1) := by decide +kernel
theorem d31 : decode yB 31 = .ok (.bastore, 1) := by decide +kernel
theorem d32 : decode yB 32 = .ok (.iinc 1 1, 3) := by decide +kernel
theorem d35 : decode yB 35 = .ok (.iinc 3 1, 3) := by decide +kernel
theorem d38 : decode yB 38 = .ok (.iinc 5 1, 3) := by decide +kernel
theorem d41 : decode yB 41 = .ok (.goto (-38), 3) := by decide +kernel
theorem d44 : decode yB 44 = .ok (.iload 4, 2) := by decide +kernel
theorem d46 : decode yB 46 = .ok (.ireturn, 1) := by decide +kernel
def site : List Cond := []
def tab : Cond := tabOf yN yB 7 (some .int) site
def P (b : Addr) (A : Cell) (d : Addr) (B : Cell) (o q len : Nat) (args : Array Value) (s : State) : Prop := args = #[.ref b, .int (Int32.ofNat o), .ref d, .int (Int32.ofNat q), .int (Int32.ofNat len)] ∧ Ch b A s ∧ Arr .byte d B s ∧ b ≠ d ∧ o + len ≤ A.slots.size ∧ q + len ≤ B.slots.size ∧ ∀ i, i < len → ¬ 255 < cv A (o + i)
def E (b : Addr) (A : Cell) (d : Addr) (B : Cell) (o q len : Nat) (r : Option Value) (s u : State) : Prop := r = some (.int (Int32.ofNat len)) ∧ ∃ B', Put d B' s u ∧ Laid B B' q (q + len) (fun j => Value.int (lo8 (cv A (o + (j - q)))))
/-- no char of the range above 255: len; the places written hold each char's low byte -/
theorem law (l : Launch) (b : Addr) (A : Cell) (d : Addr) (B : Cell) (o q len : Nat) : Law l yN 5 5 0 0 yB 7 (some .int) site (P b A d B o q len) (E b A d B o q len) (copyLocs d q len) 0 0 := by
  refine Law.of_walk (plainFor_of_name (by decide +kernel)) (by decide +kernel) (by decide +kernel) (by decide) (fun _ _ h => by rw [h.1]; rfl) (fun _ U U' hal hh h => ⟨h.1, h.2.1.mv hal hh, h.2.2.1.mv hal hh, h.2.2.2⟩) (fun r U U' V V' h1 hal h2 h => ⟨h.1, h.2.elim fun B' q => ⟨B', q.1.mv h1 h2, q.2⟩⟩) ?_
  intro p e s m args below meth c s₁ X0 hexec hbytes hml hret hlk hnm hown hh0 W hP
  obtain ⟨rfl, hA, hB, hne, l1, l2, hp⟩ := hP
  have c1 : Steps p.tables e below (s₁.setTop (entryFrame m #[.ref b, .int (Int32.ofNat o), .ref d, .int (Int32.ofNat q), .int (Int32.ofNat len)] 7)) (s₁.setTop (mkF m 0 #[.val (.ref b), .val (.int (Int32.ofNat o)), .val (.ref d), .val (.int (Int32.ofNat q)), .val (.int (Int32.ofNat len)), .unset, .unset] [])) := entry rfl
  have hA0 := hA.1.mv X0.warmed.alike hh0
  have hB0 := hB.mv X0.warmed.alike hh0
  have a31 := hA.1.2.2.2
  have c2 : Steps p.tables e below (s₁.setTop (entryFrame m #[.ref b, .int (Int32.ofNat o), .ref d, .int (Int32.ofNat q), .int (Int32.ofNat len)] 7)) (s₁.setTop (mkF m 3 #[.val (.ref b), .val (.int (Int32.ofNat o)), .val (.ref d), .val (.int (Int32.ofNat q)), .val (.int (Int32.ofNat len)), .val (.int 0), .unset] [])) := c1.trans (by
    refine iconstV X0.here hexec rfl 0 (hb hbytes d0) (by decide) ?_
    refine XS.istore X0.here hexec rfl (hb hbytes d1) rfl rfl ?_
    exact Steps.refl _)
  have loop : ∀ (r i : Nat), i + r = len → ∀ (z : Slot), (z = .unset ∨ ∃ w, z = .val w ∧ w.category = 1) → ∀ (Tl : State) (Bk : Cell), Stand p l e { frames := 0, locals := 0, cells := 0, slots := 0 } s m #[.ref b, .int (Int32.ofNat o), .ref d, .int (Int32.ofNat q), .int (Int32.ofNat len)] below meth c Tl ([] ++ copyLocs d q i) 0 0 → Put d Bk s₁ Tl → Laid B Bk q (q + i) (fun j => Value.int (lo8 (cv A (o + (j - q))))) →
      Steps p.tables e below (s₁.setTop (entryFrame m #[.ref b, .int (Int32.ofNat o), .ref d, .int (Int32.ofNat q), .int (Int32.ofNat len)] 7)) (Tl.setTop (mkF m 3 #[.val (.ref b), .val (.int (Int32.ofNat (o + i))), .val (.ref d), .val (.int (Int32.ofNat (q + i))), .val (.int (Int32.ofNat len)), .val (.int (Int32.ofNat i)), z] [])) → ∃ (T' : State) (B' : Cell) (z' : Slot), Stand p l e { frames := 0, locals := 0, cells := 0, slots := 0 } s m #[.ref b, .int (Int32.ofNat o), .ref d, .int (Int32.ofNat q), .int (Int32.ofNat len)] below meth c T' ([] ++ copyLocs d q len) 0 0 ∧ Put d B' s₁ T' ∧ Laid B B' q (q + len) (fun j => Value.int (lo8 (cv A (o + (j - q))))) ∧
      Steps p.tables e below (s₁.setTop (entryFrame m #[.ref b, .int (Int32.ofNat o), .ref d, .int (Int32.ofNat q), .int (Int32.ofNat len)] 7)) (T'.setTop (mkF m 3 #[.val (.ref b), .val (.int (Int32.ofNat (o + len))), .val (.ref d), .val (.int (Int32.ofNat (q + len))), .val (.int (Int32.ofNat len)), .val (.int (Int32.ofNat len)), z'] [])) := by
    intro r
    induction r with
    | zero =>
      intro i hi z hz Tl Bk Xl pl fl cl
      have hil : i = len := by omega
      rw [hil] at Xl fl cl
      exact ⟨Tl, Bk, z, Xl, pl, fl, cl⟩
    | succ r ih =>
      intro i hi z hz Tl Bk Xl pl fl cl
      have all := X0.warmed.alike.symm.trans Xl.warmed.alike
      have hAl := hA0.keep all (pl.other hne hA0.1)
      have hBk := hB0.like all pl.1 fl.1 fl.2.1 fl.2.2.1
      have hlt : q + i < Bk.slots.size := by rw [fl.2.2.1]; omega
      have c3 : Steps p.tables e below (s₁.setTop (entryFrame m #[.ref b, .int (Int32.ofNat o), .ref d, .int (Int32.ofNat q), .int (Int32.ofNat len)] 7)) (Tl.setTop (mkF m 12 #[.val (.ref b), .val (.int (Int32.ofNat (o + i))), .val (.ref d), .val (.int (Int32.ofNat (q + i))), .val (.int (Int32.ofNat len)), .val (.int (Int32.ofNat i)), z] [.int (Int32.ofNat (o + i)), .ref b])) := cl.trans (by
        refine XS.iload Xl.here hexec rfl (hb hbytes d3) rfl ?_
        refine XS.iload Xl.here hexec rfl (hb hbytes d5) rfl ?_
        refine XS.icmpNo Xl.here hexec rfl (hb hbytes d7) rfl (ii_ge_f (lt32 (by omega) (by omega))) ?_
        refine XS.aloadN Xl.here hexec rfl (hb hbytes d10) rfl rfl ?_
        refine XS.iloadN Xl.here hexec rfl (hb hbytes d11) rfl ?_
        exact Steps.refl _)
      have c4 : Steps p.tables e below (s₁.setTop (entryFrame m #[.ref b, .int (Int32.ofNat o), .ref d, .int (Int32.ofNat q), .int (Int32.ofNat len)] 7)) (Tl.setTop (mkF m 13 #[.val (.ref b), .val (.int (Int32.ofNat (o + i))), .val (.ref d), .val (.int (Int32.ofNat (q + i))), .val (.int (Int32.ofNat len)), .val (.int (Int32.ofNat i)), z] [.int (cv A (o + i))])) := c3.trans (by
        refine Xl.aget hexec hAl rfl (hA.get (i := o + i) (by omega)) rfl rfl (hb hbytes d12) ?_
        exact Steps.refl _)
      have c5 : Steps p.tables e below (s₁.setTop (entryFrame m #[.ref b, .int (Int32.ofNat o), .ref d, .int (Int32.ofNat q), .int (Int32.ofNat len)] 7)) (Tl.setTop (mkF m 15 #[.val (.ref b), .val (.int (Int32.ofNat (o + i))), .val (.ref d), .val (.int (Int32.ofNat (q + i))), .val (.int (Int32.ofNat len)), .val (.int (Int32.ofNat i)), .val (.int (cv A (o + i)))] [])) := c4.trans (by
        refine XS.istoreS Xl.here hexec rfl (hb hbytes d13) rfl rfl hz ?_
        exact Steps.refl _)
      have c6 : Steps p.tables e below (s₁.setTop (entryFrame m #[.ref b, .int (Int32.ofNat o), .ref d, .int (Int32.ofNat q), .int (Int32.ofNat len)] 7)) (Tl.setTop (mkF m 31 #[.val (.ref b), .val (.int (Int32.ofNat (o + i))), .val (.ref d), .val (.int (Int32.ofNat (q + i))), .val (.int (Int32.ofNat len)), .val (.int (Int32.ofNat i)), .val (.int (cv A (o + i)))] [.int (lo8 (cv A (o + i))), .int (Int32.ofNat (q + i)), .ref d])) := c5.trans (by
        refine XS.iload Xl.here hexec rfl (hb hbytes d15) rfl ?_
        refine sipushV Xl.here hexec rfl 255 (hb hbytes d17) (by decide) ?_
        refine XS.icmpYes Xl.here hexec rfl (pc0 := 20) rfl (hb hbytes d20) rfl (ii_le_t (hp i (by omega))) (by decide) rfl ?_
        refine XS.aloadN Xl.here hexec rfl (hb hbytes d26) rfl rfl ?_
        refine XS.iloadN Xl.here hexec rfl (hb hbytes d27) rfl ?_
        refine XS.iload Xl.here hexec rfl (hb hbytes d28) rfl ?_
        refine i2b Xl.here hexec rfl (hb hbytes d30) rfl ?_
        exact Steps.refl _)
      obtain ⟨T7, X7, p7, st7⟩ := Xl.aput hexec hBk rfl hlt rfl (fits_lo8 (cv A (o + i))) (g := (mkF m 31 #[.val (.ref b), .val (.int (Int32.ofNat (o + i))), .val (.ref d), .val (.int (Int32.ofNat (q + i))), .val (.int (Int32.ofNat len)), .val (.int (Int32.ofNat i)), .val (.int (cv A (o + i)))] [.int (lo8 (cv A (o + i))), .int (Int32.ofNat (q + i)), .ref d])) rfl (rest := []) rfl (hb hbytes d31)
      have c8 : Steps p.tables e below (s₁.setTop (entryFrame m #[.ref b, .int (Int32.ofNat o), .ref d, .int (Int32.ofNat q), .int (Int32.ofNat len)] 7)) (T7.setTop (mkF m 32 #[.val (.ref b), .val (.int (Int32.ofNat (o + i))), .val (.ref d), .val (.int (Int32.ofNat (q + i))), .val (.int (Int32.ofNat len)), .val (.int (Int32.ofNat i)), .val (.int (cv A (o + i)))] [])) := c6.trans (st7 _ (Steps.refl _))
      have c9 : Steps p.tables e below (s₁.setTop (entryFrame m #[.ref b, .int (Int32.ofNat o), .ref d, .int (Int32.ofNat q), .int (Int32.ofNat len)] 7)) (T7.setTop (mkF m 3 #[.val (.ref b), .val (.int (Int32.ofNat (o + i) + 1)), .val (.ref d), .val (.int (Int32.ofNat (q + i) + 1)), .val (.int (Int32.ofNat len)), .val (.int (Int32.ofNat i + 1)), .val (.int (cv A (o + i)))] [])) := c8.trans (by
        refine iincV X7.here hexec rfl 1 (hb hbytes d32) (by decide) rfl rfl ?_
        refine iincV X7.here hexec rfl 1 (hb hbytes d35) (by decide) rfl rfl ?_
        refine iincV X7.here hexec rfl 1 (hb hbytes d38) (by decide) rfl rfl ?_
        refine XS.goto X7.here hexec rfl (pc0 := 41) rfl (hb hbytes d41) (by decide) rfl ?_
        exact Steps.refl _)
      have c10 : Steps p.tables e below (s₁.setTop (entryFrame m #[.ref b, .int (Int32.ofNat o), .ref d, .int (Int32.ofNat q), .int (Int32.ofNat len)] 7)) (T7.setTop (mkF m 3 #[.val (.ref b), .val (.int (Int32.ofNat (o + (i + 1)))), .val (.ref d), .val (.int (Int32.ofNat (q + (i + 1)))), .val (.int (Int32.ofNat len)), .val (.int (Int32.ofNat (i + 1))), .val (.int (cv A (o + i)))] [])) := by
        have := c9
        rw [succ32, succ32, succ32] at this
        exact this
      exact ih (i + 1) (by omega) _ (Or.inr ⟨_, rfl, rfl⟩) T7 _ (by rw [copyLocs_step, ← List.append_assoc]; exact X7) (pl.trans p7) (fl.step (by omega) hlt (by simp)) c10
  obtain ⟨T9, B9, z9, X9, p9, f9, g9⟩ := loop len 0 (by omega) .unset (Or.inl rfl) s₁ B (by simpa [copyLocs] using X0) ⟨hB0.1, fun _ _ => rfl, rfl⟩ (Laid.zero _ _ _) c2
  have c11 : Steps p.tables e below (s₁.setTop (entryFrame m #[.ref b, .int (Int32.ofNat o), .ref d, .int (Int32.ofNat q), .int (Int32.ofNat len)] 7)) (T9.setTop (mkF m 46 #[.val (.ref b), .val (.int (Int32.ofNat (o + len))), .val (.ref d), .val (.int (Int32.ofNat (q + len))), .val (.int (Int32.ofNat len)), .val (.int (Int32.ofNat len)), z9] [.int (Int32.ofNat len)])) := g9.trans (by
    refine XS.iload X9.here hexec rfl (hb hbytes d3) rfl ?_
    refine XS.iload X9.here hexec rfl (hb hbytes d5) rfl ?_
    refine XS.icmpYes X9.here hexec rfl (pc0 := 7) rfl (hb hbytes d7) rfl (ii_ge_t (nlt32 (by omega) (Nat.le_refl _))) (by decide) rfl ?_
    refine XS.iload X9.here hexec rfl (hb hbytes d44) rfl ?_
    exact Steps.refl _)
  exact ⟨T9, some (.int (Int32.ofNat len)), _, _, _, X9, by simp, rfl, rfl, (fun h => by cases h), ⟨rfl, B9, p9.from hh0, f9⟩, fun fs hl => c11.trans (X9.ireturnOut hexec hret rfl (Or.inl rfl) (hb hbytes d46) hl)⟩
end Cmp5
namespace Cmp3
def yN : MethodName := ⟨"java/lang/StringUTF16", "compress", "([CII)[B"⟩
abbrev yB : ByteArray := jdk_52_method_16_code
theorem d0 : decode yB 0 = .ok (.iload_n 2, 1) := by decide +kernel
theorem d1 : decode yB 1 = .ok (.newarray .byte, 2) := by decide +kernel
theorem d3 : decode yB 3 = .ok (.astore_n 3, 1) := by decide +kernel
theorem d4 : decode yB 4 = .ok (.aload_n 0, 1) := by decide +kernel
theorem d5 : decode yB 5 = .ok (.iload_n 1, 1) := by decide +kernel
theorem d6 : decode yB 6 = .ok (.aload_n 3, 1) := by decide +kernel
theorem d7 : decode yB 7 = .ok (.iconst 0, 1) := by decide +kernel
theorem d8 : decode yB 8 = .ok (.iload_n 2, 1) := by decide +kernel
theorem d9 : decode yB 9 = .ok (.invokestatic 115, 3) := by decide +kernel
theorem d12 : decode yB 12 = .ok (.istore 4, 2) := by decide +kernel
theorem d14 : decode yB 14 = .ok (.iload 4, 2) := by decide +kernel
theorem d16 : decode yB 16 = .ok (.iload_n 2, 1) := by decide +kernel
theorem d17 : decode yB 17 = .ok (.if_icmp (.eq) 40, 3) := by decide +kernel
theorem d57 : decode yB 57 = .ok (.aload_n 3, 1) := by decide +kernel
theorem d58 : decode yB 58 = .ok (.areturn, 1) := by decide +kernel
def site : List Cond := [.arrayClass .byte, Cmp5.tab] ++ staticW U16 115 Cmp5.yN
def tab : Cond := tabOf yN yB 6 (some (.array .byte)) site
def P (b : Addr) (A : Cell) (o len : Nat) (args : Array Value) (s : State) : Prop := args = #[.ref b, .int (Int32.ofNat o), .int (Int32.ofNat len)] ∧ Ch b A s ∧ o + len ≤ A.slots.size ∧ len ≤ 536870912 ∧ ∀ i, i < len → ¬ 255 < cv A (o + i)
def E (b : Addr) (A : Cell) (o len : Nat) (r : Option Value) (s u : State) : Prop := NewArr .byte "[B" len (fun j => .int (lo8 (cv A (o + j)))) r s u ∧ u.heap.size = s.heap.size + 1
/-- no char of the range above 255: a new byte[] of their low bytes -/
theorem law (l : Launch) (b : Addr) (A : Cell) (o len : Nat) : Law l yN 3 3 1 18 yB 6 (some (.array .byte)) site (P b A o len) (E b A o len) [] 1 len := by
  refine Law.of_walk (plainFor_of_name (by decide +kernel)) (by decide +kernel) (by decide +kernel) (by decide) (fun _ _ h => by rw [h.1]; rfl) (fun _ U U' hal hh h => ⟨h.1, h.2.1.mv hal hh, h.2.2⟩) (fun r U U' V V' h1 hal h2 h => ⟨NewArr.mv r U U' V V' h1 hal h2 h.1, by rw [h1, h2]; exact h.2⟩) ?_
  intro p e s m args below meth c s₁ X0 hexec hbytes hml hret hlk hnm hown hh0 W hP
  obtain ⟨rfl, hA, l1, l2, hp⟩ := hP
  have a31 := hA.1.2.2.2
  have c1 : Steps p.tables e below (s₁.setTop (entryFrame m #[.ref b, .int (Int32.ofNat o), .int (Int32.ofNat len)] 6)) (s₁.setTop (mkF m 0 #[.val (.ref b), .val (.int (Int32.ofNat o)), .val (.int (Int32.ofNat len)), .unset, .unset, .unset] [])) := entry rfl
  have c2 : Steps p.tables e below (s₁.setTop (entryFrame m #[.ref b, .int (Int32.ofNat o), .int (Int32.ofNat len)] 6)) (s₁.setTop (mkF m 1 #[.val (.ref b), .val (.int (Int32.ofNat o)), .val (.int (Int32.ofNat len)), .unset, .unset, .unset] [.int (Int32.ofNat len)])) := c1.trans (by
    refine XS.iloadN X0.here hexec rfl (hb hbytes d0) rfl ?_
    exact Steps.refl _)
  obtain ⟨T3, B3, X3, ba3, bs3, bv3, bh3, bf3, st3⟩ := X0.anew hexec (atype := .byte) (wk W (.arrayClass .byte)) rfl (by show len * 1 ≤ _; omega) (by omega) (g := (mkF m 1 #[.val (.ref b), .val (.int (Int32.ofNat o)), .val (.int (Int32.ofNat len)), .unset, .unset, .unset] [.int (Int32.ofNat len)])) rfl (hb hbytes d1) (rest := []) rfl (Nat.le_refl _) (by show 0 + len ≤ len; omega)
  rw [hh0] at ba3 st3
  have kp3 : XT.Kept s T3 := (XT.Kept.of_eq hh0).push bh3
  have hA3 := hA.keep X3.warmed.alike (kp3 _ _ hA.1.1)
  have hne : b ≠ s.heap.size := hA.1.ne
  have c4 : Steps p.tables e below (s₁.setTop (entryFrame m #[.ref b, .int (Int32.ofNat o), .int (Int32.ofNat len)] 6)) (T3.setTop (mkF m 3 #[.val (.ref b), .val (.int (Int32.ofNat o)), .val (.int (Int32.ofNat len)), .unset, .unset, .unset] [.ref s.heap.size])) := c2.trans (st3 _ (Steps.refl _))
  have c5 : Steps p.tables e below (s₁.setTop (entryFrame m #[.ref b, .int (Int32.ofNat o), .int (Int32.ofNat len)] 6)) (T3.setTop (mkF m 9 #[.val (.ref b), .val (.int (Int32.ofNat o)), .val (.int (Int32.ofNat len)), .val (.ref s.heap.size), .unset, .unset] [.int (Int32.ofNat len), .int 0, .ref s.heap.size, .int (Int32.ofNat o), .ref b])) := c4.trans (by
    refine XS.astoreN X3.here hexec rfl (hb hbytes d3) rfl rfl rfl ?_
    refine XS.aloadN X3.here hexec rfl (hb hbytes d4) rfl rfl ?_
    refine XS.iloadN X3.here hexec rfl (hb hbytes d5) rfl ?_
    refine XS.aloadN X3.here hexec rfl (hb hbytes d6) rfl rfl ?_
    refine iconstV X3.here hexec rfl 0 (hb hbytes d7) (by decide) ?_
    refine XS.iloadN X3.here hexec rfl (hb hbytes d8) rfl ?_
    exact Steps.refl _)
  obtain ⟨v6, T6, X6, E6, g6⟩ := X3.callS hexec (Cmp5.law l b A s.heap.size B3 o 0 len) hown (wks W (staticW U16 115 Cmp5.yN)) (wk W Cmp5.tab) (W := 0) (Nat.le_of_ble_eq_true rfl) (Nat.le_of_ble_eq_true rfl) (Nat.le_refl _) (by show 0 + len + 0 ≤ len; omega) (g := (mkF m 9 #[.val (.ref b), .val (.int (Int32.ofNat o)), .val (.int (Int32.ofNat len)), .val (.ref s.heap.size), .unset, .unset] [.int (Int32.ofNat len), .int (Int32.ofNat 0), .ref s.heap.size, .int (Int32.ofNat o), .ref b])) rfl (by rw [hml]; rfl) c5 (argsL := [.ref b, .int (Int32.ofNat o), .ref s.heap.size, .int (Int32.ofNat 0), .int (Int32.ofNat len)]) (rest := []) rfl rfl (by show 2 * 0 + 0 ≤ _; decide) (hb hbytes d9) (⟨rfl, hA3, ba3, hne, l1, by rw [bs3]; simp, hp⟩)
  obtain ⟨rfl, B6, p6, f6⟩ := E6
  have c7 : Steps p.tables e below (s₁.setTop (entryFrame m #[.ref b, .int (Int32.ofNat o), .int (Int32.ofNat len)] 6)) (T6.setTop (mkF m 12 #[.val (.ref b), .val (.int (Int32.ofNat o)), .val (.int (Int32.ofNat len)), .val (.ref s.heap.size), .unset, .unset] [.int (Int32.ofNat len)])) := g6
  have c8 : Steps p.tables e below (s₁.setTop (entryFrame m #[.ref b, .int (Int32.ofNat o), .int (Int32.ofNat len)] 6)) (T6.setTop (mkF m 58 #[.val (.ref b), .val (.int (Int32.ofNat o)), .val (.int (Int32.ofNat len)), .val (.ref s.heap.size), .val (.int (Int32.ofNat len)), .unset] [.ref s.heap.size])) := c7.trans (by
    refine XS.istore X6.here hexec rfl (hb hbytes d12) rfl rfl ?_
    refine XS.iload X6.here hexec rfl (hb hbytes d14) rfl ?_
    refine XS.iloadN X6.here hexec rfl (hb hbytes d16) rfl ?_
    refine XS.icmpYes X6.here hexec rfl (pc0 := 17) rfl (hb hbytes d17) rfl (ii_eq_t rfl) (by decide) rfl ?_
    refine XS.aloadN X6.here hexec rfl (hb hbytes d57) rfl rfl ?_
    exact Steps.refl _)
  have X8 := X6.wide (L' := []) (cells' := 1) (slots' := len) (fun x hx hlt => by
    simp only [List.nil_append, copyLocs, List.mem_map, List.mem_range] at hx
    obtain ⟨i, -, rfl⟩ := hx
    exact absurd hlt (Nat.lt_irrefl _)) (Nat.le_refl _) (by omega)
  exact ⟨T6, some (.ref s.heap.size), _, _, _, X8, rfl, rfl, rfl, (fun h => by cases h), ⟨⟨rfl, B6, ba3.like (X3.warmed.alike.symm.trans X6.warmed.alike) p6.1 f6.1 f6.2.1 f6.2.2.1, f6.2.1.trans bv3, by rw [X6.warmed.alike.findClass, f6.1]; exact bf3, by rw [f6.2.2.1, bs3]; simp, fun j hj => by rw [f6.2.2.2 j, if_pos (by omega)]; rfl, kp3.put p6 (Nat.le_refl _)⟩, by rw [p6.2.2, bh3, hh0]; simp⟩, fun fs hl => c8.trans (X8.areturnOut hexec rfl hret rfl (hb hbytes d58) hl)⟩
end Cmp3
namespace CodL
def yN : MethodName := ⟨"java/lang/StringUTF16", "coderFromArrayLen", "([BI)B"⟩
abbrev yB : ByteArray := jdk_52_method_15_code
theorem d0 : decode yB 0 = .ok (.iload_n 1, 1) := by decide +kernel
theorem d1 : decode yB 1 = .ok (.aload_n 0, 1) := by decide +kernel
theorem d2 : decode yB 2 = .ok (.arraylength, 1) := by decide +kernel
theorem d3 : decode yB 3 = .ok (.isub, 1) := by decide +kernel
theorem d4 : decode yB 4 = .ok (.bipush 31, 2) := by decide +kernel
theorem d6 : decode yB 6 = .ok (.iushr, 1) := by decide +kernel
theorem d7 : decode yB 7 = .ok (.i2b, 1) := by decide +kernel
theorem d8 : decode yB 8 = .ok (.ireturn, 1) := by decide +kernel
def site : List Cond := []
def tab : Cond := tabOf yN yB 2 (some .byte) site
def P (d : Addr) (B : Cell) (args : Array Value) (s : State) : Prop := args = #[.ref d, .int (Int32.ofNat B.slots.size)] ∧ Arr .byte d B s
def E (r : Option Value) (s u : State) : Prop := XT.PureE (some (.int 0)) r s u
/-- an array as long as the number of chars: LATIN1 -/
theorem law (l : Launch) (d : Addr) (B : Cell) : Law l yN 2 2 0 0 yB 2 (some .byte) site (P d B) E [] 0 0 := by
  refine Law.of_walk (plainFor_of_name (by decide +kernel)) (by decide +kernel) (by decide +kernel) (by decide) (fun _ _ h => by rw [h.1]; rfl) (fun _ U U' hal hh h => ⟨h.1, h.2.mv hal hh⟩) (fun r U U' V V' h1 hal h2 h => XT.PureE.mv r U U' V V' h1 hal h2 h) ?_
  intro p e s m args below meth c s₁ X0 hexec hbytes hml hret hlk hnm hown hh0 W hP
  obtain ⟨rfl, hB⟩ := hP
  have hB0 := hB.mv X0.warmed.alike hh0
  have c1 : Steps p.tables e below (s₁.setTop (entryFrame m #[.ref d, .int (Int32.ofNat B.slots.size)] 2)) (s₁.setTop (mkF m 0 #[.val (.ref d), .val (.int (Int32.ofNat B.slots.size))] [])) := entry rfl
  have c2 : Steps p.tables e below (s₁.setTop (entryFrame m #[.ref d, .int (Int32.ofNat B.slots.size)] 2)) (s₁.setTop (mkF m 2 #[.val (.ref d), .val (.int (Int32.ofNat B.slots.size))] [.ref d, .int (Int32.ofNat B.slots.size)])) := c1.trans (by
    refine XS.iloadN X0.here hexec rfl (hb hbytes d0) rfl ?_
    refine XS.aloadN X0.here hexec rfl (hb hbytes d1) rfl rfl ?_
    exact Steps.refl _)
  have c3 : Steps p.tables e below (s₁.setTop (entryFrame m #[.ref d, .int (Int32.ofNat B.slots.size)] 2)) (s₁.setTop (mkF m 8 #[.val (.ref d), .val (.int (Int32.ofNat B.slots.size))] [.int (lo8 (ushr (Int32.ofNat B.slots.size - Int32.ofNat B.slots.size) 31))])) := c2.trans (by
    refine X0.alen hexec hB0 rfl rfl (hb hbytes d2) ?_
    refine XS.isub X0.here hexec rfl (hb hbytes d3) rfl ?_
    refine bipushV X0.here hexec rfl 31 (hb hbytes d4) (by decide) ?_
    refine iushr X0.here hexec rfl (hb hbytes d6) rfl ?_
    refine i2b X0.here hexec rfl (hb hbytes d7) rfl ?_
    exact Steps.refl _)
  have e0 : lo8 (ushr (Int32.ofNat B.slots.size - Int32.ofNat B.slots.size) 31) = 0 := by rw [Int32.sub_self]; decide
  rw [e0] at c3
  exact ⟨s₁, some (.int 0), _, _, _, X0, rfl, rfl, rfl, (fun h => by cases h), ⟨rfl, hh0⟩, fun fs hl => c3.trans (X0.ireturnOut hexec hret rfl (Or.inr (Or.inr (Or.inl rfl))) (hb hbytes d8) hl)⟩
end CodL
/-- the String at a is Latin-1 over a new byte[] (the heap's one new cell): the low bytes of the len chars of A from o on; every cell but a is kept -/
def Got (a : Addr) (D : Cell) (fV fC : Field) (A : Cell) (o len : Nat) (r : Option Value) (s u : State) : Prop := r = none ∧ ∃ D' V : Cell, Blank "java/lang/String" a D' u ∧ Same D D' [fV.slot, fC.slot] ∧ D'.slots[fV.slot]? = some (.ref s.heap.size) ∧ D'.slots[fC.slot]? = some (.int 0) ∧ Arr .byte s.heap.size V u ∧ V.vm = .none ∧ u.vm.findClass "[B" = some V.cls ∧ V.slots.size = len ∧ (∀ j, j < len → V.slots[j]? = some (.int (lo8 (cv A (o + j))))) ∧ (∀ (y : Addr) (c : Cell), y ≠ a → s.heap[y]? = some c → u.heap[y]? = some c) ∧ u.heap.size = s.heap.size + 1
theorem Got.mv {a : Addr} {D A : Cell} {fV fC : Field} {o len : Nat} : ∀ r (U U' V V' : State), U'.heap = U.heap → V.vm.Alike V'.vm → V'.heap = V.heap → Got a D fV fC A o len r U V → Got a D fV fC A o len r U' V' :=
  fun r U U' V V' h1 hal h2 ⟨e0, D', X, a1, a2, a3, a4, a5, a6, a7, a8, a9, a10, a11⟩ => ⟨e0, D', X, a1.mv hal h2, a2, by rw [h1]; exact a3, a4, by rw [h1]; exact a5.mv hal h2, a6, by rw [hal.findClass]; exact a7, a8, a9, by rw [h1, h2]; exact a10, by rw [h1, h2]; exact a11⟩
namespace New4
def yN : MethodName := ⟨"java/lang/String", "<init>", "([CIILjava/lang/Void;)V"⟩
abbrev yB : ByteArray := jdk_42_method_149_code
theorem d0 : decode yB 0 = .ok (.aload_n 0, 1) := by decide +kernel
theorem d1 : decode yB 1 = .ok (.invokespecial 1, 3) := by decide +kernel
theorem d4 : decode yB 4 = .ok (.iload_n 3, 1) := by decide +kernel
theorem d5 : decode yB 5 = .ok (.ifCond (.ne) 22, 3) := by decide +kernel
theorem d27 : decode yB 27 = .ok (.getstatic 38, 3) := by decide +kernel
theorem d30 : decode yB 30 = .ok (.ifCond (.eq) 28, 3) := by decide +kernel
theorem d33 : decode yB 33 = .ok (.aload_n 1, 1) := by decide +kernel
theorem d34 : decode yB 34 = .ok (.iload_n 2, 1) := by decide +kernel
theorem d35 : decode yB 35 = .ok (.iload_n 3, 1) := by decide +kernel
theorem d36 : decode yB 36 = .ok (.invokestatic 177, 3) := by decide +kernel
theorem d39 : decode yB 39 = .ok (.astore 5, 2) := by decide +kernel
theorem d41 : decode yB 41 = .ok (.aload_n 0, 1) := by decide +kernel
theorem d42 : decode yB 42 = .ok (.aload 5, 2) := by decide +kernel
theorem d44 : decode yB 44 = .ok (.iload_n 3, 1) := by decide +kernel
theorem d45 : decode yB 45 = .ok (.invokestatic 47, 3) := by decide +kernel
theorem d48 : decode yB 48 = .ok (.putfield 15, 3) := by decide +kernel
theorem d51 : decode yB 51 = .ok (.aload_n 0, 1) := by decide +kernel
theorem d52 : decode yB 52 = .ok (.aload 5, 2) := by decide +kernel
theorem d54 : decode yB 54 = .ok (.putfield 9, 3) := by decide +kernel
theorem d57 : decode yB 57 = .ok (.return_, 1) := by decide +kernel
def site : List Cond := [.fieldLink "java/lang/String" 38 "java/lang/String" "COMPACT_STRINGS" "Z", Cmp3.tab, CodL.tab, .laysFinal "java/lang/String" "java/lang/String" "value" "[B", .fieldLink "java/lang/String" 9 "java/lang/String" "value" "[B", .laysFinal "java/lang/String" "java/lang/String" "coder" "B", .fieldLink "java/lang/String" 15 "java/lang/String" "coder" "B"] ++ objW "java/lang/String" 1 ++ staticW "java/lang/String" 177 Cmp3.yN ++ staticW "java/lang/String" 47 CodL.yN
def tab : Cond := tabOf yN yB 6 none site
def P (a : Addr) (D : Cell) (fV fC : Field) (b : Addr) (A : Cell) (z : Int32) (o len : Nat) (args : Array Value) (s : State) : Prop := args = #[.ref a, .ref b, .int (Int32.ofNat o), .int (Int32.ofNat len), .null] ∧ Blank "java/lang/String" a D s ∧ Found "java/lang/String" "value" "[B" fV s ∧ Found "java/lang/String" "coder" "B" fC s ∧ Ch b A s ∧ StaticIs s "java/lang/String" "COMPACT_STRINGS" "Z" (.int z) ∧ ¬ z = 0 ∧ 0 < len ∧ o + len ≤ A.slots.size ∧ len ≤ 536870912 ∧ ∀ i, i < len → ¬ 255 < cv A (o + i)
def E (a : Addr) (D : Cell) (fV fC : Field) (A : Cell) (o len : Nat) (r : Option Value) (s u : State) : Prop := Got a D fV fC A o len r s u
/-- len > 0, no char of the range above 255: a Latin-1 String of their low bytes -/
theorem law (l : Launch) (a : Addr) (D : Cell) (fV fC : Field) (b : Addr) (A : Cell) (z : Int32) (o len : Nat) : Law l yN 5 4 2 35 yB 6 none site (P a D fV fC b A z o len) (E a D fV fC A o len) [⟨a, fC.slot⟩, ⟨a, fV.slot⟩] 1 len := by
  refine Law.of_walk (plainFor_of_name (by decide +kernel)) (by decide +kernel) (by decide +kernel) (by decide) (fun _ _ h => by rw [h.1]; rfl) (fun _ U U' hal hh h => ⟨h.1, h.2.1.mv hal hh, h.2.2.1.al hal, h.2.2.2.1.al hal, h.2.2.2.2.1.mv hal hh, h.2.2.2.2.2.1.there hal hh, h.2.2.2.2.2.2⟩) (fun r U U' V V' h1 hal h2 h => Got.mv r U U' V V' h1 hal h2 h) ?_
  intro p e s m args below meth c s₁ X0 hexec hbytes hml hret hlk hnm hown hh0 W hP
  obtain ⟨rfl, hB, f1, f2, hA, s1, hz, l0, l1, l2, hp⟩ := hP
  have a31 := hA.1.2.2.2
  have c1 : Steps p.tables e below (s₁.setTop (entryFrame m #[.ref a, .ref b, .int (Int32.ofNat o), .int (Int32.ofNat len), .null] 6)) (s₁.setTop (mkF m 0 #[.val (.ref a), .val (.ref b), .val (.int (Int32.ofNat o)), .val (.int (Int32.ofNat len)), .val .null, .unset] [])) := entry rfl
  have c2 : Steps p.tables e below (s₁.setTop (entryFrame m #[.ref a, .ref b, .int (Int32.ofNat o), .int (Int32.ofNat len), .null] 6)) (s₁.setTop (mkF m 1 #[.val (.ref a), .val (.ref b), .val (.int (Int32.ofNat o)), .val (.int (Int32.ofNat len)), .val .null, .unset] [.ref a])) := c1.trans (by
    refine XS.aloadN X0.here hexec rfl (hb hbytes d0) rfl rfl ?_
    exact Steps.refl _)
  obtain ⟨T3, X3, q3, st3⟩ := X0.oinit hexec hown (wks W (objW "java/lang/String" 1)) (g := (mkF m 1 #[.val (.ref a), .val (.ref b), .val (.int (Int32.ofNat o)), .val (.int (Int32.ofNat len)), .val .null, .unset] [.ref a])) rfl (by rw [hml]; rfl) (rest := []) rfl (hb hbytes d1) (W := 0) (by show 2 * 0 + 0 ≤ _; decide) (Nat.le_of_ble_eq_true rfl) (Nat.le_of_ble_eq_true rfl)
  have hh3 := q3.trans hh0
  have c4 : Steps p.tables e below (s₁.setTop (entryFrame m #[.ref a, .ref b, .int (Int32.ofNat o), .int (Int32.ofNat len), .null] 6)) (T3.setTop (mkF m 27 #[.val (.ref a), .val (.ref b), .val (.int (Int32.ofNat o)), .val (.int (Int32.ofNat len)), .val .null, .unset] [])) := (c2.trans (st3 _ (Steps.refl _))).trans (by
    refine XS.iloadN X3.here hexec rfl (hb hbytes d4) rfl ?_
    refine XS.ifYes X3.here hexec rfl (pc0 := 5) rfl (hb hbytes d5) rfl (i0_ne_t (nz32 (by omega) l0)) (by decide) rfl ?_
    exact Steps.refl _)
  obtain ⟨T5, X5, q5, st5⟩ := X3.sget hexec hown (wk W (.fieldLink "java/lang/String" 38 "java/lang/String" "COMPACT_STRINGS" "Z")) s1 (fun _ _ h => by rw [hh3]; exact h) (g := (mkF m 27 #[.val (.ref a), .val (.ref b), .val (.int (Int32.ofNat o)), .val (.int (Int32.ofNat len)), .val .null, .unset] [])) rfl (hb hbytes d27)
  have hh5 := q5.trans hh3
  have c6 : Steps p.tables e below (s₁.setTop (entryFrame m #[.ref a, .ref b, .int (Int32.ofNat o), .int (Int32.ofNat len), .null] 6)) (T5.setTop (mkF m 30 #[.val (.ref a), .val (.ref b), .val (.int (Int32.ofNat o)), .val (.int (Int32.ofNat len)), .val .null, .unset] [.int z])) := c4.trans (st5 _ (Steps.refl _))
  have c7 : Steps p.tables e below (s₁.setTop (entryFrame m #[.ref a, .ref b, .int (Int32.ofNat o), .int (Int32.ofNat len), .null] 6)) (T5.setTop (mkF m 36 #[.val (.ref a), .val (.ref b), .val (.int (Int32.ofNat o)), .val (.int (Int32.ofNat len)), .val .null, .unset] [.int (Int32.ofNat len), .int (Int32.ofNat o), .ref b])) := c6.trans (by
    refine XS.ifNo X5.here hexec rfl (hb hbytes d30) rfl (i0_eq_f hz) ?_
    refine XS.aloadN X5.here hexec rfl (hb hbytes d33) rfl rfl ?_
    refine XS.iloadN X5.here hexec rfl (hb hbytes d34) rfl ?_
    refine XS.iloadN X5.here hexec rfl (hb hbytes d35) rfl ?_
    exact Steps.refl _)
  obtain ⟨v8, T8, X8, E8, g8⟩ := X5.callS hexec (Cmp3.law l b A o len) hown (wks W (staticW "java/lang/String" 177 Cmp3.yN)) (wk W Cmp3.tab) (W := 0) (Nat.le_of_ble_eq_true rfl) (Nat.le_of_ble_eq_true rfl) (Nat.le_refl _) (by show 0 + len ≤ len; omega) (g := (mkF m 36 #[.val (.ref a), .val (.ref b), .val (.int (Int32.ofNat o)), .val (.int (Int32.ofNat len)), .val .null, .unset] [.int (Int32.ofNat len), .int (Int32.ofNat o), .ref b])) rfl (by rw [hml]; rfl) c7 (argsL := [.ref b, .int (Int32.ofNat o), .int (Int32.ofNat len)]) (rest := []) rfl rfl (by show 2 * 0 + 0 ≤ _; decide) (hb hbytes d36) (⟨rfl, hA.mv X5.warmed.alike hh5, l1, l2, hp⟩)
  obtain ⟨e8, z8⟩ := E8
  obtain ⟨rfl, N, n1, n2, n3, n4, n5, n6⟩ := NewArr.mv _ T5 s _ _ hh5.symm (Vm.Alike.refl _) rfl e8
  rw [hh5] at z8
  have hB1 := hB.keep X8.warmed.alike (n6 _ _ hB.1)
  have hne : s.heap.size ≠ a := (Nat.ne_of_lt (Array.getElem?_eq_some_iff.mp hB.1).1).symm
  have c9 : Steps p.tables e below (s₁.setTop (entryFrame m #[.ref a, .ref b, .int (Int32.ofNat o), .int (Int32.ofNat len), .null] 6)) (T8.setTop (mkF m 39 #[.val (.ref a), .val (.ref b), .val (.int (Int32.ofNat o)), .val (.int (Int32.ofNat len)), .val .null, .unset] [.ref s.heap.size])) := g8
  have c10 : Steps p.tables e below (s₁.setTop (entryFrame m #[.ref a, .ref b, .int (Int32.ofNat o), .int (Int32.ofNat len), .null] 6)) (T8.setTop (mkF m 45 #[.val (.ref a), .val (.ref b), .val (.int (Int32.ofNat o)), .val (.int (Int32.ofNat len)), .val .null, .val (.ref s.heap.size)] [.int (Int32.ofNat N.slots.size), .ref s.heap.size, .ref a])) := by
    have hc : Steps p.tables e below (s₁.setTop (entryFrame m #[.ref a, .ref b, .int (Int32.ofNat o), .int (Int32.ofNat len), .null] 6)) (T8.setTop (mkF m 45 #[.val (.ref a), .val (.ref b), .val (.int (Int32.ofNat o)), .val (.int (Int32.ofNat len)), .val .null, .val (.ref s.heap.size)] [.int (Int32.ofNat len), .ref s.heap.size, .ref a])) := c9.trans (by
      refine XS.astore X8.here hexec rfl (hb hbytes d39) rfl rfl rfl ?_
      refine XS.aloadN X8.here hexec rfl (hb hbytes d41) rfl rfl ?_
      refine XS.aload X8.here hexec rfl (hb hbytes d42) rfl rfl ?_
      refine XS.iloadN X8.here hexec rfl (hb hbytes d44) rfl ?_
      exact Steps.refl _)
    rw [n4]; exact hc
  obtain ⟨v11, T11, X11, E11, g11⟩ := X8.callS hexec (CodL.law l s.heap.size N) hown (wks W (staticW "java/lang/String" 47 CodL.yN)) (wk W CodL.tab) (W := 1) (Nat.le_of_ble_eq_true rfl) (Nat.le_of_ble_eq_true rfl) (Nat.le_refl _) (by show 0 + len + 0 ≤ len; omega) (g := (mkF m 45 #[.val (.ref a), .val (.ref b), .val (.int (Int32.ofNat o)), .val (.int (Int32.ofNat len)), .val .null, .val (.ref s.heap.size)] [.int (Int32.ofNat N.slots.size), .ref s.heap.size, .ref a])) rfl (by rw [hml]; rfl) c10 (argsL := [.ref s.heap.size, .int (Int32.ofNat N.slots.size)]) (rest := [.ref a]) rfl rfl (by show 2 * 0 + (1 + 0) ≤ _; decide) (hb hbytes d45) (⟨rfl, n1⟩)
  obtain ⟨rfl, q11⟩ := E11
  have hB11 := hB1.mv (X8.warmed.alike.symm.trans X11.warmed.alike) q11
  have c12 : Steps p.tables e below (s₁.setTop (entryFrame m #[.ref a, .ref b, .int (Int32.ofNat o), .int (Int32.ofNat len), .null] 6)) (T11.setTop (mkF m 48 #[.val (.ref a), .val (.ref b), .val (.int (Int32.ofNat o)), .val (.int (Int32.ofNat len)), .val .null, .val (.ref s.heap.size)] [.int 0, .ref a])) := g11
  obtain ⟨T13, X13, p13, bl13, sl13, st13⟩ := X11.finit hexec hown (wk W (.fieldLink "java/lang/String" 15 "java/lang/String" "coder" "B")) (Or.inr ⟨_, (wk W (.laysFinal "java/lang/String" "java/lang/String" "coder" "B"))⟩) (Or.inl ⟨rfl, hnm⟩) f2 (Or.inl rfl) hB11 (t := .byte) (by decide +kernel) rfl (g := (mkF m 48 #[.val (.ref a), .val (.ref b), .val (.int (Int32.ofNat o)), .val (.int (Int32.ofNat len)), .val .null, .val (.ref s.heap.size)] [.int 0, .ref a])) rfl (rest := []) rfl (hb hbytes d48)
  have c14 : Steps p.tables e below (s₁.setTop (entryFrame m #[.ref a, .ref b, .int (Int32.ofNat o), .int (Int32.ofNat len), .null] 6)) (T13.setTop (mkF m 54 #[.val (.ref a), .val (.ref b), .val (.int (Int32.ofNat o)), .val (.int (Int32.ofNat len)), .val .null, .val (.ref s.heap.size)] [.ref s.heap.size, .ref a])) := (c12.trans (st13 _ (Steps.refl _))).trans (by
    refine XS.aloadN X13.here hexec rfl (hb hbytes d51) rfl rfl ?_
    refine XS.aload X13.here hexec rfl (hb hbytes d52) rfl rfl ?_
    exact Steps.refl _)
  obtain ⟨T15, X15, p15, bl15, sl15, st15⟩ := X13.finit hexec hown (wk W (.fieldLink "java/lang/String" 9 "java/lang/String" "value" "[B")) (Or.inr ⟨_, (wk W (.laysFinal "java/lang/String" "java/lang/String" "value" "[B"))⟩) (Or.inl ⟨rfl, hnm⟩) f1 (Or.inl rfl) bl13 (t := (.array .byte)) (by decide +kernel) rfl (g := (mkF m 54 #[.val (.ref a), .val (.ref b), .val (.int (Int32.ofNat o)), .val (.int (Int32.ofNat len)), .val .null, .val (.ref s.heap.size)] [.ref s.heap.size, .ref a])) rfl (rest := []) rfl (hb hbytes d54)
  have c16 : Steps p.tables e below (s₁.setTop (entryFrame m #[.ref a, .ref b, .int (Int32.ofNat o), .int (Int32.ofNat len), .null] 6)) (T15.setTop (mkF m 57 #[.val (.ref a), .val (.ref b), .val (.int (Int32.ofNat o)), .val (.int (Int32.ofNat len)), .val .null, .val (.ref s.heap.size)] [])) := c14.trans (st15 _ (Steps.refl _))
  have ap := apart (Or.inr ⟨_, (wk W (.laysFinal "java/lang/String" "java/lang/String" "value" "[B"))⟩) (Or.inr ⟨_, (wk W (.laysFinal "java/lang/String" "java/lang/String" "coder" "B"))⟩) f1 f2 (t₁ := .array .byte) (t₂ := .byte) (by decide +kernel) (by decide +kernel) (by decide)
  have al := X8.warmed.alike.symm.trans X15.warmed.alike
  have n7 : T11.heap[s.heap.size]? = some N := by rw [q11]; exact n1.1
  exact ⟨T15, none, _, _, _, X15, by simp, rfl, by omega, (fun _ => rfl), ⟨rfl, _, N, bl15, ((Same.refl D _).set _ (by simp)).set _ (by simp), sl15, (Cell.slots_setSlot_ne _ ap).trans sl13, n1.keep al (p15.other hne (p13.other hne n7)), n2, by rw [al.findClass]; exact n3, n4, n5, fun y c h1 h2 => p15.other h1 (p13.other h1 (by rw [q11]; exact n6 y c h2)), by rw [p15.2.2, p13.2.2, q11]; exact z8⟩, fun fs hl => c16.trans (X15.returnOut hexec hret (hb hbytes d57) hl)⟩
end New4
namespace New1
def yN : MethodName := ⟨"java/lang/String", "<init>", "([C)V"⟩
abbrev yB : ByteArray := jdk_42_method_3_code
theorem d0 : decode yB 0 = .ok (.aload_n 0, 1) := by decide +kernel
theorem d1 : decode yB 1 = .ok (.aload_n 1, 1) := by decide +kernel
theorem d2 : decode yB 2 = .ok (.iconst 0, 1) := by decide +kernel
theorem d3 : decode yB 3 = .ok (.aload_n 1, 1) := by decide +kernel
theorem d4 : decode yB 4 = .ok (.arraylength, 1) := by decide +kernel
theorem d5 : decode yB 5 = .ok (.aconst_null, 1) := by decide +kernel
theorem d6 : decode yB 6 = .ok (.invokespecial 27, 3) := by decide +kernel
theorem d9 : decode yB 9 = .ok (.return_, 1) := by decide +kernel
def site : List Cond := [New4.tab] ++ initW "java/lang/String" 27 New4.yN
def tab : Cond := tabOf yN yB 2 none site
def P (a : Addr) (D : Cell) (fV fC : Field) (b : Addr) (A : Cell) (z : Int32) (args : Array Value) (s : State) : Prop := args = #[.ref a, .ref b] ∧ Blank "java/lang/String" a D s ∧ Found "java/lang/String" "value" "[B" fV s ∧ Found "java/lang/String" "coder" "B" fC s ∧ Ch b A s ∧ StaticIs s "java/lang/String" "COMPACT_STRINGS" "Z" (.int z) ∧ ¬ z = 0 ∧ 0 < A.slots.size ∧ A.slots.size ≤ 536870912 ∧ ∀ i, i < A.slots.size → ¬ 255 < cv A i
def E (a : Addr) (D : Cell) (fV fC : Field) (A : Cell) (r : Option Value) (s u : State) : Prop := Got a D fV fC A 0 A.slots.size r s u
/-- new String(chars), not empty, no char above 255: a Latin-1 String of their low bytes -/
theorem law (l : Launch) (a : Addr) (D : Cell) (fV fC : Field) (b : Addr) (A : Cell) (z : Int32) : Law l yN 2 1 3 52 yB 2 none site (P a D fV fC b A z) (E a D fV fC A) [⟨a, fC.slot⟩, ⟨a, fV.slot⟩] 1 A.slots.size := by
  refine Law.of_walk (plainFor_of_name (by decide +kernel)) (by decide +kernel) (by decide +kernel) (by decide) (fun _ _ h => by rw [h.1]; rfl) (fun _ U U' hal hh h => ⟨h.1, h.2.1.mv hal hh, h.2.2.1.al hal, h.2.2.2.1.al hal, h.2.2.2.2.1.mv hal hh, h.2.2.2.2.2.1.there hal hh, h.2.2.2.2.2.2⟩) (fun r U U' V V' h1 hal h2 h => Got.mv r U U' V V' h1 hal h2 h) ?_
  intro p e s m args below meth c s₁ X0 hexec hbytes hml hret hlk hnm hown hh0 W hP
  obtain ⟨rfl, hB, f1, f2, hA, s1, hz, l0, l2, hp⟩ := hP
  have c1 : Steps p.tables e below (s₁.setTop (entryFrame m #[.ref a, .ref b] 2)) (s₁.setTop (mkF m 0 #[.val (.ref a), .val (.ref b)] [])) := entry rfl
  have c2 : Steps p.tables e below (s₁.setTop (entryFrame m #[.ref a, .ref b] 2)) (s₁.setTop (mkF m 6 #[.val (.ref a), .val (.ref b)] [.null, .int (Int32.ofNat A.slots.size), .int 0, .ref b, .ref a])) := c1.trans (by
    refine XS.aloadN X0.here hexec rfl (hb hbytes d0) rfl rfl ?_
    refine XS.aloadN X0.here hexec rfl (hb hbytes d1) rfl rfl ?_
    refine iconstV X0.here hexec rfl 0 (hb hbytes d2) (by decide) ?_
    refine XS.aloadN X0.here hexec rfl (hb hbytes d3) rfl rfl ?_
    refine X0.alen hexec (hA.1.mv X0.warmed.alike hh0) rfl rfl (hb hbytes d4) ?_
    refine XS.aconstNull X0.here hexec rfl (hb hbytes d5) ?_
    exact Steps.refl _)
  obtain ⟨v3, T3, X3, E3, g3⟩ := X0.callN hexec (New4.law l a D fV fC b A z 0 A.slots.size) rfl hown (wks W (initW "java/lang/String" 27 New4.yN)) (W New4.tab (by simp only [site, List.mem_cons, List.mem_append, true_or, or_true])) (W := 0) (Nat.le_of_ble_eq_true rfl) (Nat.le_of_ble_eq_true rfl) (Nat.le_refl _) (by show 0 + A.slots.size ≤ A.slots.size; omega) (g := (mkF m 6 #[.val (.ref a), .val (.ref b)] [.null, .int (Int32.ofNat A.slots.size), .int (Int32.ofNat 0), .ref b, .ref a])) rfl (by rw [hml]; rfl) c2 (argsL := [.ref b, .int (Int32.ofNat 0), .int (Int32.ofNat A.slots.size), .null]) (rest := []) rfl rfl (by show 2 * 0 + 0 ≤ _; decide) (hb hbytes d6) (⟨rfl, hB.mv X0.warmed.alike hh0, f1.al X0.warmed.alike, f2.al X0.warmed.alike, hA.mv X0.warmed.alike hh0, s1.there X0.warmed.alike hh0, hz, l0, by omega, l2, fun i hi => by rw [Nat.zero_add]; exact hp i hi⟩)
  have e0 := Got.mv _ s₁ s _ _ hh0.symm (Vm.Alike.refl _) rfl E3
  obtain rfl := e0.1
  have c4 : Steps p.tables e below (s₁.setTop (entryFrame m #[.ref a, .ref b] 2)) (T3.setTop (mkF m 9 #[.val (.ref a), .val (.ref b)] [])) := g3
  exact ⟨T3, none, _, _, _, X3, by simp, rfl, by omega, (fun _ => rfl), e0, fun fs hl => c4.trans (X3.returnOut hexec hret (hb hbytes d9) hl)⟩
theorem pays {l : Launch} {R : Room} {p : Program} {e : Env} {below : List Frame} {s : State} {sargs : Array Value} {len W : Nat} (a : Addr) (D : Cell) (fV fC : Field) (b : Addr) (A : Cell) (z : Int32) (htab : tab.before sargs s = true) (hfr : 4 ≤ R.frames) (hlo : W + 65 ≤ R.locals) :
    Back l R p e below s sargs yN len W (fun A₁ a₁ => A₁.cells + 1 ≤ R.cells ∧ A₁.slots + A.slots.size ≤ R.slots ∧ P a D fV fC b A z a₁ A₁.U) (fun A₁ _ v₁ B₁ => E a D fV fC A v₁ A₁.U B₁.U ∧ B₁.locs = A₁.locs ++ [⟨a, fC.slot⟩, ⟨a, fV.slot⟩] ∧ B₁.cells = A₁.cells + 1 ∧ B₁.slots = A₁.slots + A.slots.size) :=
  (law l a D fV fC b A z).pays htab hfr (by omega)
end New1
end StrChars
namespace StrChars.Road
open Jvm Sem ClassFile Op Lib Jvm.Stand Jvm.Free Jvm.Free.XT
open Jvm.Lib.Cold (StaticIs)
abbrev ST : String := "java/lang/String"
/-- every table word that New1's law asks, flat -/
abbrev words : List Jvm.Cond := [.code New1.yN New1.yB 2 none, .initialized ST, .methodLink ST 27 New4.yN, .instanceMethod New4.yN,
  .code New4.yN New4.yB 6 none, .fieldLink ST 38 ST "COMPACT_STRINGS" "Z", .laysFinal ST ST "value" "[B", .fieldLink ST 9 ST "value" "[B", .laysFinal ST ST "coder" "B", .fieldLink ST 15 ST "coder" "B",
  .methodLink ST 1 Lib.objectInit, .instanceMethod Lib.objectInit, .code Lib.objectInit ⟨#[0xb1]⟩ 1 none, .methodLink ST 177 Cmp3.yN, .static Cmp3.yN, .methodLink ST 47 CodL.yN, .static CodL.yN,
  .code Cmp3.yN Cmp3.yB 6 (some (.array .byte)), .initialized U16, .arrayClass .byte, .methodLink U16 115 Cmp5.yN, .static Cmp5.yN, .code Cmp5.yN Cmp5.yB 7 (some .int), .code CodL.yN CodL.yB 2 (some .byte)]
theorem tab_of {a : Array Value} {s : State} (h : ∀ w ∈ words, w.before a s = true) : New1.tab.before a s = true := by
  have h5 : Cmp5.tab.before a s = true := unparts (wk h (.code Cmp5.yN Cmp5.yB 7 (some .int))) (wks h (.initialized Cmp5.yN.cls :: Cmp5.site))
  have hc : CodL.tab.before a s = true := unparts (wk h (.code CodL.yN CodL.yB 2 (some .byte))) (wks h (.initialized CodL.yN.cls :: CodL.site))
  have q5 : ∀ w ∈ Cmp5.tab :: words, w.before a s = true := fun w hw => (List.mem_cons.mp hw).elim (fun e => e ▸ h5) (h w)
  have h3 : Cmp3.tab.before a s = true := unparts (wk q5 (.code Cmp3.yN Cmp3.yB 6 (some (.array .byte)))) (wks q5 (.initialized Cmp3.yN.cls :: Cmp3.site))
  have q3 : ∀ w ∈ Cmp3.tab :: CodL.tab :: words, w.before a s = true := fun w hw => (List.mem_cons.mp hw).elim (fun e => e ▸ h3) fun hw => (List.mem_cons.mp hw).elim (fun e => e ▸ hc) (h w)
  have h4 : New4.tab.before a s = true := unparts (wk q3 (.code New4.yN New4.yB 6 none)) (wks q3 (.initialized New4.yN.cls :: New4.site))
  have q4 : ∀ w ∈ New4.tab :: words, w.before a s = true := fun w hw => (List.mem_cons.mp hw).elim (fun e => e ▸ h4) (h w)
  exact unparts (wk q4 (.code New1.yN New1.yB 2 none)) (wks q4 (.initialized New1.yN.cls :: New1.site))
/-- the words ride from the start Z to the walk's own state -/
theorem moved {Z s : State} {a0 args : Array Value} (hZ : Z.Warmed39 s.vm) (hw : ∀ d ∈ words, d.before a0 Z = true) : ∀ d ∈ words, d.before args s = true := fun d hd => by
  have q := hw d hd
  have t : ∀ d ∈ words, d = .arrayClass .byte ∨ (d.onTables && d.keepsFace) = true := by decide +kernel
  rcases t d hd with rfl | t
  · exact RoadKit.mvA hZ q
  · exact RoadKit.mv hZ q t
/-- WHAT COMES BACK, over the tables of the start Z: h the heap at the call, h' behind it -/
def Q (Z : State) (x : Addr) (A : Cell) (h : Heap) (v : Option Value) (h' : Heap) (L : List Loc) : Prop := v = none ∧ (∀ y ∈ L, y.base = x) ∧ RoadKit.Keep h h' [x] ∧ h'.size = h.size + 1 ∧ RoadKit.Exa Z h' x ST ∧ RoadKit.Fld Z h' x ST "value" "[B" (.ref h.size) ∧ RoadKit.Fld Z h' x ST "coder" "B" (.int 0) ∧
  (∃ V : Cell, RoadKit.Arr Z h' h.size V .byte ∧ V.vm = .none ∧ Z.vm.findClass "[B" = some V.cls ∧ V.slots.size = A.slots.size ∧ ∀ j, j < A.slots.size → V.slots[j]? = some (.int (lo8 (cv A j)))) ∧
  ∀ (O n d : String) (w : Value), RoadKit.Fld Z h x O n d w → RoadKit.slotOf Z O n d ≠ RoadKit.slotOf Z ST "value" "[B" → RoadKit.slotOf Z O n d ≠ RoadKit.slotOf Z ST "coder" "B" → RoadKit.Fld Z h' x O n d w
/-- **new String(chars) AT A CALL, IN THE ROAD'S FORM**: for specialBack behind newO: x the fresh String, b the char[] with the cell A -/
theorem back {p : Program} {l : Launch} {e : Env} {R : Room} {s : State} {args : Array Value} {below : List Frame} {len W : Nat} {Z : State} {a0 : Array Value} {h : Heap} (hZ : Z.Warmed39 s.vm) (hw : ∀ d ∈ words, d.before a0 Z = true) {kI : Nat} (wi : (Jvm.Cond.instantiable ST kI).before a0 Z = true)
    {x b : Addr} {A : Cell} {z : Int32} {v0 c0 : Value} (E : RoadKit.Exa Z h x ST) (V : RoadKit.Fld Z h x ST "value" "[B" v0) (C : RoadKit.Fld Z h x ST "coder" "B" c0) (K : RoadKit.Arr Z h b A .char) (hty : Typed .char A) (S : RoadKit.Sta Z h ST "COMPACT_STRINGS" "Z" (.int z)) (hz : ¬ z = 0)
    (l0 : 0 < A.slots.size) (l2 : A.slots.size ≤ 536870912) (hp : ∀ i, i < A.slots.size → ¬ 255 < cv A i) (hfr : 4 ≤ R.frames) (hlo : W + 65 ≤ R.locals) :
    Back l R p e below s args New1.yN len W (fun P a => a = #[.ref x, .ref b] ∧ P.U.heap = h ∧ P.cells + 1 ≤ R.cells ∧ P.slots + A.slots.size ≤ R.slots)
      (fun P _ v B => ∃ L, Q Z x A h v B.U.heap L ∧ B.locs = P.locs ++ L ∧ B.cells = P.cells + 1 ∧ B.slots = P.slots + A.slots.size) := by
  intro m meth c P g ig mk a X hg hsize hdg hW hn hp'
  obtain ⟨rfl, rfl, r1, r2⟩ := hp'
  have al : Z.vm.Alike P.U.vm := hZ.alike.trans X.warmed.alike
  obtain ⟨D, cfV, kV, iV, fV, hD, gV, stV, knV, obV, asV, slV⟩ := id V
  obtain ⟨D', cfC, kC, iC, fC, hD', gC, stC, -, -, asC, slC⟩ := id C
  cases hD.symm.trans hD'
  obtain ⟨D2, kD, e1, e2, e3, e4, e5⟩ := id E
  cases hD.symm.trans e1
  obtain ⟨c2, k2, i1, i2, i3, -⟩ := Cond.instantiable_spec wi
  cases e2.symm.trans i1
  cases e3.symm.trans i2
  obtain ⟨kU, u1, u2⟩ := al.2.2 _ _ e3
  have hB : Blank ST x D P.U := ⟨hD, ⟨knV, fun q hq => by rw [hq] at obV; cases obV⟩, by rw [al.findClass]; exact e2, kU, u1, by rw [u2]; exact i3, by rw [u2]; exact e5 i3⟩
  have F1 : Found ST "value" "[B" fV P.U := ⟨SBG.found_only al ⟨cfV, kV, iV, gV⟩, stV⟩
  have F2 : Found ST "coder" "B" fC P.U := ⟨SBG.found_only al ⟨cfC, kC, iC, gC⟩, stC⟩
  have hA : Ch b A P.U := ⟨⟨K.1, State.isArrayOf_alike al K.2.1, K.2.2, by omega⟩, hty⟩
  have hS : StaticIs P.U ST "COMPACT_STRINGS" "Z" (.int z) := by
    obtain ⟨cfS, iS, kS, fS, st, cS, t1, t2, t3, t4, t5, t6, t7⟩ := S
    exact StaticIs.there (s := { Z with heap := P.U.heap }) ⟨cfS, iS, kS, fS, st, cS, t1, t2, t3, t4, t5, (fun q => by rw [q] at t6; cases t6), t7⟩ al rfl
  obtain ⟨v, B, X', ⟨⟨hv, E', V', q1, q2, q3, q4, q5, q6, q7, q8, q9, q10, q11⟩, hl, hc, hs⟩, st⟩ := New1.pays x D fV fC b A z (tab_of (moved hZ hw)) hfr hlo m meth c P g ig mk _ X hg hsize hdg hW hn ⟨r1, r2, rfl, hB, F1, F2, hA, hS, hz, l0, l2, hp⟩
  have al' : Z.vm.Alike B.U.vm := hZ.alike.trans X'.warmed.alike
  have hsz : E'.slots.size = D.slots.size := by
    obtain ⟨-, -, -, kB, w1, w2, w3⟩ := q1
    obtain ⟨kB', y1, y2⟩ := al'.2.2 _ _ e3
    rw [q2.2.1] at w1
    cases w1.symm.trans y1
    rw [w3, e5 i3, y2]
  refine ⟨v, B, X', ⟨_, ⟨hv, ?_, ⟨by omega, fun y cy hy hn' => q10 y cy (by simpa using hn') hy, fun y cy hy => ?_⟩, q11, ⟨E', _, q1.1, by rw [q2.2.1]; exact e2, by rw [q2.2.1]; exact e3, by rw [q2.1]; exact obV, fun _ => by rw [hsz]; exact e5 i3⟩,
    ⟨E', cfV, kV, iV, fV, q1.1, gV, stV, by rw [q2.1]; exact knV, by rw [q2.1]; exact obV, by rw [q2.2.1]; exact asV, q3⟩, ⟨E', cfC, kC, iC, fC, q1.1, gC, stC, by rw [q2.1]; exact knV, by rw [q2.1]; exact obV, by rw [q2.2.1]; exact asC, q4⟩,
    ⟨V', ⟨q5.1, State.isArrayOf_alike al'.symm q5.2.1, q5.2.2.1⟩, q6, by rw [← al'.findClass]; exact q7, q8, fun j hj => by have := q9 j hj; rwa [Nat.zero_add] at this⟩, fun O n d w F n1 n2 => ?_⟩, hl, hc, hs⟩, st⟩
  · intro y hy
    simp only [List.mem_cons, List.not_mem_nil, or_false] at hy
    rcases hy with rfl | rfl <;> rfl
  · by_cases q : y = x
    · subst q
      cases hD.symm.trans hy
      exact ⟨E', q1.1, q2.2.1, q2.1, hsz⟩
    · exact ⟨cy, q10 y cy q hy, rfl, rfl, rfl⟩
  · obtain ⟨D3, cf, k, i, f, g1, g2, g3, g4, g5, g6, g7⟩ := F
    cases hD.symm.trans g1
    simp only [RoadKit.slotOf, g2, gV, gC, Option.map_some, Option.getD_some] at n1 n2
    exact ⟨E', cf, k, i, f, q1.1, g2, g3, by rw [q2.1]; exact g4, by rw [q2.1]; exact g5, by rw [q2.2.1]; exact g6, by rw [q2.2.2 f.slot (by simp [n1, n2])]; exact g7⟩
end StrChars.Road
namespace StrChars.Road
open Jvm Sem ClassFile Op Lib Jvm.Stand Jvm.Free Jvm.Free.XT
/-- WHAT COMES BACK, the byte[] as a list of values -/
def QA (Z : State) (x : Addr) (zn : Int32) (cs : List Int32) (h : Heap) (v : Option Value) (h' : Heap) (L : List Loc) : Prop := v = none ∧ (∀ y ∈ L, y.base = x) ∧ RoadKit.Keep h h' [x] ∧ h'.size = h.size + 1 ∧ RoadKit.Exa Z h' x ST ∧ RoadKit.Fld Z h' x ST "value" "[B" (.ref h.size) ∧ RoadKit.Fld Z h' x ST "coder" "B" (.int 0) ∧
  (∃ kb, Z.vm.findClass "[B" = some kb ∧ RoadKit.Arv Z h' h.size kb .byte zn (cs.map fun c => .int (lo8 c)) (.int 0)) ∧
  ∀ (O n d : String) (w : Value), RoadKit.Fld Z h x O n d w → RoadKit.slotOf Z O n d ≠ RoadKit.slotOf Z ST "value" "[B" → RoadKit.slotOf Z O n d ≠ RoadKit.slotOf Z ST "coder" "B" → RoadKit.Fld Z h' x O n d w
/-- **new String(chars) AT A CALL, THE ARRAYS AS LISTS**: the char[] at b holds cs, not empty, no char above 255 -/
theorem backArv {p : Program} {l : Launch} {e : Env} {R : Room} {s : State} {args : Array Value} {below : List Frame} {len W : Nat} {Z : State} {a0 : Array Value} {h : Heap} (hZ : Z.Warmed39 s.vm) (hw : ∀ d ∈ words, d.before a0 Z = true) {kI : Nat} (wi : (Jvm.Cond.instantiable ST kI).before a0 Z = true)
    {x b : Addr} {k : ClassId} {zn z : Int32} {cs : List Int32} {dv v0 c0 : Value} (E : RoadKit.Exa Z h x ST) (V : RoadKit.Fld Z h x ST "value" "[B" v0) (C : RoadKit.Fld Z h x ST "coder" "B" c0) (K : RoadKit.Arv Z h b k .char zn (cs.map Value.int) dv) (S : RoadKit.Sta Z h ST "COMPACT_STRINGS" "Z" (.int z)) (hz : ¬ z = 0)
    (hlen : zn.toNatClampNeg = cs.length) (h0 : 0 < cs.length) (hbig : cs.length ≤ 536870912) (hall : ∀ c ∈ cs, ¬ 255 < c) (hfr : 4 ≤ R.frames) (hlo : W + 65 ≤ R.locals) :
    Back l R p e below s args New1.yN len W (fun P a => a = #[.ref x, .ref b] ∧ P.U.heap = h ∧ P.cells + 1 ≤ R.cells ∧ P.slots + cs.length ≤ R.slots)
      (fun P _ v B => ∃ L, QA Z x zn cs h v B.U.heap L ∧ B.locs = P.locs ++ L ∧ B.cells = P.cells + 1 ∧ B.slots = P.slots + cs.length) := by
  obtain ⟨A, K1, K2, K3, K4, K5, K6⟩ := K
  have e : A.slots.size = cs.length := K3.trans hlen
  have hat : ∀ (i : Nat) (hi : i < cs.length), A.slots[i]? = some (.int cs[i]) := fun i hi => by rw [K5 i (by omega)]; simp [List.getD_eq_getElem?_getD, hi]
  have hcv : ∀ (i : Nat) (hi : i < cs.length), cv A i = cs[i] := fun i hi => by unfold cv; rw [hat i hi]
  have hty : Typed .char A := fun i v hv => by
    have hi : i < A.slots.size := (Array.getElem?_eq_some_iff.mp hv).1
    have q := K5 i hi
    rw [hv] at q
    rw [Option.some.inj q]
    exact K6 i hi
  refine Back.mono (back hZ hw wi E V C K1 hty S hz (by omega) (by omega) (fun i hi => by rw [hcv i (by omega)]; exact hall _ (List.getElem_mem _)) hfr hlo) (fun P a hp => ⟨hp.1, hp.2.1, hp.2.2.1, by rw [e]; exact hp.2.2.2⟩) (fun P a v B hp hq => ?_)
  obtain ⟨L, ⟨q1, q2, q3, q4, q5, q6, q7, ⟨V', v1, v2, v3, v4, v5⟩, q9⟩, hl, hc, hs⟩ := hq
  refine ⟨L, ⟨q1, q2, q3, q4, q5, q6, q7, ⟨V'.cls, v3, V', v1, rfl, by rw [v4, e, hlen], K4, fun i hi => ?_, fun i hi => ?_⟩, q9⟩, hl, hc, by rw [hs, e]⟩
  · have hi' : i < cs.length := by omega
    rw [v5 i (by omega), hcv i hi']; simp [List.getD_eq_getElem?_getD, hi']
  · have hi' : i < cs.length := by omega
    simp only [List.getD_eq_getElem?_getD, List.getElem?_map, List.getElem?_eq_getElem hi', Option.map_some, Option.getD_some]
    exact fits_lo8 _
end StrChars.Road
namespace StrChars.Road
open Jvm Sem ClassFile Op Lib Jvm.Stand Jvm.Free Jvm.Free.XT
/-- WHAT COMES BACK, in the writer's own shape -/
def QV (Z : State) (x : Addr) (N : Int32) (bs : List Int32) (h : Heap) (n0 : Nat) (v : Option Value) (h' : Heap) (L : List Loc) : Prop := v = none ∧ RoadKit.Fr n0 L ∧ RoadKit.Keep h h' [x] ∧ RoadKit.Exa Z h' x ST ∧ RoadKit.Fld Z h' x ST "coder" "B" (.int 0) ∧
  ∃ (t : Addr) (kb : ClassId), n0 ≤ t ∧ h.size ≤ t ∧ ¬ t = x ∧ RoadKit.Fld Z h' x ST "value" "[B" (.ref t) ∧ RoadKit.Arv Z h' t kb .byte N (bs.map Value.int) (.int 0)
/-- **new String(chars) AT A CALL, FOR THE WRITER**: a char[] of n known ints, each 0 to 255 -/
theorem backV {p : Program} {l : Launch} {e : Env} {R : Room} {s : State} {args : Array Value} {below : List Frame} {len W : Nat} {Z : State} {a0 : Array Value} {h : Heap} (hZ : Z.Warmed39 s.vm) (hw : ∀ d ∈ words, d.before a0 Z = true) {kI : Nat} (wi : (Jvm.Cond.instantiable ST kI).before a0 Z = true)
    {x b : Addr} {kC : ClassId} {cs bs : List Int32} {d v0 c0 : Value} {z N : Int32} {n n0 : Nat} (hx0 : n0 ≤ x) (hh0 : n0 ≤ h.size) (E : RoadKit.Exa Z h x ST) (V : RoadKit.Fld Z h x ST "value" "[B" v0) (C : RoadKit.Fld Z h x ST "coder" "B" c0) (K : RoadKit.Arv Z h b kC .char N (cs.map Value.int) d) (S : RoadKit.Sta Z h ST "COMPACT_STRINGS" "Z" (.int z)) (hz : ¬ z = 0)
    (hn : cs.length = n) (hN : N = Int32.ofNat n) (l0 : 0 < n) (l2 : n ≤ 4000) (hp : ∀ c ∈ cs, ¬ c < 0 ∧ ¬ (255 : Int32) < c) (hb : bs = cs.map (fun c => c.toInt8.toInt32)) (hfr : 4 ≤ R.frames) (hlo : W + 65 ≤ R.locals) :
    Back l R p e below s args (⟨"java/lang/String", "<init>", "([C)V"⟩ : MethodName) len W (fun P a => a = #[.ref x, .ref b] ∧ P.U.heap = h ∧ P.cells + 1 ≤ R.cells ∧ P.slots + n ≤ R.slots)
      (fun P _ v B => ∃ L, QV Z x N bs h n0 v B.U.heap L ∧ B.locs = P.locs ++ L ∧ B.cells = P.cells + 1 ∧ B.slots = P.slots + n) := by
  subst hn hN hb
  refine Back.mono (backArv hZ hw wi E V C K S hz (n32 (by omega)) l0 (by omega) (fun c hc => (hp c hc).2) hfr hlo) (fun P a hp => hp) (fun P a v B hp hq => ?_)
  obtain ⟨L, ⟨q1, q2, q3, q4, q5, q6, q7, ⟨kb, v1, v2⟩, q9⟩, hl, hc, hs⟩ := hq
  exact ⟨L, ⟨q1, fun y hy => by rw [q2 y hy]; exact hx0, q3, q5, q7, h.size, kb, hh0, Nat.le_refl _, Nat.ne_of_gt E.lt, q6, by rw [List.map_map]; exact v2⟩, hl, hc, hs⟩
end StrChars.Road
namespace StrChars
open Jvm Sem ClassFile Op Lib Jvm.Stand Jvm.Free.XT Jvm.Free.ALB Jvm.Free.JM Jvm.Free
open Jvm.Lib.Cold (StaticIs)
def hi8 (x : Int32) : Int32 := lo8 (x >>> ((8 : Int32) &&& 31))
end StrChars
namespace StrChars.Road
open Jvm Sem ClassFile Op Lib Jvm.Stand Jvm.Free Jvm.Free.XT
open Jvm.Lib.Cold (StaticIs)
/-- the bytes of the chars cs, low before high -/
def wideBytes : List Int32 → List Value
  | [] => []
  | c :: cs => .int (lo8 c) :: .int (hi8 c) :: wideBytes cs
/-- an array of N2 bytes vs codes the chars cs by the coder cd -/
def CodA (cs : List Int32) (cd N2 : Int32) (vs : List Value) : Prop := (cd = 0 ∧ N2 = Int32.ofNat cs.length ∧ vs = (cs.map fun c => Value.int (lo8 c)) ∧ ∀ c ∈ cs, ¬ 255 < c) ∨ (cd = 1 ∧ N2 = Int32.ofNat (2 * cs.length) ∧ vs = wideBytes cs ∧ ∃ c ∈ cs, 255 < c)
end StrChars.Road
namespace StrChars.Road
open Jvm Sem ClassFile Op Lib Jvm.Stand Jvm.Free Jvm.Free.XT
open Jvm.Lib.Cold (StaticIs)
/-- what backV says of its String, as the contracts of this text ask it: cs's low bytes, coder 0 -/
theorem codOf {cs : List Int32} {n : Nat} (hn : cs.length = n) (hb : ∀ c ∈ cs, ¬ 255 < c) : CodA cs 0 (Int32.ofNat n) ((cs.map lo8).map Value.int) := Or.inl ⟨rfl, by rw [hn], by simp [List.map_map, Function.comp_def], hb⟩
end StrChars.Road
end Jvm.Pilot.@@N@@
namespace Jvm.Pilot.@@N@@
open Jvm Jvm.ClassFile Sem Op Lib Jvm.Free Jvm.Stand Jvm.LawKit Jvm.RoadKit Bundle Jvm.Pilot.@@N@@.Jvm.D

section OwnKit
variable {G : State → JFrame → Prop} {p : Program} {l : Launch} {e : Env} {R : Room} {s : State} {m : MethodId} {args : Array Value} {below : List Frame} {meth : Method} {c : Code} {Z : State} {n0 : Nat} {own nm : String} {bytes : ByteArray} {maxL : Nat} {ret : Option FieldType} {T : State} {h : Heap} {cells slots : Nat} {a0 : Array Value}
def own_Cl (p : Program) (e : Env) (below : List Frame) (G : State → JFrame → Prop) : Prop :=
  ∀ (T T' : State) (g g' : JFrame), (∀ t, Steps p.tables e below (T'.setTop g') t → Steps p.tables e below (T.setTop g) t) → G T' g' → G T g
def own_Cx (p : Program) (s : State) (m : MethodId) (meth : Method) (c : Code) (Z : State) (own nm : String) (bytes : ByteArray) (maxL : Nat) (ret : Option FieldType) : Prop :=
  p.tables.exec = Jvm.exec ∧ c.code = bytes ∧ Z.Warmed39 s.vm ∧ s.vm.findClass own = some m.cls ∧ c.maxLocals = maxL ∧ meth.name = nm ∧ meth.sig.returnType = ret ∧ meth.locks = false
def own_At (G : State → JFrame → Prop) (p : Program) (l : Launch) (e : Env) (R : Room) (s : State) (m : MethodId) (args : Array Value) (below : List Frame) (meth : Method) (c : Code) (Z : State) (n0 : Nat) (own nm : String) (bytes : ByteArray) (maxL : Nat) (ret : Option FieldType) (T : State) (h : Heap) (cells slots : Nat) : Prop :=
  own_Cl p e below G ∧ own_Cx p s m meth c Z own nm bytes maxL ret ∧ ∃ locs, Stand p l e R s m args below meth c T locs cells slots ∧ Fr n0 locs ∧ T.heap = h ∧ Old Z n0 h
def own_Fin (p : Program) (e : Env) (below : List Frame) (s : State) (Z : State) (n0 : Nat) (Q : Option Value → Heap → Prop) (k n : Nat) (T : State) (g : JFrame) : Prop :=
  ∃ s₂ o, Steps p.tables e below (T.setTop g) s₂ ∧ s₂.status = .running ∧ Ended s₂ below o ∧ ∃ v L, o = .returned v ∧ (Q v s₂.heap ∧ Fr n0 L ∧ Old Z n0 s₂.heap) ∧ FrameEnd s o s₂ L k n
theorem own_Fin_cl (p : Program) (e : Env) (below : List Frame) (s : State) (Z : State) (n0 : Nat) (Q : Option Value → Heap → Prop) (k n : Nat) : own_Cl p e below (own_Fin p e below s Z n0 Q k n) := by
  intro T T' g g' hs ⟨s₂, o, h1, h2⟩
  exact ⟨s₂, o, hs _ h1, h2⟩
/-- the contract of a body -/
def own_Met (l : Launch) (Z : State) (n0 : Nat) (y : MethodName) (bytes : ByteArray) (maxL : Nat) (ret : Option FieldType) (rm : Room) (as' : Array Value) (h0 : Heap) (Q : Option Value → Heap → Prop) : Prop :=
  ∀ ws, MetFree l y (head1 (Jvm.Cond.code y bytes maxL ret :: ws) rm) (fun a U => a = as' ∧ Z.Warmed39 U.vm ∧ U.heap = h0) (fun _ _ _ _ _ => True) (fun _ U o U' => ∃ v L, o = .returned v ∧ (Q v U'.heap ∧ Fr n0 L ∧ Old Z n0 U'.heap) ∧ FrameEnd U o U' L rm.cells rm.slots)
theorem own_enter {y : MethodName} {rm : Room} {as' : Array Value} {h0 : Heap} {Q : Option Value → Heap → Prop} (hpn : plainName y.cls = true) (ho : y.cls = own) (hn : y.name = nm) (hO : Old Z n0 h0)
    (H : ∀ (G : State → JFrame → Prop) (p : Program) (e : Env) (s : State) (m : MethodId) (below : List Frame) (meth : Method) (c : Code) (T : State), G = own_Fin p e below s Z n0 Q rm.cells rm.slots → own_At G p l e rm s m as' below meth c Z n0 own nm bytes maxL ret T h0 0 0 → G T (entryFrame m as' maxL)) :
    own_Met l Z n0 y bytes maxL ret rm as' h0 Q := by
  intro ws
  subst ho hn
  refine MetFree.of_bodySF (plainFor_of_name hpn) hisR ?_
  intro p e s m args below meth c s₁ Bd hml0 hP hK
  obtain ⟨rfl, hZ, hh⟩ := hP
  have e0 : s₁.heap = h0 := by rw [← hh, Bd.state]; rfl
  obtain ⟨s₂, o, h1, h2, h3, h4⟩ := H _ p e s m below meth c s₁ rfl ⟨own_Fin_cl p e below s Z n0 Q rm.cells rm.slots, ⟨Bd.exec, Bd.bytes, hZ, findClass_of_methodNamed Bd.named, hml0, (name_of_methodNamed Bd.named Bd.method).1, Bd.returns, BodyLoose.notSynchronized Bd⟩, [], Stand.of_body Bd, Fr.nil n0, e0, hO⟩
  exact ⟨s₂, o, h1, h2, h3, h4⟩
theorem own_at_heap (X : own_At G p l e R s m args below meth c Z n0 own nm bytes maxL ret T h cells slots) : T.heap = h := by obtain ⟨-, -, _, -, -, e, -⟩ := X; exact e
theorem own_old (X : own_At G p l e R s m args below meth c Z n0 own nm bytes maxL ret T h cells slots) : Old Z n0 h := by obtain ⟨-, -, _, -, -, -, e⟩ := X; exact e
theorem own_sta (X : own_At G p l e R s m args below meth c Z n0 own nm bytes maxL ret T h cells slots) {C n d : String} {v : Value} (S : Sta Z Z.heap C n d v) : Sta Z h C n d v := S.ext (own_old X).2
theorem own_n0 (X : own_At G p l e R s m args below meth c Z n0 own nm bytes maxL ret T h cells slots) : n0 ≤ h.size := by have := own_old X; rw [← this.1]; exact this.2.1
theorem own_mono (X : own_At G p l e R s m args below meth c Z n0 own nm bytes maxL ret T h cells slots) {cells' slots' : Nat} (h1 : cells ≤ cells') (h2 : slots ≤ slots') : own_At G p l e R s m args below meth c Z n0 own nm bytes maxL ret T h cells' slots' := by
  obtain ⟨hG, C, L, X, r⟩ := X
  exact ⟨hG, C, L, { X with same := X.same.mono h1 h2 }, r⟩
theorem own_ret {Q : Option Value → Heap → Prop} {k n : Nat} (X : own_At G p l e R s m args below meth c Z n0 own nm bytes maxL ret T h cells slots) (hGe : G = own_Fin p e below s Z n0 Q k n) {pc : Nat} {Ls : Array Slot} {w : Value} {t : FieldType} {i : Instr} {rest : List Value} (hret : ret = some t) (hn : narrow t w = w)
    (hi : (i = .ireturn ∧ (t = .int ∨ t = .boolean ∨ t = .byte ∨ t = .char ∨ t = .short) ∧ ∃ z, w = .int z) ∨ (i = .lreturn ∧ t = .long ∧ ∃ z, w = .long z) ∨ (i = .dreturn ∧ t = .double ∧ ∃ z, w = .double z) ∨ (i = .freturn ∧ t = .float ∧ ∃ z, w = .float z) ∨ (i = .areturn ∧ t.isReference = true ∧ w.isRef = true))
    (hd : decode bytes pc = .ok (i, 1)) (hk : cells ≤ k) (hs : slots ≤ n) (hQ : Q (some w) h) : G T (mkF m pc Ls (w :: rest)) := by
  obtain ⟨-, ⟨c1, c2, c3, c4, c5, c6, c7, c8⟩, L, X, N, eT, O⟩ := X
  have hr' : meth.sig.returnType = some t := c7.trans hret
  obtain ⟨fs, hr, hrun, hended, hW, hsame⟩ := X.leave (v := some w) (fun h => by rw [hr'] at h; cases h)
  rw [hGe]
  exact ⟨_, _, retOut X c1 hr' hn hi (hb c2 hd) hr, hrun, hended, _, L, rfl, ⟨by show Q _ T.heap; rw [eT]; exact hQ, N, by show Old Z n0 T.heap; rw [eT]; exact O⟩, ⟨_, rfl⟩, hW, hsame.mono hk hs⟩
theorem own_retV {Q : Option Value → Heap → Prop} {k n : Nat} (X : own_At G p l e R s m args below meth c Z n0 own nm bytes maxL ret T h cells slots) (hGe : G = own_Fin p e below s Z n0 Q k n) {pc : Nat} {Ls : Array Slot} (hret : ret = none)
    (hd : decode bytes pc = .ok (.return_, 1)) (hk : cells ≤ k) (hs : slots ≤ n) (hQ : Q none h) : G T (mkF m pc Ls []) := by
  obtain ⟨-, ⟨c1, c2, c3, c4, c5, c6, c7, c8⟩, L, X, N, eT, O⟩ := X
  have hr' : meth.sig.returnType = none := c7.trans hret
  obtain ⟨fs, hr, hrun, hended, hW, hsame⟩ := X.leave (v := none) (fun _ => rfl)
  rw [hGe]
  exact ⟨_, _, X.returnOut c1 hr' (hb c2 hd) hr, hrun, hended, _, L, rfl, ⟨by show Q _ T.heap; rw [eT]; exact hQ, N, by show Old Z n0 T.heap; rw [eT]; exact O⟩, ⟨_, rfl⟩, hW, hsame.mono hk hs⟩
def own_c16 (x : Int32) : Int32 := x.toUInt32.toUInt16.toUInt32.toInt32
def own_b8 (x : Int32) : Int32 := x.toInt8.toInt32
def own_ushr (x k : Int32) : Int32 := (x.toUInt32 >>> (k &&& 31).toUInt32).toInt32

theorem own_aconst_null (X : own_At G p l e R s m args below meth c Z n0 own nm bytes maxL ret T h cells slots) {pc pc' : Nat} {Ls : Array Slot} {st : List Value} (hd : decode bytes pc = .ok (.aconst_null, 1)) (hp : pc' = pc + 1)  (k : G T (mkF m pc' Ls (.null :: st))) : G T (mkF m pc Ls st) := by
  obtain ⟨hG, ⟨c1, c2, -⟩, L, X, -⟩ := X
  subst hp
  exact hG _ _ _ _ (fun t q => XS.aconstNull X.here c1 rfl (hb c2 hd) q) k
theorem own_iconst (X : own_At G p l e R s m args below meth c Z n0 own nm bytes maxL ret T h cells slots) {pc pc' : Nat} {Ls : Array Slot} {st : List Value} {i : Int} {z : Int32} (hd : decode bytes pc = .ok (.iconst i, 1)) (hp : pc' = pc + 1) (hz : Int32.ofInt i = z) (k : G T (mkF m pc' Ls (.int z :: st))) : G T (mkF m pc Ls st) := by
  obtain ⟨hG, ⟨c1, c2, -⟩, L, X, -⟩ := X
  subst hp
  exact hG _ _ _ _ (fun t q => XS.iconst X.here c1 rfl (hb c2 hd) (by rw [hz]; exact q)) k
theorem own_bipush (X : own_At G p l e R s m args below meth c Z n0 own nm bytes maxL ret T h cells slots) {pc pc' : Nat} {Ls : Array Slot} {st : List Value} {i : Int} {z : Int32} (hd : decode bytes pc = .ok (.bipush i, 2)) (hp : pc' = pc + 2) (hz : (Int8.ofInt i).toInt32 = z) (k : G T (mkF m pc' Ls (.int z :: st))) : G T (mkF m pc Ls st) := by
  obtain ⟨hG, ⟨c1, c2, -⟩, L, X, -⟩ := X
  subst hp
  exact hG _ _ _ _ (fun t q => XS.bipush X.here c1 rfl (hb c2 hd) (by rw [hz]; exact q)) k
theorem own_sipush (X : own_At G p l e R s m args below meth c Z n0 own nm bytes maxL ret T h cells slots) {pc pc' : Nat} {Ls : Array Slot} {st : List Value} {i : Int} {z : Int32} (hd : decode bytes pc = .ok (.sipush i, 3)) (hp : pc' = pc + 3) (hz : (Int16.ofInt i).toInt32 = z) (k : G T (mkF m pc' Ls (.int z :: st))) : G T (mkF m pc Ls st) := by
  obtain ⟨hG, ⟨c1, c2, -⟩, L, X, -⟩ := X
  subst hp
  exact hG _ _ _ _ (fun t q => XS.sipush X.here c1 rfl (hb c2 hd) (by rw [hz]; exact q)) k
theorem own_lconst (X : own_At G p l e R s m args below meth c Z n0 own nm bytes maxL ret T h cells slots) {pc pc' : Nat} {Ls : Array Slot} {st : List Value} {i : Fin 2} {z : Int64} (hd : decode bytes pc = .ok (.lconst i, 1)) (hp : pc' = pc + 1) (hz : Int64.ofNat i = z) (k : G T (mkF m pc' Ls (.long z :: st))) : G T (mkF m pc Ls st) := by
  obtain ⟨hG, ⟨c1, c2, -⟩, L, X, -⟩ := X
  subst hp
  exact hG _ _ _ _ (fun t q => XS.lconst X.here c1 rfl (hb c2 hd) (by rw [hz]; exact q)) k
theorem own_iload_n (X : own_At G p l e R s m args below meth c Z n0 own nm bytes maxL ret T h cells slots) {pc pc' : Nat} {Ls : Array Slot} {st : List Value} {i : Fin 4} {v : Int32} (hd : decode bytes pc = .ok (.iload_n i, 1)) (hp : pc' = pc + 1) (hl : Ls[i.val]? = some (.val (.int v))) (k : G T (mkF m pc' Ls (.int v :: st))) : G T (mkF m pc Ls st) := by
  obtain ⟨hG, ⟨c1, c2, -⟩, L, X, -⟩ := X
  subst hp
  exact hG _ _ _ _ (fun t q => XS.iloadN X.here c1 rfl (hb c2 hd) hl q) k
theorem own_iload (X : own_At G p l e R s m args below meth c Z n0 own nm bytes maxL ret T h cells slots) {pc pc' : Nat} {Ls : Array Slot} {st : List Value} {i : Nat} {v : Int32} (hd : decode bytes pc = .ok (.iload i, 2)) (hp : pc' = pc + 2) (hl : Ls[i]? = some (.val (.int v))) (k : G T (mkF m pc' Ls (.int v :: st))) : G T (mkF m pc Ls st) := by
  obtain ⟨hG, ⟨c1, c2, -⟩, L, X, -⟩ := X
  subst hp
  exact hG _ _ _ _ (fun t q => XS.iload X.here c1 rfl (hb c2 hd) hl q) k
theorem own_istore_n (X : own_At G p l e R s m args below meth c Z n0 own nm bytes maxL ret T h cells slots) {pc pc' : Nat} {Ls : Array Slot} {st : List Value} {i : Fin 4} {v : Int32} {Ls' : Array Slot} (hd : decode bytes pc = .ok (.istore_n i, 1)) (hp : pc' = pc + 1) (hl : storeLocals Ls i.val (.int v) = some Ls') (k : G T (mkF m pc' Ls' st)) : G T (mkF m pc Ls (.int v :: st)) := by
  obtain ⟨hG, ⟨c1, c2, -⟩, L, X, -⟩ := X
  subst hp
  exact hG _ _ _ _ (fun t q => XS.istoreN X.here c1 rfl (hb c2 hd) rfl hl q) k
theorem own_istore (X : own_At G p l e R s m args below meth c Z n0 own nm bytes maxL ret T h cells slots) {pc pc' : Nat} {Ls : Array Slot} {st : List Value} {i : Nat} {v : Int32} {Ls' : Array Slot} (hd : decode bytes pc = .ok (.istore i, 2)) (hp : pc' = pc + 2) (hl : storeLocals Ls i (.int v) = some Ls') (k : G T (mkF m pc' Ls' st)) : G T (mkF m pc Ls (.int v :: st)) := by
  obtain ⟨hG, ⟨c1, c2, -⟩, L, X, -⟩ := X
  subst hp
  exact hG _ _ _ _ (fun t q => XS.istore X.here c1 rfl (hb c2 hd) rfl hl q) k
theorem own_lload_n (X : own_At G p l e R s m args below meth c Z n0 own nm bytes maxL ret T h cells slots) {pc pc' : Nat} {Ls : Array Slot} {st : List Value} {i : Fin 4} {v : Int64} (hd : decode bytes pc = .ok (.lload_n i, 1)) (hp : pc' = pc + 1) (hl : Ls[i.val]? = some (.val (.long v))) (k : G T (mkF m pc' Ls (.long v :: st))) : G T (mkF m pc Ls st) := by
  obtain ⟨hG, ⟨c1, c2, -⟩, L, X, -⟩ := X
  subst hp
  exact hG _ _ _ _ (fun t q => XS.lloadN X.here c1 rfl (hb c2 hd) hl q) k
theorem own_lload (X : own_At G p l e R s m args below meth c Z n0 own nm bytes maxL ret T h cells slots) {pc pc' : Nat} {Ls : Array Slot} {st : List Value} {i : Nat} {v : Int64} (hd : decode bytes pc = .ok (.lload i, 2)) (hp : pc' = pc + 2) (hl : Ls[i]? = some (.val (.long v))) (k : G T (mkF m pc' Ls (.long v :: st))) : G T (mkF m pc Ls st) := by
  obtain ⟨hG, ⟨c1, c2, -⟩, L, X, -⟩ := X
  subst hp
  exact hG _ _ _ _ (fun t q => XS.lload X.here c1 rfl (hb c2 hd) hl q) k
theorem own_lstore_n (X : own_At G p l e R s m args below meth c Z n0 own nm bytes maxL ret T h cells slots) {pc pc' : Nat} {Ls : Array Slot} {st : List Value} {i : Fin 4} {v : Int64} {Ls' : Array Slot} (hd : decode bytes pc = .ok (.lstore_n i, 1)) (hp : pc' = pc + 1) (hl : storeLocals Ls i.val (.long v) = some Ls') (k : G T (mkF m pc' Ls' st)) : G T (mkF m pc Ls (.long v :: st)) := by
  obtain ⟨hG, ⟨c1, c2, -⟩, L, X, -⟩ := X
  subst hp
  exact hG _ _ _ _ (fun t q => XS.lstoreN X.here c1 rfl (hb c2 hd) rfl hl q) k
theorem own_lstore (X : own_At G p l e R s m args below meth c Z n0 own nm bytes maxL ret T h cells slots) {pc pc' : Nat} {Ls : Array Slot} {st : List Value} {i : Nat} {v : Int64} {Ls' : Array Slot} (hd : decode bytes pc = .ok (.lstore i, 2)) (hp : pc' = pc + 2) (hl : storeLocals Ls i (.long v) = some Ls') (k : G T (mkF m pc' Ls' st)) : G T (mkF m pc Ls (.long v :: st)) := by
  obtain ⟨hG, ⟨c1, c2, -⟩, L, X, -⟩ := X
  subst hp
  exact hG _ _ _ _ (fun t q => XS.lstore X.here c1 rfl (hb c2 hd) rfl hl q) k
theorem own_aload_n (X : own_At G p l e R s m args below meth c Z n0 own nm bytes maxL ret T h cells slots) {pc pc' : Nat} {Ls : Array Slot} {st : List Value} {i : Fin 4} {v : Value} (hd : decode bytes pc = .ok (.aload_n i, 1)) (hp : pc' = pc + 1) (hl : Ls[i.val]? = some (.val v)) (hv : v.isRef = true) (k : G T (mkF m pc' Ls (v :: st))) : G T (mkF m pc Ls st) := by
  obtain ⟨hG, ⟨c1, c2, -⟩, L, X, -⟩ := X
  subst hp
  exact hG _ _ _ _ (fun t q => XS.aloadN X.here c1 rfl (hb c2 hd) hl hv q) k
theorem own_aload (X : own_At G p l e R s m args below meth c Z n0 own nm bytes maxL ret T h cells slots) {pc pc' : Nat} {Ls : Array Slot} {st : List Value} {i : Nat} {v : Value} (hd : decode bytes pc = .ok (.aload i, 2)) (hp : pc' = pc + 2) (hl : Ls[i]? = some (.val v)) (hv : v.isRef = true) (k : G T (mkF m pc' Ls (v :: st))) : G T (mkF m pc Ls st) := by
  obtain ⟨hG, ⟨c1, c2, -⟩, L, X, -⟩ := X
  subst hp
  exact hG _ _ _ _ (fun t q => XS.aload X.here c1 rfl (hb c2 hd) hl hv q) k
theorem own_astore_n (X : own_At G p l e R s m args below meth c Z n0 own nm bytes maxL ret T h cells slots) {pc pc' : Nat} {Ls : Array Slot} {st : List Value} {i : Fin 4} {v : Value} {Ls' : Array Slot} (hd : decode bytes pc = .ok (.astore_n i, 1)) (hp : pc' = pc + 1) (hv : v.isRef = true) (hl : storeLocals Ls i.val v = some Ls') (k : G T (mkF m pc' Ls' st)) : G T (mkF m pc Ls (v :: st)) := by
  obtain ⟨hG, ⟨c1, c2, -⟩, L, X, -⟩ := X
  subst hp
  exact hG _ _ _ _ (fun t q => XS.astoreN X.here c1 rfl (hb c2 hd) rfl hv hl q) k
theorem own_astore (X : own_At G p l e R s m args below meth c Z n0 own nm bytes maxL ret T h cells slots) {pc pc' : Nat} {Ls : Array Slot} {st : List Value} {i : Nat} {v : Value} {Ls' : Array Slot} (hd : decode bytes pc = .ok (.astore i, 2)) (hp : pc' = pc + 2) (hv : v.isRef = true) (hl : storeLocals Ls i v = some Ls') (k : G T (mkF m pc' Ls' st)) : G T (mkF m pc Ls (v :: st)) := by
  obtain ⟨hG, ⟨c1, c2, -⟩, L, X, -⟩ := X
  subst hp
  exact hG _ _ _ _ (fun t q => XS.astore X.here c1 rfl (hb c2 hd) rfl hv hl q) k
theorem own_iinc (X : own_At G p l e R s m args below meth c Z n0 own nm bytes maxL ret T h cells slots) {pc pc' : Nat} {Ls : Array Slot} {st : List Value} {i : Nat} {cst : Int} {v z r : Int32} {Ls' : Array Slot} (hd : decode bytes pc = .ok (.iinc i cst, 3)) (hp : pc' = pc + 3) (hl : Ls[i]? = some (.val (.int v))) (hz : Int32.ofInt cst = z) (hr : v + z = r) (hs : storeLocals Ls i (.int r) = some Ls') (k : G T (mkF m pc' Ls' st)) : G T (mkF m pc Ls st) := by
  obtain ⟨hG, ⟨c1, c2, -⟩, L, X, -⟩ := X
  subst hp
  exact hG _ _ _ _ (fun t q => XS.iinc X.here c1 rfl (hb c2 hd) hl (by rw [hz, hr]; exact hs) q) k
theorem own_xpop2 {locs : List Loc} {target : State} (X : Stand p l e R s m args below meth c T locs cells slots) (hx : p.tables.exec = Jvm.exec) {pc : Nat} {Ls : Array Slot} {x : Int64} {rest : List Value} (hd : decode c.code pc = .ok (.pop2, 1)) (hr : Steps p.tables e below (T.setTop (mkF m (pc + 1) Ls rest)) target) : Steps p.tables e below (T.setTop (mkF m pc Ls (.long x :: rest))) target := by
  jvm_step X.here [X.here.top, hx, hd, pop2.sem, Value.category]
  exact hr
theorem own_iadd (X : own_At G p l e R s m args below meth c Z n0 own nm bytes maxL ret T h cells slots) {pc pc' : Nat} {Ls : Array Slot} {st : List Value} {x y r : Int32} (hd : decode bytes pc = .ok (.iadd, 1)) (hp : pc' = pc + 1) (hr : x + y = r) (k : G T (mkF m pc' Ls (.int r :: st))) : G T (mkF m pc Ls (.int y :: .int x :: st)) := by
  obtain ⟨hG, ⟨c1, c2, -⟩, L, X, -⟩ := X
  subst hp
  exact hG _ _ _ _ (fun t q => XS.iadd X.here c1 rfl (hb c2 hd) rfl (by subst hr; exact q)) k
theorem own_isub (X : own_At G p l e R s m args below meth c Z n0 own nm bytes maxL ret T h cells slots) {pc pc' : Nat} {Ls : Array Slot} {st : List Value} {x y r : Int32} (hd : decode bytes pc = .ok (.isub, 1)) (hp : pc' = pc + 1) (hr : x - y = r) (k : G T (mkF m pc' Ls (.int r :: st))) : G T (mkF m pc Ls (.int y :: .int x :: st)) := by
  obtain ⟨hG, ⟨c1, c2, -⟩, L, X, -⟩ := X
  subst hp
  exact hG _ _ _ _ (fun t q => XS.isub X.here c1 rfl (hb c2 hd) rfl (by subst hr; exact q)) k
theorem own_imul (X : own_At G p l e R s m args below meth c Z n0 own nm bytes maxL ret T h cells slots) {pc pc' : Nat} {Ls : Array Slot} {st : List Value} {x y r : Int32} (hd : decode bytes pc = .ok (.imul, 1)) (hp : pc' = pc + 1) (hr : x * y = r) (k : G T (mkF m pc' Ls (.int r :: st))) : G T (mkF m pc Ls (.int y :: .int x :: st)) := by
  obtain ⟨hG, ⟨c1, c2, -⟩, L, X, -⟩ := X
  subst hp
  exact hG _ _ _ _ (fun t q => XS.imul X.here c1 rfl (hb c2 hd) rfl (by subst hr; exact q)) k
theorem own_iand (X : own_At G p l e R s m args below meth c Z n0 own nm bytes maxL ret T h cells slots) {pc pc' : Nat} {Ls : Array Slot} {st : List Value} {x y r : Int32} (hd : decode bytes pc = .ok (.iand, 1)) (hp : pc' = pc + 1) (hr : x &&& y = r) (k : G T (mkF m pc' Ls (.int r :: st))) : G T (mkF m pc Ls (.int y :: .int x :: st)) := by
  obtain ⟨hG, ⟨c1, c2, -⟩, L, X, -⟩ := X
  subst hp
  exact hG _ _ _ _ (fun t q => XS.iand X.here c1 rfl (hb c2 hd) rfl (by subst hr; exact q)) k
theorem own_ior (X : own_At G p l e R s m args below meth c Z n0 own nm bytes maxL ret T h cells slots) {pc pc' : Nat} {Ls : Array Slot} {st : List Value} {x y r : Int32} (hd : decode bytes pc = .ok (.ior, 1)) (hp : pc' = pc + 1) (hr : x ||| y = r) (k : G T (mkF m pc' Ls (.int r :: st))) : G T (mkF m pc Ls (.int y :: .int x :: st)) := by
  obtain ⟨hG, ⟨c1, c2, -⟩, L, X, -⟩ := X
  subst hp
  exact hG _ _ _ _ (fun t q => XS.ior X.here c1 rfl (hb c2 hd) rfl (by subst hr; exact q)) k
theorem own_ixor (X : own_At G p l e R s m args below meth c Z n0 own nm bytes maxL ret T h cells slots) {pc pc' : Nat} {Ls : Array Slot} {st : List Value} {x y r : Int32} (hd : decode bytes pc = .ok (.ixor, 1)) (hp : pc' = pc + 1) (hr : x ^^^ y = r) (k : G T (mkF m pc' Ls (.int r :: st))) : G T (mkF m pc Ls (.int y :: .int x :: st)) := by
  obtain ⟨hG, ⟨c1, c2, -⟩, L, X, -⟩ := X
  subst hp
  exact hG _ _ _ _ (fun t q => XS.ixor X.here c1 rfl (hb c2 hd) rfl (by subst hr; exact q)) k
theorem own_ishl (X : own_At G p l e R s m args below meth c Z n0 own nm bytes maxL ret T h cells slots) {pc pc' : Nat} {Ls : Array Slot} {st : List Value} {x y r : Int32} (hd : decode bytes pc = .ok (.ishl, 1)) (hp : pc' = pc + 1) (hr : x <<< (y &&& 31) = r) (k : G T (mkF m pc' Ls (.int r :: st))) : G T (mkF m pc Ls (.int y :: .int x :: st)) := by
  obtain ⟨hG, ⟨c1, c2, -⟩, L, X, -⟩ := X
  subst hp
  exact hG _ _ _ _ (fun t q => XS.ishl X.here c1 rfl (hb c2 hd) rfl (by subst hr; exact q)) k
theorem own_ishr (X : own_At G p l e R s m args below meth c Z n0 own nm bytes maxL ret T h cells slots) {pc pc' : Nat} {Ls : Array Slot} {st : List Value} {x y r : Int32} (hd : decode bytes pc = .ok (.ishr, 1)) (hp : pc' = pc + 1) (hr : x >>> (y &&& 31) = r) (k : G T (mkF m pc' Ls (.int r :: st))) : G T (mkF m pc Ls (.int y :: .int x :: st)) := by
  obtain ⟨hG, ⟨c1, c2, -⟩, L, X, -⟩ := X
  subst hp
  exact hG _ _ _ _ (fun t q => XS.ishr X.here c1 rfl (hb c2 hd) rfl (by subst hr; exact q)) k
theorem own_iushr (X : own_At G p l e R s m args below meth c Z n0 own nm bytes maxL ret T h cells slots) {pc pc' : Nat} {Ls : Array Slot} {st : List Value} {x y r : Int32} (hd : decode bytes pc = .ok (.iushr, 1)) (hp : pc' = pc + 1) (hr : own_ushr x y = r) (k : G T (mkF m pc' Ls (.int r :: st))) : G T (mkF m pc Ls (.int y :: .int x :: st)) := by
  obtain ⟨hG, ⟨c1, c2, -⟩, L, X, -⟩ := X
  subst hp
  exact hG _ _ _ _ (fun t q => XS.iushr X.here c1 rfl (hb c2 hd) rfl (by subst hr; exact q)) k
theorem own_ladd (X : own_At G p l e R s m args below meth c Z n0 own nm bytes maxL ret T h cells slots) {pc pc' : Nat} {Ls : Array Slot} {st : List Value} {x y r : Int64} (hd : decode bytes pc = .ok (.ladd, 1)) (hp : pc' = pc + 1) (hr : x + y = r) (k : G T (mkF m pc' Ls (.long r :: st))) : G T (mkF m pc Ls (.long y :: .long x :: st)) := by
  obtain ⟨hG, ⟨c1, c2, -⟩, L, X, -⟩ := X
  subst hp
  exact hG _ _ _ _ (fun t q => XS.ladd X.here c1 rfl (hb c2 hd) rfl (by subst hr; exact q)) k
theorem own_lsub (X : own_At G p l e R s m args below meth c Z n0 own nm bytes maxL ret T h cells slots) {pc pc' : Nat} {Ls : Array Slot} {st : List Value} {x y r : Int64} (hd : decode bytes pc = .ok (.lsub, 1)) (hp : pc' = pc + 1) (hr : x - y = r) (k : G T (mkF m pc' Ls (.long r :: st))) : G T (mkF m pc Ls (.long y :: .long x :: st)) := by
  obtain ⟨hG, ⟨c1, c2, -⟩, L, X, -⟩ := X
  subst hp
  exact hG _ _ _ _ (fun t q => XS.lsub X.here c1 rfl (hb c2 hd) rfl (by subst hr; exact q)) k
theorem own_lmul (X : own_At G p l e R s m args below meth c Z n0 own nm bytes maxL ret T h cells slots) {pc pc' : Nat} {Ls : Array Slot} {st : List Value} {x y r : Int64} (hd : decode bytes pc = .ok (.lmul, 1)) (hp : pc' = pc + 1) (hr : x * y = r) (k : G T (mkF m pc' Ls (.long r :: st))) : G T (mkF m pc Ls (.long y :: .long x :: st)) := by
  obtain ⟨hG, ⟨c1, c2, -⟩, L, X, -⟩ := X
  subst hp
  exact hG _ _ _ _ (fun t q => XS.lmul X.here c1 rfl (hb c2 hd) rfl (by subst hr; exact q)) k
theorem own_land (X : own_At G p l e R s m args below meth c Z n0 own nm bytes maxL ret T h cells slots) {pc pc' : Nat} {Ls : Array Slot} {st : List Value} {x y r : Int64} (hd : decode bytes pc = .ok (.land, 1)) (hp : pc' = pc + 1) (hr : x &&& y = r) (k : G T (mkF m pc' Ls (.long r :: st))) : G T (mkF m pc Ls (.long y :: .long x :: st)) := by
  obtain ⟨hG, ⟨c1, c2, -⟩, L, X, -⟩ := X
  subst hp
  exact hG _ _ _ _ (fun t q => XS.land X.here c1 rfl (hb c2 hd) rfl (by subst hr; exact q)) k
theorem own_lor (X : own_At G p l e R s m args below meth c Z n0 own nm bytes maxL ret T h cells slots) {pc pc' : Nat} {Ls : Array Slot} {st : List Value} {x y r : Int64} (hd : decode bytes pc = .ok (.lor, 1)) (hp : pc' = pc + 1) (hr : x ||| y = r) (k : G T (mkF m pc' Ls (.long r :: st))) : G T (mkF m pc Ls (.long y :: .long x :: st)) := by
  obtain ⟨hG, ⟨c1, c2, -⟩, L, X, -⟩ := X
  subst hp
  exact hG _ _ _ _ (fun t q => XS.lor X.here c1 rfl (hb c2 hd) rfl (by subst hr; exact q)) k
theorem own_lxor (X : own_At G p l e R s m args below meth c Z n0 own nm bytes maxL ret T h cells slots) {pc pc' : Nat} {Ls : Array Slot} {st : List Value} {x y r : Int64} (hd : decode bytes pc = .ok (.lxor, 1)) (hp : pc' = pc + 1) (hr : x ^^^ y = r) (k : G T (mkF m pc' Ls (.long r :: st))) : G T (mkF m pc Ls (.long y :: .long x :: st)) := by
  obtain ⟨hG, ⟨c1, c2, -⟩, L, X, -⟩ := X
  subst hp
  exact hG _ _ _ _ (fun t q => XS.lxor X.here c1 rfl (hb c2 hd) rfl (by subst hr; exact q)) k
theorem own_lshl (X : own_At G p l e R s m args below meth c Z n0 own nm bytes maxL ret T h cells slots) {pc pc' : Nat} {Ls : Array Slot} {st : List Value} {x r : Int64} {y : Int32} (hd : decode bytes pc = .ok (.lshl, 1)) (hp : pc' = pc + 1) (hr : x <<< (y &&& 0x3f).toInt64 = r) (k : G T (mkF m pc' Ls (.long r :: st))) : G T (mkF m pc Ls (.int y :: .long x :: st)) := by
  obtain ⟨hG, ⟨c1, c2, -⟩, L, X, -⟩ := X
  subst hp
  exact hG _ _ _ _ (fun t q => XS.lshl X.here c1 rfl (hb c2 hd) rfl (by subst hr; exact q)) k
theorem own_lshr (X : own_At G p l e R s m args below meth c Z n0 own nm bytes maxL ret T h cells slots) {pc pc' : Nat} {Ls : Array Slot} {st : List Value} {x r : Int64} {y : Int32} (hd : decode bytes pc = .ok (.lshr, 1)) (hp : pc' = pc + 1) (hr : x >>> (y &&& 0x3f).toInt64 = r) (k : G T (mkF m pc' Ls (.long r :: st))) : G T (mkF m pc Ls (.int y :: .long x :: st)) := by
  obtain ⟨hG, ⟨c1, c2, -⟩, L, X, -⟩ := X
  subst hp
  exact hG _ _ _ _ (fun t q => XS.lshr X.here c1 rfl (hb c2 hd) rfl (by subst hr; exact q)) k
theorem own_idiv (X : own_At G p l e R s m args below meth c Z n0 own nm bytes maxL ret T h cells slots) {pc pc' : Nat} {Ls : Array Slot} {st : List Value} {x y : Int32} (hd : decode bytes pc = .ok (.idiv, 1)) (hp : pc' = pc + 1) (hy : y ≠ 0) (k : G T (mkF m pc' Ls (.int (x / y) :: st))) : G T (mkF m pc Ls (.int y :: .int x :: st)) := by
  obtain ⟨hG, ⟨c1, c2, -⟩, L, X, -⟩ := X
  subst hp
  exact hG _ _ _ _ (fun t q => XS.idiv X.here c1 rfl (hb c2 hd) rfl hy q) k
theorem own_irem (X : own_At G p l e R s m args below meth c Z n0 own nm bytes maxL ret T h cells slots) {pc pc' : Nat} {Ls : Array Slot} {st : List Value} {x y : Int32} (hd : decode bytes pc = .ok (.irem, 1)) (hp : pc' = pc + 1) (hy : y ≠ 0) (k : G T (mkF m pc' Ls (.int (x % y) :: st))) : G T (mkF m pc Ls (.int y :: .int x :: st)) := by
  obtain ⟨hG, ⟨c1, c2, -⟩, L, X, -⟩ := X
  subst hp
  exact hG _ _ _ _ (fun t q => iremM X c1 rfl (hb c2 hd) rfl hy q) k
theorem own_ldiv (X : own_At G p l e R s m args below meth c Z n0 own nm bytes maxL ret T h cells slots) {pc pc' : Nat} {Ls : Array Slot} {st : List Value} {x y : Int64} (hd : decode bytes pc = .ok (.ldiv, 1)) (hp : pc' = pc + 1) (hy : y ≠ 0) (k : G T (mkF m pc' Ls (.long (x / y) :: st))) : G T (mkF m pc Ls (.long y :: .long x :: st)) := by
  obtain ⟨hG, ⟨c1, c2, -⟩, L, X, -⟩ := X
  subst hp
  exact hG _ _ _ _ (fun t q => XS.ldiv X.here c1 rfl (hb c2 hd) rfl hy q) k
theorem own_lrem (X : own_At G p l e R s m args below meth c Z n0 own nm bytes maxL ret T h cells slots) {pc pc' : Nat} {Ls : Array Slot} {st : List Value} {x y : Int64} (hd : decode bytes pc = .ok (.lrem, 1)) (hp : pc' = pc + 1) (hy : y ≠ 0) (k : G T (mkF m pc' Ls (.long (x % y) :: st))) : G T (mkF m pc Ls (.long y :: .long x :: st)) := by
  obtain ⟨hG, ⟨c1, c2, -⟩, L, X, -⟩ := X
  subst hp
  exact hG _ _ _ _ (fun t q => XS.lrem X.here c1 rfl (hb c2 hd) rfl hy (by rw [lrem_mod]; exact q)) k
theorem own_ineg (X : own_At G p l e R s m args below meth c Z n0 own nm bytes maxL ret T h cells slots) {pc pc' : Nat} {Ls : Array Slot} {st : List Value} {x : Int32} (hd : decode bytes pc = .ok (.ineg, 1)) (hp : pc' = pc + 1)  (k : G T (mkF m pc' Ls (.int (-x) :: st))) : G T (mkF m pc Ls (.int x :: st)) := by
  obtain ⟨hG, ⟨c1, c2, -⟩, L, X, -⟩ := X
  subst hp
  exact hG _ _ _ _ (fun t q => XS.ineg X.here c1 rfl (hb c2 hd) rfl q) k
theorem own_i2c (X : own_At G p l e R s m args below meth c Z n0 own nm bytes maxL ret T h cells slots) {pc pc' : Nat} {Ls : Array Slot} {st : List Value} {x : Int32} (hd : decode bytes pc = .ok (.i2c, 1)) (hp : pc' = pc + 1)  (k : G T (mkF m pc' Ls (.int (own_c16 x) :: st))) : G T (mkF m pc Ls (.int x :: st)) := by
  obtain ⟨hG, ⟨c1, c2, -⟩, L, X, -⟩ := X
  subst hp
  exact hG _ _ _ _ (fun t q => XS.i2c X.here c1 rfl (hb c2 hd) rfl q) k
theorem own_i2b (X : own_At G p l e R s m args below meth c Z n0 own nm bytes maxL ret T h cells slots) {pc pc' : Nat} {Ls : Array Slot} {st : List Value} {x : Int32} (hd : decode bytes pc = .ok (.i2b, 1)) (hp : pc' = pc + 1)  (k : G T (mkF m pc' Ls (.int (own_b8 x) :: st))) : G T (mkF m pc Ls (.int x :: st)) := by
  obtain ⟨hG, ⟨c1, c2, -⟩, L, X, -⟩ := X
  subst hp
  exact hG _ _ _ _ (fun t q => XS.i2b X.here c1 rfl (hb c2 hd) rfl q) k
theorem own_i2l (X : own_At G p l e R s m args below meth c Z n0 own nm bytes maxL ret T h cells slots) {pc pc' : Nat} {Ls : Array Slot} {st : List Value} {x : Int32} {r : Int64} (hd : decode bytes pc = .ok (.i2l, 1)) (hp : pc' = pc + 1) (hr : x.toInt64 = r) (k : G T (mkF m pc' Ls (.long r :: st))) : G T (mkF m pc Ls (.int x :: st)) := by
  obtain ⟨hG, ⟨c1, c2, -⟩, L, X, -⟩ := X
  subst hp
  exact hG _ _ _ _ (fun t q => XS.i2l X.here c1 rfl (hb c2 hd) rfl (by subst hr; exact q)) k
theorem own_l2i (X : own_At G p l e R s m args below meth c Z n0 own nm bytes maxL ret T h cells slots) {pc pc' : Nat} {Ls : Array Slot} {st : List Value} {x : Int64} {r : Int32} (hd : decode bytes pc = .ok (.l2i, 1)) (hp : pc' = pc + 1) (hr : x.toInt32 = r) (k : G T (mkF m pc' Ls (.int r :: st))) : G T (mkF m pc Ls (.long x :: st)) := by
  obtain ⟨hG, ⟨c1, c2, -⟩, L, X, -⟩ := X
  subst hp
  exact hG _ _ _ _ (fun t q => XS.l2i X.here c1 rfl (hb c2 hd) rfl (by subst hr; exact q)) k
theorem own_pop2L (X : own_At G p l e R s m args below meth c Z n0 own nm bytes maxL ret T h cells slots) {pc pc' : Nat} {Ls : Array Slot} {st : List Value} {x : Int64} (hd : decode bytes pc = .ok (.pop2, 1)) (hp : pc' = pc + 1)  (k : G T (mkF m pc' Ls st)) : G T (mkF m pc Ls (.long x :: st)) := by
  obtain ⟨hG, ⟨c1, c2, -⟩, L, X, -⟩ := X
  subst hp
  exact hG _ _ _ _ (fun t q => own_xpop2 X c1 (hb c2 hd) q) k
theorem own_lcmp (X : own_At G p l e R s m args below meth c Z n0 own nm bytes maxL ret T h cells slots) {pc pc' : Nat} {Ls : Array Slot} {st : List Value} {x y : Int64} (hd : decode bytes pc = .ok (.lcmp, 1)) (hp : pc' = pc + 1)  (k : G T (mkF m pc' Ls (.int (lcmpW x y) :: st))) : G T (mkF m pc Ls (.long y :: .long x :: st)) := by
  obtain ⟨hG, ⟨c1, c2, -⟩, L, X, -⟩ := X
  subst hp
  exact hG _ _ _ _ (fun t q => XS.lcmp X.here c1 rfl (hb c2 hd) rfl q) k
theorem own_dup (X : own_At G p l e R s m args below meth c Z n0 own nm bytes maxL ret T h cells slots) {pc pc' : Nat} {Ls : Array Slot} {st : List Value} {x : Value} (hd : decode bytes pc = .ok (.dup, 1)) (hp : pc' = pc + 1) (hc : x.category = 1) (k : G T (mkF m pc' Ls (x :: x :: st))) : G T (mkF m pc Ls (x :: st)) := by
  obtain ⟨hG, ⟨c1, c2, -⟩, L, X, -⟩ := X
  subst hp
  exact hG _ _ _ _ (fun t q => XS.dup X.here c1 rfl (hb c2 hd) rfl hc q) k
theorem own_pop (X : own_At G p l e R s m args below meth c Z n0 own nm bytes maxL ret T h cells slots) {pc pc' : Nat} {Ls : Array Slot} {st : List Value} {x : Value} (hd : decode bytes pc = .ok (.pop, 1)) (hp : pc' = pc + 1) (hc : x.category = 1) (k : G T (mkF m pc' Ls st)) : G T (mkF m pc Ls (x :: st)) := by
  obtain ⟨hG, ⟨c1, c2, -⟩, L, X, -⟩ := X
  subst hp
  exact hG _ _ _ _ (fun t q => XS.pop X.here c1 rfl (hb c2 hd) rfl hc q) k
theorem own_dup_x1 (X : own_At G p l e R s m args below meth c Z n0 own nm bytes maxL ret T h cells slots) {pc pc' : Nat} {Ls : Array Slot} {st : List Value} {x y : Value} (hd : decode bytes pc = .ok (.dup_x1, 1)) (hp : pc' = pc + 1) (hc : x.category = 1) (hc2 : y.category = 1) (k : G T (mkF m pc' Ls (x :: y :: x :: st))) : G T (mkF m pc Ls (x :: y :: st)) := by
  obtain ⟨hG, ⟨c1, c2, -⟩, L, X, -⟩ := X
  subst hp
  exact hG _ _ _ _ (fun t q => XS.dupX1 X.here c1 rfl (hb c2 hd) rfl hc hc2 q) k
theorem own_goto (X : own_At G p l e R s m args below meth c Z n0 own nm bytes maxL ret T h cells slots) {pc pc' : Nat} {Ls : Array Slot} {st : List Value} {o : Int}  (hd : decode bytes pc = .ok (.goto o, 3))  (ho : 0 ≤ (pc : Int) + o) (hp : ((pc : Int) + o).toNat = pc') (k : G T (mkF m pc' Ls st)) : G T (mkF m pc Ls st) := by
  obtain ⟨hG, ⟨c1, c2, -⟩, L, X, -⟩ := X
  exact hG _ _ _ _ (fun t q => XS.goto X.here c1 rfl rfl (hb c2 hd) ho hp q) k
theorem own_ifY (X : own_At G p l e R s m args below meth c Z n0 own nm bytes maxL ret T h cells slots) {pc pc' : Nat} {Ls : Array Slot} {st : List Value} {o : Int} {cd : ClassFile.Cond} {x : Int32} (hd : decode bytes pc = .ok (.ifCond cd o, 3)) (hc : if_icmp.holds cd x 0 = true) (ho : 0 ≤ (pc : Int) + o) (hp : ((pc : Int) + o).toNat = pc') (k : G T (mkF m pc' Ls st)) : G T (mkF m pc Ls (.int x :: st)) := by
  obtain ⟨hG, ⟨c1, c2, -⟩, L, X, -⟩ := X
  exact hG _ _ _ _ (fun t q => XS.ifYes X.here c1 rfl rfl (hb c2 hd) rfl ((if0 _ _).trans hc) ho hp q) k
theorem own_ifN (X : own_At G p l e R s m args below meth c Z n0 own nm bytes maxL ret T h cells slots) {pc pc' : Nat} {Ls : Array Slot} {st : List Value} {o : Int} {cd : ClassFile.Cond} {x : Int32} (hd : decode bytes pc = .ok (.ifCond cd o, 3)) (hp : pc' = pc + 3) (hc : if_icmp.holds cd x 0 = false) (k : G T (mkF m pc' Ls st)) : G T (mkF m pc Ls (.int x :: st)) := by
  obtain ⟨hG, ⟨c1, c2, -⟩, L, X, -⟩ := X
  subst hp
  exact hG _ _ _ _ (fun t q => XS.ifNo X.here c1 rfl (hb c2 hd) rfl ((if0 _ _).trans hc) q) k
theorem own_icmpY (X : own_At G p l e R s m args below meth c Z n0 own nm bytes maxL ret T h cells slots) {pc pc' : Nat} {Ls : Array Slot} {st : List Value} {o : Int} {cd : ClassFile.Cond} {x y : Int32} (hd : decode bytes pc = .ok (.if_icmp cd o, 3)) (hc : if_icmp.holds cd x y = true) (ho : 0 ≤ (pc : Int) + o) (hp : ((pc : Int) + o).toNat = pc') (k : G T (mkF m pc' Ls st)) : G T (mkF m pc Ls (.int y :: .int x :: st)) := by
  obtain ⟨hG, ⟨c1, c2, -⟩, L, X, -⟩ := X
  exact hG _ _ _ _ (fun t q => XS.icmpYes X.here c1 rfl rfl (hb c2 hd) rfl hc ho hp q) k
theorem own_icmpN (X : own_At G p l e R s m args below meth c Z n0 own nm bytes maxL ret T h cells slots) {pc pc' : Nat} {Ls : Array Slot} {st : List Value} {o : Int} {cd : ClassFile.Cond} {x y : Int32} (hd : decode bytes pc = .ok (.if_icmp cd o, 3)) (hp : pc' = pc + 3) (hc : if_icmp.holds cd x y = false) (k : G T (mkF m pc' Ls st)) : G T (mkF m pc Ls (.int y :: .int x :: st)) := by
  obtain ⟨hG, ⟨c1, c2, -⟩, L, X, -⟩ := X
  subst hp
  exact hG _ _ _ _ (fun t q => XS.icmpNo X.here c1 rfl (hb c2 hd) rfl hc q) k
theorem own_ifnullY (X : own_At G p l e R s m args below meth c Z n0 own nm bytes maxL ret T h cells slots) {pc pc' : Nat} {Ls : Array Slot} {st : List Value} {o : Int}  (hd : decode bytes pc = .ok (.ifnull o, 3))  (ho : 0 ≤ (pc : Int) + o) (hp : ((pc : Int) + o).toNat = pc') (k : G T (mkF m pc' Ls st)) : G T (mkF m pc Ls (.null :: st)) := by
  obtain ⟨hG, ⟨c1, c2, -⟩, L, X, -⟩ := X
  exact hG _ _ _ _ (fun t q => XS.ifnullYes X.here c1 rfl rfl (hb c2 hd) rfl ho hp q) k
theorem own_ifnullN (X : own_At G p l e R s m args below meth c Z n0 own nm bytes maxL ret T h cells slots) {pc pc' : Nat} {Ls : Array Slot} {st : List Value} {o : Int} {b : Addr} (hd : decode bytes pc = .ok (.ifnull o, 3)) (hp : pc' = pc + 3)  (k : G T (mkF m pc' Ls st)) : G T (mkF m pc Ls (.ref b :: st)) := by
  obtain ⟨hG, ⟨c1, c2, -⟩, L, X, -⟩ := X
  subst hp
  exact hG _ _ _ _ (fun t q => XS.ifnullNo X.here c1 rfl (hb c2 hd) rfl q) k
theorem own_ifnonnullY (X : own_At G p l e R s m args below meth c Z n0 own nm bytes maxL ret T h cells slots) {pc pc' : Nat} {Ls : Array Slot} {st : List Value} {o : Int} {b : Addr} (hd : decode bytes pc = .ok (.ifnonnull o, 3))  (ho : 0 ≤ (pc : Int) + o) (hp : ((pc : Int) + o).toNat = pc') (k : G T (mkF m pc' Ls st)) : G T (mkF m pc Ls (.ref b :: st)) := by
  obtain ⟨hG, ⟨c1, c2, -⟩, L, X, -⟩ := X
  exact hG _ _ _ _ (fun t q => XS.ifnonnullYes X.here c1 rfl rfl (hb c2 hd) rfl ho hp q) k
theorem own_ifnonnullN (X : own_At G p l e R s m args below meth c Z n0 own nm bytes maxL ret T h cells slots) {pc pc' : Nat} {Ls : Array Slot} {st : List Value} {o : Int}  (hd : decode bytes pc = .ok (.ifnonnull o, 3)) (hp : pc' = pc + 3)  (k : G T (mkF m pc' Ls st)) : G T (mkF m pc Ls (.null :: st)) := by
  obtain ⟨hG, ⟨c1, c2, -⟩, L, X, -⟩ := X
  subst hp
  exact hG _ _ _ _ (fun t q => XS.ifnonnullNo X.here c1 rfl (hb c2 hd) rfl q) k
theorem own_acmp (X : own_At G p l e R s m args below meth c Z n0 own nm bytes maxL ret T h cells slots) {pc pc' : Nat} {Ls : Array Slot} {st : List Value} {o : Int} {cd : ACond} {x y : Value} {same : Bool} (hd : decode bytes pc = .ok (.if_acmp cd o, 3)) (h1 : x.isRef = true) (h2 : y.isRef = true) (hq : decide (x = y) = same) (ho : 0 ≤ (pc : Int) + o) (hp : pc' = if acV cd same = true then ((pc : Int) + o).toNat else pc + 3) (k : G T (mkF m pc' Ls st)) : G T (mkF m pc Ls (y :: x :: st)) := by
  obtain ⟨hG, ⟨c1, c2, -⟩, L, X, -⟩ := X
  exact hG _ _ _ _ (fun t q => Jvm.RoadKit.acmp (g := mkF m pc Ls (y :: x :: st)) X c1 rfl h1 h2 rfl (hb c2 hd) rfl hq ho hp q) k
theorem own_lcY {cd : ClassFile.Cond} {x y : Int64} {P : Prop} [Decidable P] {b : Bool} (h : if_icmp.holds cd (lcmpW x y) 0 = decide P) (q : decide P = b) : if_icmp.holds cd (lcmpW x y) 0 = b := h.trans q
theorem own_lc_eq {x y : Int64} (q : x = y) : if_icmp.holds .eq (lcmpW x y) 0 = true ∧ if_icmp.holds .ne (lcmpW x y) 0 = false := teq ((lw_eq x y).mpr q)
theorem own_lc_ne {x y : Int64} (q : ¬ x = y) : if_icmp.holds .eq (lcmpW x y) 0 = false ∧ if_icmp.holds .ne (lcmpW x y) 0 = true := feq (mt (lw_eq x y).mp q)
theorem own_lc_lt {x y : Int64} (q : x < y) : if_icmp.holds .lt (lcmpW x y) 0 = true ∧ if_icmp.holds .ge (lcmpW x y) 0 = false := by have := tlt ((lw_lt x y).mpr q); exact ⟨this.1, this.2.1⟩
theorem own_lc_nlt {x y : Int64} (q : ¬ x < y) : if_icmp.holds .lt (lcmpW x y) 0 = false ∧ if_icmp.holds .ge (lcmpW x y) 0 = true := by have := flt (mt (lw_lt x y).mp q); exact ⟨this.1, this.2.1⟩
theorem own_lc_gt {x y : Int64} (q : y < x) : if_icmp.holds .gt (lcmpW x y) 0 = true ∧ if_icmp.holds .le (lcmpW x y) 0 = false := by have := tlt ((lw_gt x y).mpr q); exact ⟨this.2.2.1, this.2.2.2⟩
theorem own_lc_ngt {x y : Int64} (q : ¬ y < x) : if_icmp.holds .gt (lcmpW x y) 0 = false ∧ if_icmp.holds .le (lcmpW x y) 0 = true := by have := flt (mt (lw_gt x y).mp q); exact ⟨this.2.2.1, this.2.2.2⟩
theorem own_ldc2 (X : own_At G p l e R s m args below meth c Z n0 own nm bytes maxL ret T h cells slots) {pc pc' : Nat} {Ls : Array Slot} {st : List Value} {i : Nat} {v : Int64} (w : (Cond.constantLong own i v).before a0 Z = true) (hd : decode bytes pc = .ok (.ldc2_w i, 3)) (hp : pc' = pc + 3) (k : G T (mkF m pc' Ls (.long v :: st))) : G T (mkF m pc Ls st) := by
  obtain ⟨hG, ⟨c1, c2, hZ, hown, -⟩, L, X, -⟩ := X
  subst hp
  exact hG _ _ _ _ (X.ldc2Long c1 hown (mvT hZ w) (g := mkF m pc Ls st) rfl (hb c2 hd)) k
theorem own_ldcI (X : own_At G p l e R s m args below meth c Z n0 own nm bytes maxL ret T h cells slots) {pc pc' : Nat} {Ls : Array Slot} {st : List Value} {i : Nat} {v : Int32} (w : (Cond.constant own i v).before a0 Z = true) (hd : decode bytes pc = .ok (.ldc i, 2)) (hp : pc' = pc + 2) (k : G T (mkF m pc' Ls (.int v :: st))) : G T (mkF m pc Ls st) := by
  obtain ⟨hG, ⟨c1, c2, hZ, hown, -⟩, L, X, -⟩ := X
  subst hp
  exact hG _ _ _ _ (X.ldcInt c1 hown (mvT hZ w) (g := mkF m pc Ls st) rfl (hb c2 hd)) k
theorem own_ldcS (X : own_At G p l e R s m args below meth c Z n0 own nm bytes maxL ret T h cells slots) {pc pc' : Nat} {Ls : Array Slot} {st : List Value} {i : Nat} {text : String} {a : Addr} (w : (Cond.stringRef own i text).before a0 Z = true) (F : Lit Z own i a) (hd : decode bytes pc = .ok (.ldc i, 2)) (hp : pc' = pc + 2) (k : G T (mkF m pc' Ls (.ref a :: st))) : G T (mkF m pc Ls st) := by
  obtain ⟨hG, ⟨c1, c2, hZ, hown, -⟩, L, X, -⟩ := X
  subst hp
  exact hG _ _ _ _ (ldcR X c1 hZ hown w F (g := mkF m pc Ls st) rfl (hb c2 hd)) k
theorem own_get (X : own_At G p l e R s m args below meth c Z n0 own nm bytes maxL ret T h cells slots) {pc pc' : Nat} {Ls : Array Slot} {st : List Value} {i : Nat} {R0 O n d host : String} {a : Addr} {v : Value} (w : (Cond.fieldLink own i R0 n d).before a0 Z = true ∨ (Cond.fieldLinkNest own i R0 n d host).before a0 Z = true) (via : Via Z R0 O n d) (F : Fld Z h a O n d v) (hd : decode bytes pc = .ok (.getfield i, 3)) (hp : pc' = pc + 3)
    (k : ∀ T', own_At G p l e R s m args below meth c Z n0 own nm bytes maxL ret T' h cells slots → G T' (mkF m pc' Ls (v :: st))) : G T (mkF m pc Ls (.ref a :: st)) := by
  obtain ⟨hG, ⟨c1, c2, hZ, hown, c5⟩, L, X, N, eT, O⟩ := X
  subst hp
  obtain ⟨T', X', e', st'⟩ := getF X c1 hZ hown w via eT F (g := mkF m pc Ls (.ref a :: st)) rfl rfl (hb c2 hd)
  exact hG _ _ _ _ st' (k _ ⟨hG, ⟨c1, c2, hZ, hown, c5⟩, L, X', N, e', O⟩)
theorem own_getS (X : own_At G p l e R s m args below meth c Z n0 own nm bytes maxL ret T h cells slots) {pc pc' : Nat} {Ls : Array Slot} {st : List Value} {i : Nat} {R0 O n d : String} {v : Value} (w : (Cond.fieldLink own i R0 n d).before a0 Z = true) (via : Via Z R0 O n d) (F : Sta Z h O n d v) (hd : decode bytes pc = .ok (.getstatic i, 3)) (hp : pc' = pc + 3)
    (k : ∀ T', own_At G p l e R s m args below meth c Z n0 own nm bytes maxL ret T' h cells slots → G T' (mkF m pc' Ls (v :: st))) : G T (mkF m pc Ls st) := by
  obtain ⟨hG, ⟨c1, c2, hZ, hown, c5⟩, L, X, N, eT, O⟩ := X
  subst hp
  obtain ⟨T', X', e', st'⟩ := getS (host := "") X c1 hZ hown w via eT F (g := mkF m pc Ls st) rfl (hb c2 hd)
  exact hG _ _ _ _ st' (k _ ⟨hG, ⟨c1, c2, hZ, hown, c5⟩, L, X', N, e', O⟩)
theorem own_put (X : own_At G p l e R s m args below meth c Z n0 own nm bytes maxL ret T h cells slots) {pc pc' : Nat} {Ls : Array Slot} {st : List Value} {i kk : Nat} {R0 O n d host C : String} {a : Addr} {v old : Value} {ty : FieldType} (w : (Cond.fieldLink own i R0 n d).before a0 Z = true ∨ (Cond.fieldLinkNest own i R0 n d host).before a0 Z = true) (via : Via Z R0 O n d) (F : Fld Z h a O n d old) (E : Exa Z h a C)
    (hL : (Cond.lays C O n d).before a0 Z = true ∨ ((Cond.laysFinal C O n d).before a0 Z = true ∧ own = O ∧ nm = "<init>")) (wi : (Cond.instantiable C kk).before a0 Z = true) (hty : parseFieldDescriptor d = some ty) (hn : narrow ty v = v) (hf : fits ty v = true) (ha : n0 ≤ a) (hd : decode bytes pc = .ok (.putfield i, 3)) (hp : pc' = pc + 3)
    (k : ∀ T' h', own_At G p l e R s m args below meth c Z n0 own nm bytes maxL ret T' h' cells slots → Wr h h' a (Jvm.RoadKit.slotOf Z O n d) v → Keep h h' [a] → G T' (mkF m pc' Ls st)) : G T (mkF m pc Ls (v :: .ref a :: st)) := by
  obtain ⟨hG, ⟨c1, c2, hZ, hown, c5, c6, c7⟩, L, X, N, eT, O⟩ := X
  subst hp
  obtain ⟨T', h', X', e', W', st'⟩ := putF X c1 hZ hown w via eT F E (hL.imp id fun q => ⟨q.1, q.2.1, c6.trans q.2.2⟩) wi hty hn hf (g := mkF m pc Ls (v :: .ref a :: st)) rfl rfl (hb c2 hd)
  exact hG _ _ _ _ st' (k _ _ ⟨hG, ⟨c1, c2, hZ, hown, c5, c6, c7⟩, _, X', Fr.snoc X' N ha, e', O.wr W' ha⟩ W' (Keep.of_wr W'))
theorem own_new (X : own_At G p l e R s m args below meth c Z n0 own nm bytes maxL ret T h cells slots) {pc pc' cells' slots' : Nat} {Ls : Array Slot} {st : List Value} {i n : Nat} {C : String} (w : (Cond.classLink own i C).before a0 Z = true) (wi : (Cond.instantiable C n).before a0 Z = true) (wz : (Cond.initialized C).before a0 Z = true) (hd : decode bytes pc = .ok (.new i, 3)) (hp : pc' = pc + 3) (ec : cells' = cells + 1) (es : slots' = slots + n) (hc : cells' ≤ R.cells) (hl : slots' ≤ R.slots)
    (k : ∀ T' h' a, a = h.size → own_At G p l e R s m args below meth c Z n0 own nm bytes maxL ret T' h' cells' slots' → Keep h h' [] → Exa Z h' a C → (∀ {O nm d : String} {ty : FieldType}, Laid Z a0 C O nm d → parseFieldDescriptor d = some ty → Fld Z h' a O nm d (defaultValue ty)) → (∃ cell : Cell, h'[a]? = some cell ∧ cell.vm = .none ∧ cell.monitor = {}) → G T' (mkF m pc' Ls (.ref a :: st))) : G T (mkF m pc Ls st) := by
  obtain ⟨hG, ⟨c1, c2, hZ, hown, c5⟩, L, X, N, eT, O⟩ := X
  subst hp ec es
  obtain ⟨T', h', X', e', E', A', D', U', st'⟩ := newO X c1 hZ hown w wi wz eT (g := mkF m pc Ls st) rfl (hb c2 hd) hc hl
  exact hG _ _ _ _ st' (k _ _ _ rfl ⟨hG, ⟨c1, c2, hZ, hown, c5⟩, _, X', N, e', O.ext E'⟩ ((Keep.refl _ _).ext E') A' D' U')
theorem own_initO (X : own_At G p l e R s m args below meth c Z n0 own nm bytes maxL ret T h cells slots) {pc pc' : Nat} {Ls : Array Slot} {st : List Value} {i : Nat} {a : Addr} {W : Nat} (w1 : (Cond.methodLink own i Lib.objectInit).before a0 Z = true) (w2 : (Cond.instanceMethod Lib.objectInit).before a0 Z = true) (w3 : (Cond.code Lib.objectInit ⟨#[0xb1]⟩ 1 none).before a0 Z = true) (hsz : Ls.size = maxL) (hd : decode bytes pc = .ok (.invokespecial i, 3)) (hp : pc' = pc + 3)
    (hf : 1 ≤ R.frames) (hW : (st.map fun v => v.category).sum = W) (hl : W + 12 ≤ R.locals) (k : ∀ T', own_At G p l e R s m args below meth c Z n0 own nm bytes maxL ret T' h cells slots → G T' (mkF m pc' Ls st)) : G T (mkF m pc Ls (.ref a :: st)) := by
  obtain ⟨hG, ⟨c1, c2, hZ, hown, c5, c6⟩, L, X, N, eT, O⟩ := X
  subst hp
  obtain ⟨T', X', e', st'⟩ := initO X c1 hZ hown w1 w2 w3 eT (g := mkF m pc Ls (.ref a :: st)) rfl (hsz.trans c5.symm) rfl (hb c2 hd) hf (W := W) (by show 2 * 0 + _ ≤ _; rw [hW]; omega) hl
  exact hG _ _ _ _ st' (k _ ⟨hG, ⟨c1, c2, hZ, hown, c5, c6⟩, L, X', N, e', O⟩)
def own_Arr (Z : State) (h : Heap) (a : Addr) (k : ClassId) (ty : FieldType) (vs : List Value) : Prop := ∃ c : Cell, Arr Z h a c ty ∧ c.cls = k ∧ c.slots.toList = vs ∧ vs.length < 2 ^ 31 ∧ ∀ v ∈ vs, fits ty v = true
theorem own_Arr.lt {a : Addr} {k : ClassId} {ty : FieldType} {vs : List Value} (F : own_Arr Z h a k ty vs) : a < h.size := by obtain ⟨c, A, -⟩ := F; exact A.lt
theorem own_Arr.keep {h' : Heap} {a : Addr} {k : ClassId} {ty : FieldType} {vs : List Value} {ws : List Addr} (F : own_Arr Z h a k ty vs) (K : Keep h h' ws) (q : a ∉ ws) : own_Arr Z h' a k ty vs := by
  obtain ⟨c, A, r⟩ := F; exact ⟨c, ⟨K.2.1 a c A.1 q, A.2⟩, r⟩
theorem own_Arr.arv {a : Addr} {k : ClassId} {ty : FieldType} {vs : List Value} {d : Value} {N : Int32} (F : own_Arr Z h a k ty vs) (hN : N = Int32.ofNat vs.length) : Arv Z h a k ty N vs d := by
  obtain ⟨c, A, r1, r2, r3, r4⟩ := F
  have q : N.toInt = vs.length := by rw [hN]; exact len_toInt r3
  have hs : c.slots.size = vs.length := by rw [← r2]; simp
  refine ⟨c, A, r1, by rw [hs]; simp only [Int32.toNatClampNeg, q]; omega, by rw [Int32.lt_iff_toInt_lt, q]; simp, fun i hi => ?_, fun i hi => ?_⟩
  · rw [← Array.getElem?_toList, r2, List.getElem?_eq_getElem (by omega)]; simp [List.getD, List.getElem?_eq_getElem (show i < vs.length by omega)]
  · have hi' : i < vs.length := by omega
    simp only [List.getD, List.getElem?_eq_getElem hi', Option.getD_some]; exact r4 _ (List.getElem_mem hi')
theorem own_Arr.of_arv {a : Addr} {k : ClassId} {ty : FieldType} {vs : List Value} {d : Value} {N : Int32} (F : Arv Z h a k ty N vs d) (hN : N.toNatClampNeg = vs.length) : own_Arr Z h a k ty vs := by
  obtain ⟨c, A, r1, r2, r3, r4, r5⟩ := F
  have hs : c.slots.size = vs.length := by omega
  have e : c.slots.toList = vs := by
    apply List.ext_getElem?
    intro i
    by_cases hi : i < vs.length
    · rw [Array.getElem?_toList, r4 i (by omega)]; simp [List.getD, List.getElem?_eq_getElem hi]
    · rw [List.getElem?_eq_none (by simpa using (by omega : c.slots.size ≤ i)), List.getElem?_eq_none (by omega)]
  refine ⟨c, A, r1, e, by rw [← hN]; exact (back32 r3).2, fun v hv => ?_⟩
  obtain ⟨i, hi, rfl⟩ := List.getElem_of_mem hv
  have := r5 i (by omega)
  simpa [List.getD, List.getElem?_eq_getElem hi] using this
theorem own_idx {n i : Nat} (hi : i < n) (hn : n < 2 ^ 31) {j : Int32} (hj : j.toInt = i) : ¬ (j < 0 ∨ n ≤ j.toNatClampNeg) ∧ j.toNatClampNeg = i := by
  have e : j.toNatClampNeg = i := by simp only [Int32.toNatClampNeg, hj]; omega
  refine ⟨?_, e⟩
  rw [e, Int32.lt_iff_toInt_lt, hj]; simp; omega
theorem own_ld {a : Addr} {k : ClassId} {ty : FieldType} {vs : List Value} {j : Int32} {i : Nat} {v : Value} (F : own_Arr Z h a k ty vs) (hj : j.toInt = i) (hv : vs[i]? = some v) : ∃ c : Cell, Arr Z h a c ty ∧ ¬ (j < 0 ∨ c.slots.size ≤ j.toNatClampNeg) ∧ c.slots[j.toNatClampNeg]? = some v := by
  obtain ⟨c, A, r1, r2, r3, r4⟩ := F
  have hi : i < vs.length := (List.getElem?_eq_some_iff.mp hv).1
  have hs : c.slots.size = vs.length := by rw [← r2]; simp
  obtain ⟨q1, q2⟩ := own_idx hi r3 hj
  exact ⟨c, A, by rw [hs]; exact q1, by rw [q2, ← Array.getElem?_toList, r2]; exact hv⟩
theorem own_iaload (X : own_At G p l e R s m args below meth c Z n0 own nm bytes maxL ret T h cells slots) {pc pc' : Nat} {Ls : Array Slot} {st : List Value} {a : Addr} {kc : ClassId} {vs : List Value} {j : Int32} {i : Nat} {v : Value} (F : own_Arr Z h a kc .int vs) (hj : j.toInt = i) (hv : vs[i]? = some v) (hd : decode bytes pc = .ok (.iaload, 1)) (hp : pc' = pc + 1) (k : G T (mkF m pc' Ls (v :: st))) : G T (mkF m pc Ls (.int j :: .ref a :: st)) := by
  obtain ⟨hG, ⟨c1, c2, hZ, -⟩, L, X, N, eT, O⟩ := X
  subst hp
  obtain ⟨cl, A, q1, q2⟩ := own_ld F hj hv
  exact hG _ _ _ _ (fun t q => X.iaload c1 (by rw [eT]; exact A.1) (State.isArrayOf_alike hZ.alike A.2.1) A.2.2 q1 q2 (g := mkF m pc Ls (.int j :: .ref a :: st)) rfl rfl (hb c2 hd) _ q) k
theorem own_laload (X : own_At G p l e R s m args below meth c Z n0 own nm bytes maxL ret T h cells slots) {pc pc' : Nat} {Ls : Array Slot} {st : List Value} {a : Addr} {kc : ClassId} {vs : List Value} {j : Int32} {i : Nat} {v : Value} (F : own_Arr Z h a kc .long vs) (hj : j.toInt = i) (hv : vs[i]? = some v) (hd : decode bytes pc = .ok (.laload, 1)) (hp : pc' = pc + 1) (k : G T (mkF m pc' Ls (v :: st))) : G T (mkF m pc Ls (.int j :: .ref a :: st)) := by
  obtain ⟨hG, ⟨c1, c2, hZ, -⟩, L, X, N, eT, O⟩ := X
  subst hp
  obtain ⟨cl, A, q1, q2⟩ := own_ld F hj hv
  exact hG _ _ _ _ (fun t q => X.laload c1 (by rw [eT]; exact A.1) (State.isArrayOf_alike hZ.alike A.2.1) A.2.2 q1 q2 (g := mkF m pc Ls (.int j :: .ref a :: st)) rfl rfl (hb c2 hd) _ q) k
theorem own_caload (X : own_At G p l e R s m args below meth c Z n0 own nm bytes maxL ret T h cells slots) {pc pc' : Nat} {Ls : Array Slot} {st : List Value} {a : Addr} {kc : ClassId} {vs : List Value} {j : Int32} {i : Nat} {v : Value} (F : own_Arr Z h a kc .char vs) (hj : j.toInt = i) (hv : vs[i]? = some v) (hd : decode bytes pc = .ok (.caload, 1)) (hp : pc' = pc + 1) (k : G T (mkF m pc' Ls (v :: st))) : G T (mkF m pc Ls (.int j :: .ref a :: st)) := by
  obtain ⟨hG, ⟨c1, c2, hZ, -⟩, L, X, N, eT, O⟩ := X
  subst hp
  obtain ⟨cl, A, q1, q2⟩ := own_ld F hj hv
  exact hG _ _ _ _ (fun t q => X.caload c1 (by rw [eT]; exact A.1) (State.isArrayOf_alike hZ.alike A.2.1) A.2.2 q1 q2 (g := mkF m pc Ls (.int j :: .ref a :: st)) rfl rfl (hb c2 hd) _ q) k
theorem own_baload (X : own_At G p l e R s m args below meth c Z n0 own nm bytes maxL ret T h cells slots) {pc pc' : Nat} {Ls : Array Slot} {st : List Value} {a : Addr} {kc : ClassId} {vs : List Value} {j : Int32} {i : Nat} {v : Value} (F : own_Arr Z h a kc .byte vs) (hj : j.toInt = i) (hv : vs[i]? = some v) (hd : decode bytes pc = .ok (.baload, 1)) (hp : pc' = pc + 1) (k : G T (mkF m pc' Ls (v :: st))) : G T (mkF m pc Ls (.int j :: .ref a :: st)) := by
  obtain ⟨hG, ⟨c1, c2, hZ, -⟩, L, X, N, eT, O⟩ := X
  subst hp
  obtain ⟨cl, A, q1, q2⟩ := own_ld F hj hv
  exact hG _ _ _ _ (fun t q => X.baloadBytes c1 (by rw [eT]; exact A.1) (State.isArrayOf_alike hZ.alike A.2.1) A.2.2 q1 q2 (g := mkF m pc Ls (.int j :: .ref a :: st)) rfl rfl (hb c2 hd) _ q) k
theorem own_aaload (X : own_At G p l e R s m args below meth c Z n0 own nm bytes maxL ret T h cells slots) {pc pc' : Nat} {Ls : Array Slot} {st : List Value} {ty : FieldType} {a : Addr} {kc : ClassId} {vs : List Value} {j : Int32} {i : Nat} {v : Value} (F : own_Arr Z h a kc ty vs) (hty : ty.isReference = true) (hj : j.toInt = i) (hv : vs[i]? = some v) (hd : decode bytes pc = .ok (.aaload, 1)) (hp : pc' = pc + 1) (k : G T (mkF m pc' Ls (v :: st))) : G T (mkF m pc Ls (.int j :: .ref a :: st)) := by
  obtain ⟨hG, ⟨c1, c2, hZ, -⟩, L, X, N, eT, O⟩ := X
  subst hp
  obtain ⟨cl, A, q1, q2⟩ := own_ld F hj hv
  exact hG _ _ _ _ (fun t q => X.aaload c1 (by rw [eT]; exact A.1) (State.isArrayOf_alike hZ.alike A.2.1) hty A.2.2 q1 q2 (g := mkF m pc Ls (.int j :: .ref a :: st)) rfl rfl (hb c2 hd) _ q) k
theorem own_arraylength (X : own_At G p l e R s m args below meth c Z n0 own nm bytes maxL ret T h cells slots) {pc pc' : Nat} {Ls : Array Slot} {st : List Value} {ty : FieldType} {a : Addr} {kc : ClassId} {vs : List Value} {z : Int32} (F : own_Arr Z h a kc ty vs) (hz : Int32.ofNat vs.length = z) (hd : decode bytes pc = .ok (.arraylength, 1)) (hp : pc' = pc + 1) (k : G T (mkF m pc' Ls (.int z :: st))) : G T (mkF m pc Ls (.ref a :: st)) := by
  obtain ⟨hG, ⟨c1, c2, hZ, -⟩, L, X, N, eT, O⟩ := X
  subst hp
  obtain ⟨cl, A, r1, r2, r3, r4⟩ := F
  have hs : cl.slots.size = vs.length := by rw [← r2]; simp
  exact hG _ _ _ _ (fun t q => X.arraylength c1 (by rw [eT]; exact A.1) (State.isArrayOf_alike hZ.alike A.2.1) (g := mkF m pc Ls (.ref a :: st)) rfl rfl (hb c2 hd) _ (by rw [hs, show vs.length.toInt32 = z from hz]; exact q)) k
theorem own_Arr.set {h' : Heap} {a : Addr} {k : ClassId} {ty : FieldType} {vs : List Value} {i : Nat} {v : Value} (F : own_Arr Z h a k ty vs) (W : Wr h h' a i v) (hv : fits ty v = true) : own_Arr Z h' a k ty (vs.set i v) := by
  obtain ⟨c, A, r1, r2, r3, r4⟩ := F
  refine ⟨_, A.same W, r1, ?_, by simpa using r3, fun x hx => ?_⟩
  · simp [Cell.setSlot, r2]
  · rcases List.mem_or_eq_of_mem_set hx with q | q
    · exact r4 _ q
    · rw [q]; exact hv
theorem own_newA (cA : ClassId) (ty : FieldType) (n : Int32) : (newA cA ty n).slots.toList = List.replicate n.toNatClampNeg (defaultValue ty) := by simp [newA]
theorem own_defit (aty : ArrayType) : fits (newarray.typeOf aty) (defaultValue (newarray.typeOf aty)) = true := by cases aty <;> rfl
theorem own_newarray (X : own_At G p l e R s m args below meth c Z n0 own nm bytes maxL ret T h cells slots) {pc pc' cells' slots' : Nat} {Ls : Array Slot} {st : List Value} {aty : ArrayType} {ty : FieldType} {z : Int32} {n : Nat} {dv : Value} (w : (Cond.arrayClass ty).before a0 Z = true) (ht : newarray.typeOf aty = ty) (hdv : defaultValue ty = dv) (hz : z.toInt = n) (hn : n ≤ 60000000) (hd : decode bytes pc = .ok (.newarray aty, 2)) (hp : pc' = pc + 2) (ec : cells' = cells + 1) {cap : Nat} (hcap : n ≤ cap) (hbig : cap ≤ 60000000) (es : slots' = slots + cap) (hc : cells' ≤ R.cells) (hl : slots' ≤ R.slots)
    (k : ∀ T' h' a kc, a = h.size → own_At G p l e R s m args below meth c Z n0 own nm bytes maxL ret T' h' cells' slots' → Keep h h' [] → own_Arr Z h' a kc ty (List.replicate n dv) → G T' (mkF m pc' Ls (.ref a :: st))) : G T (mkF m pc Ls (.int z :: st)) := by
  obtain ⟨hG, ⟨c1, c2, hZ, c5⟩, L, X, N, eT, O⟩ := X
  subst hp ec es ht hdv
  have hz0 : ¬ z < 0 := by rw [Int32.lt_iff_toInt_lt, hz]; simp
  have hzn : z.toNatClampNeg = n := by simp only [Int32.toNatClampNeg, hz]; omega
  obtain ⟨T', h', cA, X', e', E', A', st'⟩ := newP X c1 hZ w eT (g := mkF m pc Ls (.int z :: st)) rfl (hb c2 hd) rfl hz0 (cap := cap) (by omega) (by omega) hc hl
  refine hG _ _ _ _ st' (k _ _ _ cA rfl ⟨hG, ⟨c1, c2, hZ, c5⟩, _, X', N, e', O.ext E'⟩ ((Keep.refl _ _).ext E') ⟨_, A', rfl, by rw [own_newA, hzn], by simp; omega, fun v hv => ?_⟩)
  rw [List.eq_of_mem_replicate hv]; exact own_defit aty
theorem own_iastore (X : own_At G p l e R s m args below meth c Z n0 own nm bytes maxL ret T h cells slots) {pc pc' : Nat} {Ls : Array Slot} {st : List Value} {a : Addr} {kc : ClassId} {vs : List Value} {j : Int32} {i : Nat} {x : Int32} (F : own_Arr Z h a kc .int vs) (hj : j.toInt = i) (hi : i < vs.length) (ha : n0 ≤ a) (hd : decode bytes pc = .ok (.iastore, 1)) (hp : pc' = pc + 1)
    (k : ∀ T' h', own_At G p l e R s m args below meth c Z n0 own nm bytes maxL ret T' h' cells slots → Keep h h' [a] → own_Arr Z h' a kc .int (vs.set i (.int x)) → G T' (mkF m pc' Ls st)) : G T (mkF m pc Ls (.int x :: .int j :: .ref a :: st)) := by
  obtain ⟨hG, ⟨c1, c2, hZ, c5⟩, L, X, N, eT, O⟩ := X
  subst hp 
  have F0 := F
  obtain ⟨cl, A, r1, r2, r3, r4⟩ := F
  have hs : cl.slots.size = vs.length := by rw [← r2]; simp
  obtain ⟨q1, q2⟩ := own_idx hi r3 hj
  obtain ⟨T', h', X', e', W', st'⟩ := stI X c1 hZ eT A (j := j) (by rw [hs]; exact q1) (g := mkF m pc Ls (.int x :: .int j :: .ref a :: st)) rfl rfl (hb c2 hd)
  have K' := Keep.of_wr W'
  have O' := O.wr W' ha
  rw [q2] at W'
  exact hG _ _ _ _ st' (k _ _ ⟨hG, ⟨c1, c2, hZ, c5⟩, _, X', Fr.snoc X' N ha, e', O'⟩ K' (F0.set W' (rfl)))
theorem own_lastore (X : own_At G p l e R s m args below meth c Z n0 own nm bytes maxL ret T h cells slots) {pc pc' : Nat} {Ls : Array Slot} {st : List Value} {a : Addr} {kc : ClassId} {vs : List Value} {j : Int32} {i : Nat} {x : Int64} (F : own_Arr Z h a kc .long vs) (hj : j.toInt = i) (hi : i < vs.length) (ha : n0 ≤ a) (hd : decode bytes pc = .ok (.lastore, 1)) (hp : pc' = pc + 1)
    (k : ∀ T' h', own_At G p l e R s m args below meth c Z n0 own nm bytes maxL ret T' h' cells slots → Keep h h' [a] → own_Arr Z h' a kc .long (vs.set i (.long x)) → G T' (mkF m pc' Ls st)) : G T (mkF m pc Ls (.long x :: .int j :: .ref a :: st)) := by
  obtain ⟨hG, ⟨c1, c2, hZ, c5⟩, L, X, N, eT, O⟩ := X
  subst hp 
  have F0 := F
  obtain ⟨cl, A, r1, r2, r3, r4⟩ := F
  have hs : cl.slots.size = vs.length := by rw [← r2]; simp
  obtain ⟨q1, q2⟩ := own_idx hi r3 hj
  obtain ⟨T', h', X', e', W', st'⟩ := stJ X c1 hZ eT A (j := j) (by rw [hs]; exact q1) (g := mkF m pc Ls (.long x :: .int j :: .ref a :: st)) rfl rfl (hb c2 hd)
  have K' := Keep.of_wr W'
  have O' := O.wr W' ha
  rw [q2] at W'
  exact hG _ _ _ _ st' (k _ _ ⟨hG, ⟨c1, c2, hZ, c5⟩, _, X', Fr.snoc X' N ha, e', O'⟩ K' (F0.set W' (rfl)))
theorem own_castore (X : own_At G p l e R s m args below meth c Z n0 own nm bytes maxL ret T h cells slots) {pc pc' : Nat} {Ls : Array Slot} {st : List Value} {a : Addr} {kc : ClassId} {vs : List Value} {j : Int32} {i : Nat} {x y : Int32} (F : own_Arr Z h a kc .char vs) (hj : j.toInt = i) (hi : i < vs.length) (hy : nar .char x = y) (ha : n0 ≤ a) (hd : decode bytes pc = .ok (.castore, 1)) (hp : pc' = pc + 1)
    (k : ∀ T' h', own_At G p l e R s m args below meth c Z n0 own nm bytes maxL ret T' h' cells slots → Keep h h' [a] → own_Arr Z h' a kc .char (vs.set i (.int y)) → G T' (mkF m pc' Ls st)) : G T (mkF m pc Ls (.int x :: .int j :: .ref a :: st)) := by
  obtain ⟨hG, ⟨c1, c2, hZ, c5⟩, L, X, N, eT, O⟩ := X
  subst hp hy
  have F0 := F
  obtain ⟨cl, A, r1, r2, r3, r4⟩ := F
  have hs : cl.slots.size = vs.length := by rw [← r2]; simp
  obtain ⟨q1, q2⟩ := own_idx hi r3 hj
  obtain ⟨T', h', X', e', W', st'⟩ := stC X c1 hZ eT A (j := j) (by rw [hs]; exact q1) (g := mkF m pc Ls (.int x :: .int j :: .ref a :: st)) rfl rfl (hb c2 hd)
  have K' := Keep.of_wr W'
  have O' := O.wr W' ha
  rw [q2] at W'
  exact hG _ _ _ _ st' (k _ _ ⟨hG, ⟨c1, c2, hZ, c5⟩, _, X', Fr.snoc X' N ha, e', O'⟩ K' (F0.set W' (fits_nar_char _)))
theorem own_bastore (X : own_At G p l e R s m args below meth c Z n0 own nm bytes maxL ret T h cells slots) {pc pc' : Nat} {Ls : Array Slot} {st : List Value} {a : Addr} {kc : ClassId} {vs : List Value} {j : Int32} {i : Nat} {x y : Int32} (F : own_Arr Z h a kc .byte vs) (hj : j.toInt = i) (hi : i < vs.length) (hy : nar .byte x = y) (ha : n0 ≤ a) (hd : decode bytes pc = .ok (.bastore, 1)) (hp : pc' = pc + 1)
    (k : ∀ T' h', own_At G p l e R s m args below meth c Z n0 own nm bytes maxL ret T' h' cells slots → Keep h h' [a] → own_Arr Z h' a kc .byte (vs.set i (.int y)) → G T' (mkF m pc' Ls st)) : G T (mkF m pc Ls (.int x :: .int j :: .ref a :: st)) := by
  obtain ⟨hG, ⟨c1, c2, hZ, c5⟩, L, X, N, eT, O⟩ := X
  subst hp hy
  have F0 := F
  obtain ⟨cl, A, r1, r2, r3, r4⟩ := F
  have hs : cl.slots.size = vs.length := by rw [← r2]; simp
  obtain ⟨q1, q2⟩ := own_idx hi r3 hj
  obtain ⟨T', h', X', e', W', st'⟩ := stB X c1 hZ eT A (j := j) (by rw [hs]; exact q1) (g := mkF m pc Ls (.int x :: .int j :: .ref a :: st)) rfl rfl (hb c2 hd)
  have K' := Keep.of_wr W'
  have O' := O.wr W' ha
  rw [q2] at W'
  exact hG _ _ _ _ st' (k _ _ ⟨hG, ⟨c1, c2, hZ, c5⟩, _, X', Fr.snoc X' N ha, e', O'⟩ K' (F0.set W' (fits_nar_byte _)))
theorem own_back {y : MethodName} {bytes' : ByteArray} {maxL' : Nat} {ret' : Option FieldType} {rm : Room} {as' : Array Value} {Q : Option Value → Heap → Prop} {len W : Nat} (hM : own_Met l Z n0 y bytes' maxL' ret' rm as' h Q) (hZ : Z.Warmed39 s.vm) (wc : (Jvm.Cond.code y bytes' maxL' ret').before a0 Z = true) (wz : (Jvm.Cond.initialized y.cls).before a0 Z = true) (hf : rm.frames + 1 ≤ R.frames) (hl : W + (maxL' + 11) + rm.locals ≤ R.locals) :
    Back l R p e below s args y len W (fun A a => a = as' ∧ A.U.heap = h ∧ A.cells + rm.cells ≤ R.cells ∧ A.slots + rm.slots ≤ R.slots) (fun A _ v B => ∃ L, (Q v B.U.heap ∧ Fr n0 L ∧ Old Z n0 B.U.heap) ∧ B.locs = A.locs ++ L ∧ B.cells = A.cells + rm.cells ∧ B.slots = A.slots + rm.slots) :=
  backOf (Q := fun v h' L => Q v h' ∧ Fr n0 L ∧ Old Z n0 h') (hM []) hZ wc wz hf hl
theorem own_callS (X : own_At G p l e R s m args below meth c Z n0 own nm bytes maxL ret T h cells slots) {pc pc' cells' slots' : Nat} {Ls : Array Slot} {st argsL rest : List Value} {i kc ks W : Nat} {as' : Array Value} {QQ : Option Value → Heap → List Loc → Prop} {Q : Option Value → Heap → Prop} {y : MethodName} {bytes' : ByteArray} {maxL' : Nat} {ret' : Option FieldType} (w1 : (Cond.methodLink own i y).before a0 Z = true) (w2 : (Cond.static y).before a0 Z = true) (w3 : (Cond.initialized y.cls).before a0 Z = true) (w4 : (Cond.code y bytes' maxL' ret').before a0 Z = true) (hy : y.cls ≠ "java/lang/invoke/MethodHandle" ∧ y.cls ≠ "java/lang/invoke/VarHandle") (B : ∀ (hZ : Z.Warmed39 s.vm), Back l R p e below s args y 3 W (fun A a => a = as' ∧ A.U.heap = h ∧ A.cells + kc ≤ R.cells ∧ A.slots + ks ≤ R.slots) (fun A _ v B => ∃ L, QQ v B.U.heap L ∧ B.locs = A.locs ++ L ∧ B.cells = A.cells + kc ∧ B.slots = A.slots + ks)) (hQ : ∀ v h' L, QQ v h' L → Q v h' ∧ Fr n0 L ∧ Old Z n0 h') (hsz : Ls.size = maxL) (hlen : ∀ sig, parseMethodDescriptor y.desc = some sig → argsL.length = sig.parameters.length) (hs : st = argsL.reverse ++ rest) (hW : (rest.map fun v => v.category).sum = W) (hd : decode bytes pc = .ok (.invokestatic i, 3)) (hp : pc' = pc + 3) (ha : argsL.toArray = as') (ec : cells' = cells + kc) (es : slots' = slots + ks) (hc : cells' ≤ R.cells) (hl : slots' ≤ R.slots)
    (k : ∀ v T' h', own_At G p l e R s m args below meth c Z n0 own nm bytes maxL ret T' h' cells' slots' → Q v h' → G T' (mkF m pc' Ls (v.toList ++ rest))) : G T (mkF m pc Ls st) := by
  obtain ⟨hG, ⟨c1, c2, hZ, hown, c5, c6⟩, L, X, N, eT, O⟩ := X
  subst hp ec es ha hs
  obtain ⟨v, vm₁, ⟨T', L', k', n'⟩, -, X', ⟨Lc, hq, l', y', z'⟩, st'⟩ := Jvm.LawKit.callS X c1 hown (mvT hZ w1) (mvT hZ w2) (mvT hZ w3) (mvT hZ w4) hy (B hZ) (g := mkF m pc Ls (argsL.reverse ++ rest)) rfl (hsz.trans c5.symm) hlen rfl (by show 2 * 0 + _ ≤ _; rw [hW]; omega) (hb c2 hd) (fun _ _ => ⟨rfl, eT, hc, hl⟩)
  dsimp only [Pt.U, Pt.locs, Pt.cells, Pt.slots] at X' l' y' z' st' hq
  subst l' y' z'
  obtain ⟨q1, q2, q3⟩ := hQ _ _ _ hq
  exact hG _ _ _ _ st' (k _ _ _ ⟨hG, ⟨c1, c2, hZ, hown, c5, c6⟩, _, X', Fr.app N q2, rfl, q3⟩ q1)
theorem own_callI (X : own_At G p l e R s m args below meth c Z n0 own nm bytes maxL ret T h cells slots) {pc pc' cells' slots' : Nat} {Ls : Array Slot} {st argsL rest : List Value} {i kc ks W : Nat} {as' : Array Value} {QQ : Option Value → Heap → List Loc → Prop} {Q : Option Value → Heap → Prop} {y : MethodName} {bytes' : ByteArray} {maxL' : Nat} {a : Addr} (w1 : (Cond.methodLink own i y).before a0 Z = true) (w2 : (Cond.instanceMethod y).before a0 Z = true) (w4 : (Cond.code y bytes' maxL' none).before a0 Z = true) (hy0 : y.name = "<init>") (hy : y.cls ≠ "java/lang/invoke/MethodHandle" ∧ y.cls ≠ "java/lang/invoke/VarHandle") (B : ∀ (hZ : Z.Warmed39 s.vm), Back l R p e below s args y 3 W (fun A a => a = as' ∧ A.U.heap = h ∧ A.cells + kc ≤ R.cells ∧ A.slots + ks ≤ R.slots) (fun A _ v B => ∃ L, QQ v B.U.heap L ∧ B.locs = A.locs ++ L ∧ B.cells = A.cells + kc ∧ B.slots = A.slots + ks)) (hQ : ∀ v h' L, QQ v h' L → Q v h' ∧ Fr n0 L ∧ Old Z n0 h') (hsz : Ls.size = maxL) (hlen : ∀ sig, parseMethodDescriptor y.desc = some sig → argsL.length = sig.parameters.length) (hs : st = argsL.reverse ++ Value.ref a :: rest) (hW : (rest.map fun v => v.category).sum = W) (hd : decode bytes pc = .ok (.invokespecial i, 3)) (hp : pc' = pc + 3) (ha : (Value.ref a :: argsL).toArray = as') (ec : cells' = cells + kc) (es : slots' = slots + ks) (hc : cells' ≤ R.cells) (hl : slots' ≤ R.slots)
    (k : ∀ v T' h', own_At G p l e R s m args below meth c Z n0 own nm bytes maxL ret T' h' cells' slots' → Q v h' → G T' (mkF m pc' Ls (v.toList ++ rest))) : G T (mkF m pc Ls st) := by
  obtain ⟨hG, ⟨c1, c2, hZ, hown, c5, c6⟩, L, X, N, eT, O⟩ := X
  subst hp ec es ha hs
  obtain ⟨v, vm₁, ⟨T', L', k', n'⟩, -, X', ⟨Lc, hq, l', y', z'⟩, st'⟩ := Jvm.LawKit.callI X c1 hown hy0 (mvT hZ w1) (mvT hZ w2) (mvT hZ w4) hy (B hZ) (g := mkF m pc Ls (argsL.reverse ++ Value.ref a :: rest)) rfl (hsz.trans c5.symm) hlen rfl (by show 2 * 0 + _ ≤ _; rw [hW]; omega) (hb c2 hd) (fun _ _ => ⟨rfl, eT, hc, hl⟩)
  dsimp only [Pt.U, Pt.locs, Pt.cells, Pt.slots] at X' l' y' z' st' hq
  subst l' y' z'
  obtain ⟨q1, q2, q3⟩ := hQ _ _ _ hq
  exact hG _ _ _ _ st' (k _ _ _ ⟨hG, ⟨c1, c2, hZ, hown, c5, c6⟩, _, X', Fr.app N q2, rfl, q3⟩ q1)
theorem own_callV (X : own_At G p l e R s m args below meth c Z n0 own nm bytes maxL ret T h cells slots) {pc pc' cells' slots' : Nat} {Ls : Array Slot} {st argsL rest : List Value} {i kc ks W : Nat} {as' : Array Value} {QQ : Option Value → Heap → List Loc → Prop} {Q : Option Value → Heap → Prop} {y z : MethodName} {C : String} {a : Addr} (w1 : (Cond.methodLink own i y).before a0 Z = true) (w2 : (Cond.declares y).before a0 Z = true) (nf : ∀ s' : State, Z.Warmed39 s'.vm → NotFace s' y) (w3 : (Cond.selects C y z).before a0 Z = true) (w4 : (Cond.instanceMethod z).before a0 Z = true) (hy : y.cls ≠ "java/lang/invoke/MethodHandle" ∧ y.cls ≠ "java/lang/invoke/VarHandle") (E : Exa Z h a C) (B : ∀ (hZ : Z.Warmed39 s.vm), Back l R p e below s args z 3 W (fun A a => a = as' ∧ A.U.heap = h ∧ A.cells + kc ≤ R.cells ∧ A.slots + ks ≤ R.slots) (fun A _ v B => ∃ L, QQ v B.U.heap L ∧ B.locs = A.locs ++ L ∧ B.cells = A.cells + kc ∧ B.slots = A.slots + ks)) (hQ : ∀ v h' L, QQ v h' L → Q v h' ∧ Fr n0 L ∧ Old Z n0 h') (hsz : Ls.size = maxL) (hlen : ∀ sig, parseMethodDescriptor y.desc = some sig → argsL.length = sig.parameters.length) (hs : st = argsL.reverse ++ Value.ref a :: rest) (hW : (rest.map fun v => v.category).sum = W) (hd : decode bytes pc = .ok (.invokevirtual i, 3)) (hp : pc' = pc + 3) (ha : (Value.ref a :: argsL).toArray = as') (ec : cells' = cells + kc) (es : slots' = slots + ks) (hc : cells' ≤ R.cells) (hl : slots' ≤ R.slots)
    (k : ∀ v T' h', own_At G p l e R s m args below meth c Z n0 own nm bytes maxL ret T' h' cells' slots' → Q v h' → G T' (mkF m pc' Ls (v.toList ++ rest))) : G T (mkF m pc Ls st) := by
  obtain ⟨hG, ⟨c1, c2, hZ, hown, c5, c6⟩, L, X, N, eT, O⟩ := X
  subst hp ec es ha hs
  obtain ⟨v, vm₁, ⟨T', L', k', n'⟩, -, X', ⟨Lc, hq, l', y', z'⟩, st'⟩ := (have ⟨_, _, q1, _, q3⟩ := isOf hZ eT E; X.virtualBack c1 hown (mvT hZ w1) (mvT hZ w2) (nf s hZ) (mvT hZ w3) (mvT hZ w4) hy (B hZ) q1 q3 (g := mkF m pc Ls (argsL.reverse ++ Value.ref a :: rest)) rfl (hsz.trans c5.symm) (Steps.refl _) hlen rfl (by show 2 * 0 + _ ≤ _; rw [hW]; omega) (hb c2 hd) (fun _ _ => ⟨rfl, eT, hc, hl⟩))
  dsimp only [Pt.U, Pt.locs, Pt.cells, Pt.slots] at X' l' y' z' st' hq
  subst l' y' z'
  obtain ⟨q1, q2, q3⟩ := hQ _ _ _ hq
  exact hG _ _ _ _ (fun t q => st'.trans q) (k _ _ _ ⟨hG, ⟨c1, c2, hZ, hown, c5, c6⟩, _, X', Fr.app N q2, rfl, q3⟩ q1)
theorem own_callF (X : own_At G p l e R s m args below meth c Z n0 own nm bytes maxL ret T h cells slots) {pc pc' cells' slots' : Nat} {Ls : Array Slot} {st argsL rest : List Value} {i kc ks W : Nat} {as' : Array Value} {QQ : Option Value → Heap → List Loc → Prop} {Q : Option Value → Heap → Prop} {y z : MethodName} {C : String} {a : Addr} {cnt : Nat} (w1 : (Cond.methodLink own i y).before a0 Z = true) (w2 : (Cond.declares y).before a0 Z = true) (wf : ∀ (s' : State) (a' : Array Value), Z.Warmed39 s'.vm → (Cond.interfaceMethod y.cls y.cls y.name y.desc).before a' s' = true) (w3 : (Cond.selects C y z).before a0 Z = true) (w4 : (Cond.instanceMethod z).before a0 Z = true) (w5 : (Cond.publicMethod z).before a0 Z = true) (w6 : (Cond.unhidden C y.name y.desc).before a0 Z = true) (w7 : (Cond.castable C y.cls).before a0 Z = true) (hy : y.cls ≠ "java/lang/invoke/MethodHandle" ∧ y.cls ≠ "java/lang/invoke/VarHandle") (E : Exa Z h a C) (B : ∀ (hZ : Z.Warmed39 s.vm), Back l R p e below s args z 5 W (fun A a => a = as' ∧ A.U.heap = h ∧ A.cells + kc ≤ R.cells ∧ A.slots + ks ≤ R.slots) (fun A _ v B => ∃ L, QQ v B.U.heap L ∧ B.locs = A.locs ++ L ∧ B.cells = A.cells + kc ∧ B.slots = A.slots + ks)) (hQ : ∀ v h' L, QQ v h' L → Q v h' ∧ Fr n0 L ∧ Old Z n0 h') (hsz : Ls.size = maxL) (hlen : ∀ sig, parseMethodDescriptor y.desc = some sig → argsL.length = sig.parameters.length) (hs : st = argsL.reverse ++ Value.ref a :: rest) (hW : (rest.map fun v => v.category).sum = W) (hd : decode bytes pc = .ok (.invokeinterface i cnt, 5)) (hp : pc' = pc + 5) (ha : (Value.ref a :: argsL).toArray = as') (ec : cells' = cells + kc) (es : slots' = slots + ks) (hc : cells' ≤ R.cells) (hl : slots' ≤ R.slots)
    (k : ∀ v T' h', own_At G p l e R s m args below meth c Z n0 own nm bytes maxL ret T' h' cells' slots' → Q v h' → G T' (mkF m pc' Ls (v.toList ++ rest))) : G T (mkF m pc Ls st) := by
  obtain ⟨hG, ⟨c1, c2, hZ, hown, c5, c6⟩, L, X, N, eT, O⟩ := X
  subst hp ec es ha hs
  obtain ⟨v, vm₁, ⟨T', L', k', n'⟩, -, X', ⟨Lc, hq, l', y', z'⟩, st'⟩ := (have ⟨_, _, q1, q2, q3⟩ := isOf hZ eT E; X.interfaceBack c1 hown (mvT hZ w1) (mvT hZ w2) (wf s args hZ) (mvT hZ w3) (mvT hZ w4) (mvT hZ w5) (mvT hZ w6) (mvT hZ w7) hy (B hZ) q1 q2 q3 (g := mkF m pc Ls (argsL.reverse ++ Value.ref a :: rest)) rfl (hsz.trans c5.symm) (Steps.refl _) hlen rfl (by show 2 * 0 + _ ≤ _; rw [hW]; omega) (hb c2 hd) (fun _ _ => ⟨rfl, eT, hc, hl⟩))
  dsimp only [Pt.U, Pt.locs, Pt.cells, Pt.slots] at X' l' y' z' st' hq
  subst l' y' z'
  obtain ⟨q1, q2, q3⟩ := hQ _ _ _ hq
  exact hG _ _ _ _ (fun t q => st'.trans q) (k _ _ _ ⟨hG, ⟨c1, c2, hZ, hown, c5, c6⟩, _, X', Fr.app N q2, rfl, q3⟩ q1)
theorem own_callSM (X : own_At G p l e R s m args below meth c Z n0 own nm bytes maxL ret T h cells slots) {pc pc' cells' slots' : Nat} {Ls : Array Slot} {st argsL rest : List Value} {i W : Nat} {as' : Array Value} {Q : Option Value → Heap → Prop} {rm : Room} {y : MethodName} {bytes' : ByteArray} {maxL' : Nat} {ret' : Option FieldType} (w1 : (Cond.methodLink own i y).before a0 Z = true) (w2 : (Cond.static y).before a0 Z = true) (hy : y.cls ≠ "java/lang/invoke/MethodHandle" ∧ y.cls ≠ "java/lang/invoke/VarHandle") (M : own_Met l Z n0 y bytes' maxL' ret' rm as' h Q) (wc : (Jvm.Cond.code y bytes' maxL' ret').before a0 Z = true) (wz : (Jvm.Cond.initialized y.cls).before a0 Z = true) (hf : rm.frames + 1 ≤ R.frames) (hlo : W + (maxL' + 11) + rm.locals ≤ R.locals) (hsz : Ls.size = maxL) (hlen : ∀ sig, parseMethodDescriptor y.desc = some sig → argsL.length = sig.parameters.length) (hs : st = argsL.reverse ++ rest) (hW : (rest.map fun v => v.category).sum = W) (hd : decode bytes pc = .ok (.invokestatic i, 3)) (hp : pc' = pc + 3) (ha : argsL.toArray = as') (ec : cells' = cells + rm.cells) (es : slots' = slots + rm.slots) (hc : cells' ≤ R.cells) (hl : slots' ≤ R.slots)
    (k : ∀ v T' h', own_At G p l e R s m args below meth c Z n0 own nm bytes maxL ret T' h' cells' slots' → Q v h' → G T' (mkF m pc' Ls (v.toList ++ rest))) : G T (mkF m pc Ls st) :=
  own_callS (QQ := fun v h' L => Q v h' ∧ Fr n0 L ∧ Old Z n0 h') (kc := rm.cells) (ks := rm.slots) X w1 w2 wz wc hy (fun hZ => own_back M hZ wc wz hf hlo) (fun _ _ _ q => q) hsz hlen hs hW hd hp ha ec es hc hl k
theorem own_callIM (X : own_At G p l e R s m args below meth c Z n0 own nm bytes maxL ret T h cells slots) {pc pc' cells' slots' : Nat} {Ls : Array Slot} {st argsL rest : List Value} {i W : Nat} {as' : Array Value} {Q : Option Value → Heap → Prop} {rm : Room} {y : MethodName} {bytes' : ByteArray} {maxL' : Nat} {a : Addr} (w1 : (Cond.methodLink own i y).before a0 Z = true) (w2 : (Cond.instanceMethod y).before a0 Z = true) (hy0 : y.name = "<init>") (hy : y.cls ≠ "java/lang/invoke/MethodHandle" ∧ y.cls ≠ "java/lang/invoke/VarHandle") (M : own_Met l Z n0 y bytes' maxL' none rm as' h Q) (wc : (Jvm.Cond.code y bytes' maxL' none).before a0 Z = true) (wz : (Jvm.Cond.initialized y.cls).before a0 Z = true) (hf : rm.frames + 1 ≤ R.frames) (hlo : W + (maxL' + 11) + rm.locals ≤ R.locals) (hsz : Ls.size = maxL) (hlen : ∀ sig, parseMethodDescriptor y.desc = some sig → argsL.length = sig.parameters.length) (hs : st = argsL.reverse ++ Value.ref a :: rest) (hW : (rest.map fun v => v.category).sum = W) (hd : decode bytes pc = .ok (.invokespecial i, 3)) (hp : pc' = pc + 3) (ha : (Value.ref a :: argsL).toArray = as') (ec : cells' = cells + rm.cells) (es : slots' = slots + rm.slots) (hc : cells' ≤ R.cells) (hl : slots' ≤ R.slots)
    (k : ∀ v T' h', own_At G p l e R s m args below meth c Z n0 own nm bytes maxL ret T' h' cells' slots' → Q v h' → G T' (mkF m pc' Ls (v.toList ++ rest))) : G T (mkF m pc Ls st) :=
  own_callI (QQ := fun v h' L => Q v h' ∧ Fr n0 L ∧ Old Z n0 h') (kc := rm.cells) (ks := rm.slots) X w1 w2 wc hy0 hy (fun hZ => own_back M hZ wc wz hf hlo) (fun _ _ _ q => q) hsz hlen hs hW hd hp ha ec es hc hl k
theorem own_callVM (X : own_At G p l e R s m args below meth c Z n0 own nm bytes maxL ret T h cells slots) {pc pc' cells' slots' : Nat} {Ls : Array Slot} {st argsL rest : List Value} {i W : Nat} {as' : Array Value} {Q : Option Value → Heap → Prop} {rm : Room} {y z : MethodName} {C : String} {a : Addr} {bytes' : ByteArray} {maxL' : Nat} {ret' : Option FieldType} (w1 : (Cond.methodLink own i y).before a0 Z = true) (w2 : (Cond.declares y).before a0 Z = true) (nf : ∀ s' : State, Z.Warmed39 s'.vm → NotFace s' y) (w3 : (Cond.selects C y z).before a0 Z = true) (w4 : (Cond.instanceMethod z).before a0 Z = true) (hy : y.cls ≠ "java/lang/invoke/MethodHandle" ∧ y.cls ≠ "java/lang/invoke/VarHandle") (E : Exa Z h a C) (M : own_Met l Z n0 z bytes' maxL' ret' rm as' h Q) (wc : (Jvm.Cond.code z bytes' maxL' ret').before a0 Z = true) (wz : (Jvm.Cond.initialized z.cls).before a0 Z = true) (hf : rm.frames + 1 ≤ R.frames) (hlo : W + (maxL' + 11) + rm.locals ≤ R.locals) (hsz : Ls.size = maxL) (hlen : ∀ sig, parseMethodDescriptor y.desc = some sig → argsL.length = sig.parameters.length) (hs : st = argsL.reverse ++ Value.ref a :: rest) (hW : (rest.map fun v => v.category).sum = W) (hd : decode bytes pc = .ok (.invokevirtual i, 3)) (hp : pc' = pc + 3) (ha : (Value.ref a :: argsL).toArray = as') (ec : cells' = cells + rm.cells) (es : slots' = slots + rm.slots) (hc : cells' ≤ R.cells) (hl : slots' ≤ R.slots)
    (k : ∀ v T' h', own_At G p l e R s m args below meth c Z n0 own nm bytes maxL ret T' h' cells' slots' → Q v h' → G T' (mkF m pc' Ls (v.toList ++ rest))) : G T (mkF m pc Ls st) :=
  own_callV (QQ := fun v h' L => Q v h' ∧ Fr n0 L ∧ Old Z n0 h') (kc := rm.cells) (ks := rm.slots) X w1 w2 nf w3 w4 hy E (fun hZ => own_back M hZ wc wz hf hlo) (fun _ _ _ q => q) hsz hlen hs hW hd hp ha ec es hc hl k
theorem own_callFM (X : own_At G p l e R s m args below meth c Z n0 own nm bytes maxL ret T h cells slots) {pc pc' cells' slots' : Nat} {Ls : Array Slot} {st argsL rest : List Value} {i W : Nat} {as' : Array Value} {Q : Option Value → Heap → Prop} {rm : Room} {y z : MethodName} {C : String} {a : Addr} {cnt : Nat} {bytes' : ByteArray} {maxL' : Nat} {ret' : Option FieldType} (w1 : (Cond.methodLink own i y).before a0 Z = true) (w2 : (Cond.declares y).before a0 Z = true) (wf : ∀ (s' : State) (a' : Array Value), Z.Warmed39 s'.vm → (Cond.interfaceMethod y.cls y.cls y.name y.desc).before a' s' = true) (w3 : (Cond.selects C y z).before a0 Z = true) (w4 : (Cond.instanceMethod z).before a0 Z = true) (w5 : (Cond.publicMethod z).before a0 Z = true) (w6 : (Cond.unhidden C y.name y.desc).before a0 Z = true) (w7 : (Cond.castable C y.cls).before a0 Z = true) (hy : y.cls ≠ "java/lang/invoke/MethodHandle" ∧ y.cls ≠ "java/lang/invoke/VarHandle") (E : Exa Z h a C) (M : own_Met l Z n0 z bytes' maxL' ret' rm as' h Q) (wc : (Jvm.Cond.code z bytes' maxL' ret').before a0 Z = true) (wz : (Jvm.Cond.initialized z.cls).before a0 Z = true) (hf : rm.frames + 1 ≤ R.frames) (hlo : W + (maxL' + 11) + rm.locals ≤ R.locals) (hsz : Ls.size = maxL) (hlen : ∀ sig, parseMethodDescriptor y.desc = some sig → argsL.length = sig.parameters.length) (hs : st = argsL.reverse ++ Value.ref a :: rest) (hW : (rest.map fun v => v.category).sum = W) (hd : decode bytes pc = .ok (.invokeinterface i cnt, 5)) (hp : pc' = pc + 5) (ha : (Value.ref a :: argsL).toArray = as') (ec : cells' = cells + rm.cells) (es : slots' = slots + rm.slots) (hc : cells' ≤ R.cells) (hl : slots' ≤ R.slots)
    (k : ∀ v T' h', own_At G p l e R s m args below meth c Z n0 own nm bytes maxL ret T' h' cells' slots' → Q v h' → G T' (mkF m pc' Ls (v.toList ++ rest))) : G T (mkF m pc Ls st) :=
  own_callF (QQ := fun v h' L => Q v h' ∧ Fr n0 L ∧ Old Z n0 h') (kc := rm.cells) (ks := rm.slots) X w1 w2 wf w3 w4 w5 w6 w7 hy E (fun hZ => own_back M hZ wc wz hf hlo) (fun _ _ _ q => q) hsz hlen hs hW hd hp ha ec es hc hl k
theorem own_instY (X : own_At G p l e R s m args below meth c Z n0 own nm bytes maxL ret T h cells slots) {pc pc' : Nat} {Ls : Array Slot} {st : List Value} {i : Nat} {K : String} {a : Addr} (w : (Cond.classLink own i K).before a0 Z = true) (F : Ins Z h a K true) (hd : decode bytes pc = .ok (.instanceof i, 3)) (hp : pc' = pc + 3)
    (k : ∀ T', own_At G p l e R s m args below meth c Z n0 own nm bytes maxL ret T' h cells slots → G T' (mkF m pc' Ls (.int 1 :: st))) : G T (mkF m pc Ls (.ref a :: st)) := by
  obtain ⟨hG, ⟨c1, c2, hZ, hown, c5⟩, L, X, N, eT, O⟩ := X
  subst hp
  obtain ⟨T', X', e', st'⟩ := instY X c1 hZ hown w eT F (g := mkF m pc Ls (.ref a :: st)) rfl rfl (hb c2 hd)
  exact hG _ _ _ _ st' (k _ ⟨hG, ⟨c1, c2, hZ, hown, c5⟩, L, X', N, e', O⟩)
theorem own_castY (X : own_At G p l e R s m args below meth c Z n0 own nm bytes maxL ret T h cells slots) {pc pc' : Nat} {Ls : Array Slot} {st : List Value} {i : Nat} {K : String} {a : Addr} (w : (Cond.classLink own i K).before a0 Z = true) (F : Ins Z h a K true) (hd : decode bytes pc = .ok (.checkcast i, 3)) (hp : pc' = pc + 3)
    (k : ∀ T', own_At G p l e R s m args below meth c Z n0 own nm bytes maxL ret T' h cells slots → G T' (mkF m pc' Ls (.ref a :: st))) : G T (mkF m pc Ls (.ref a :: st)) := by
  obtain ⟨hG, ⟨c1, c2, hZ, hown, c5⟩, L, X, N, eT, O⟩ := X
  subst hp
  obtain ⟨T', X', e', st'⟩ := castY X c1 hZ hown w eT F (g := mkF m pc Ls (.ref a :: st)) rfl rfl (hb c2 hd)
  exact hG _ _ _ _ st' (k _ ⟨hG, ⟨c1, c2, hZ, hown, c5⟩, L, X', N, e', O⟩)
theorem own_instN (X : own_At G p l e R s m args below meth c Z n0 own nm bytes maxL ret T h cells slots) {pc pc' : Nat} {Ls : Array Slot} {st : List Value} {i : Nat} {K C : String} {a : Addr} (w : (Cond.classLink own i K).before a0 Z = true) (E : Exa Z h a C) (F : ∃ c t, Z.vm.findClass C = some c ∧ Z.vm.findClass K = some t ∧ Z.vm.assignable c t = false) (hd : decode bytes pc = .ok (.instanceof i, 3)) (hp : pc' = pc + 3)
    (k : ∀ T', own_At G p l e R s m args below meth c Z n0 own nm bytes maxL ret T' h cells slots → G T' (mkF m pc' Ls (.int 0 :: st))) : G T (mkF m pc Ls (.ref a :: st)) := by
  obtain ⟨hG, ⟨c1, c2, hZ, hown, c5⟩, L, X, N, eT, O⟩ := X
  subst hp
  obtain ⟨T', X', e', st'⟩ := instNo X c1 hZ hown w eT E F (g := mkF m pc Ls (.ref a :: st)) rfl rfl (hb c2 hd)
  exact hG _ _ _ _ st' (k _ ⟨hG, ⟨c1, c2, hZ, hown, c5⟩, L, X', N, e', O⟩)
theorem own_instNull (X : own_At G p l e R s m args below meth c Z n0 own nm bytes maxL ret T h cells slots) {pc pc' : Nat} {Ls : Array Slot} {st : List Value} {i : Nat} (hd : decode bytes pc = .ok (.instanceof i, 3)) (hp : pc' = pc + 3)
    (k : G T (mkF m pc' Ls (.int 0 :: st))) : G T (mkF m pc Ls (.null :: st)) := by
  obtain ⟨hG, ⟨c1, c2, hZ, hown, c5⟩, L, X, N, eT, O⟩ := X
  subst hp
  exact hG _ _ _ _ (X.instanceofNull c1 (g := mkF m pc Ls (.null :: st)) rfl rfl (hb c2 hd)) k
theorem own_castNull (X : own_At G p l e R s m args below meth c Z n0 own nm bytes maxL ret T h cells slots) {pc pc' : Nat} {Ls : Array Slot} {st : List Value} {i : Nat} (hd : decode bytes pc = .ok (.checkcast i, 3)) (hp : pc' = pc + 3)
    (k : G T (mkF m pc' Ls (.null :: st))) : G T (mkF m pc Ls (.null :: st)) := by
  obtain ⟨hG, ⟨c1, c2, hZ, hown, c5⟩, L, X, N, eT, O⟩ := X
  subst hp
  exact hG _ _ _ _ (X.checkcastNull c1 (g := mkF m pc Ls (.null :: st)) rfl rfl (hb c2 hd)) k
/-- an object of C, whose superclass S has none, is no K -/
theorem own_no {C S K : String} {n : Nat} (w : (Cond.superclass C S).before a0 Z = true) (wS : (Cond.noSuperclass S).before a0 Z = true) (wi : (Cond.instantiable K n).before a0 Z = true) (hn : C ≠ K) (hS : S ≠ K) : ∃ c t, Z.vm.findClass C = some c ∧ Z.vm.findClass K = some t ∧ Z.vm.assignable c t = false := by
  obtain ⟨t, k', g0, g2, g5, g7, -⟩ := Cond.instantiable_spec wi
  obtain ⟨c, h0⟩ := found_sup w
  obtain ⟨q, k, kp, h1, h2, h3, h4, h5, -, h7⟩ := Cond.superclass_spec h0 w
  obtain ⟨cS, kS, s1, s2, s3, -, -⟩ := Cond.noSuperclass_spec wS
  cases h1.symm.trans s1
  have ne := ids_ne h0 g0 hn
  have neS := ids_ne s1 g0 hS
  have n3 : ∀ fuel, Z.vm.isSubclassAux fuel c t = false := by
    intro fuel
    cases fuel with
    | zero => rfl
    | succ f =>
      cases f with
      | zero => simp [Vm.isSubclassAux, ne, h2, h4]
      | succ f => simp [Vm.isSubclassAux, ne, neS, h2, h4, s2, s3]
  have g7' : k'.isInterface = false := by
    cases hq : k'.isInterface with
    | false => rfl
    | true => rw [hq] at g7; cases g7
  refine ⟨c, t, h0, g0, ?_⟩
  show Z.vm.assignableAux (255 + 1) c t = false
  simp [Vm.assignableAux, ne, h2, g2, h5, g5, g7', Vm.isSubclass, n3]
end OwnKit

section OwnStr
variable {G : State → JFrame → Prop} {p : Program} {l : Launch} {e : Env} {R : Room} {s : State} {m : MethodId} {args : Array Value} {below : List Frame} {meth : Method} {c : Code} {Z : State} {n0 : Nat} {own nm : String} {bytes : ByteArray} {maxL : Nat} {ret : Option FieldType} {T : State} {h : Heap} {cells slots : Nat} {a0 : Array Value}
theorem own_a0 {P : Int32 → Prop} : ∀ x ∈ ([] : List Int32), P x := fun _ q => nomatch q
theorem own_aS {P : Int32 → Prop} {y : Int32} {L : List Int32} (q : P y) (r : ∀ x ∈ L, P x) : ∀ x ∈ y :: L, P x := fun x z => (List.mem_cons.mp z).elim (fun u => u ▸ q) (r x)
def own_CS (Z : State) : Prop := ∃ z : Int32, Sta Z Z.heap "java/lang/String" "COMPACT_STRINGS" "Z" (.int z) ∧ ¬ z = 0
def own_Str (Z : State) (h : Heap) (x t : Addr) (cs : List Int32) : Prop := Exa Z h x "java/lang/String" ∧ Fld Z h x "java/lang/String" "value" "[B" (.ref t) ∧ ∃ (kb : ClassId) (N2 : Int32) (vs : List Value) (cd : Int32), Fld Z h x "java/lang/String" "coder" "B" (.int cd) ∧ Arv Z h t kb .byte N2 vs (.int 0) ∧ StrChars.Road.CodA cs cd N2 vs ∧ (∀ c ∈ cs, ¬ c < 0 ∧ ¬ (65535 : Int32) < c) ∧ cs.length ≤ 4000
theorem own_Str.lt {x t : Addr} {cs : List Int32} (S : own_Str Z h x t cs) : x < h.size := S.1.lt
theorem own_Str.ltt {x t : Addr} {cs : List Int32} (S : own_Str Z h x t cs) : t < h.size := by obtain ⟨-, -, _, _, _, _, -, A, -⟩ := S; exact A.lt
theorem own_Str.keep {h' : Heap} {x t : Addr} {cs : List Int32} {ws : List Addr} (S : own_Str Z h x t cs) (K : Keep h h' ws) (q1 : x ∉ ws) (q2 : t ∉ ws) : own_Str Z h' x t cs := by
  obtain ⟨s1, s2, kb, N2, vs, cd, s3, s4, s5⟩ := S
  exact ⟨s1.keep K, s2.keep K q1, kb, N2, vs, cd, s3.keep K q1, s4.keep K q2, s5⟩
theorem own_nar255 (x : Int32) : nar .char (own_c16 (x &&& 255)) = x &&& 255 := by
  show (own_c16 (x &&& 255)).toUInt32.toUInt16.toUInt32.toInt32 = _
  unfold own_c16; rw [i2c_mask, i2c_mask]
theorem own_255 (x : Int32) : ¬ (x &&& 255) < 0 ∧ ¬ (255 : Int32) < (x &&& 255) := by
  have q := c_and x 255 (by decide)
  have e : (255 : Int32).toInt = 255 := by decide
  rw [Int32.lt_iff_toInt_lt, Int32.lt_iff_toInt_lt]
  rw [e] at q ⊢
  have e0 : (0 : Int32).toInt = 0 := by decide
  rw [e0]; omega
theorem own_up {cs : List Int32} (h : ∀ c ∈ cs, ¬ c < 0 ∧ ¬ (255 : Int32) < c) : ∀ c ∈ cs, ¬ c < 0 ∧ ¬ (65535 : Int32) < c := by
  intro c hc
  refine ⟨(h c hc).1, fun q => (h c hc).2 ?_⟩
  rw [Int32.lt_iff_toInt_lt] at q ⊢
  have e1 : (65535 : Int32).toInt = 65535 := by decide
  have e2 : (255 : Int32).toInt = 255 := by decide
  omega
theorem own_strinit (X : own_At G p l e R s m args below meth c Z n0 own nm bytes maxL ret T h cells slots) {pc pc' cells' slots' : Nat} {Ls : Array Slot} {rest : List Value} {i W n : Nat} {x b : Addr} {kC : ClassId} {cs : List Int32} {v0 c0 : Value} {bytes' : ByteArray} {maxL' : Nat} (hws : ∀ d ∈ StrChars.Road.words, d.before a0 Z = true) (CS : own_CS Z)
    (w1 : (Cond.methodLink own i ⟨"java/lang/String", "<init>", "([C)V"⟩).before a0 Z = true) (w2 : (Cond.instanceMethod ⟨"java/lang/String", "<init>", "([C)V"⟩).before a0 Z = true) (w4 : (Cond.code ⟨"java/lang/String", "<init>", "([C)V"⟩ bytes' maxL' none).before a0 Z = true) (wi : (Cond.instantiable "java/lang/String" 4).before a0 Z = true)
    (E : Exa Z h x "java/lang/String") (V : Fld Z h x "java/lang/String" "value" "[B" v0) (C : Fld Z h x "java/lang/String" "coder" "B" c0) (K : own_Arr Z h b kC .char (cs.map Value.int)) (hx : n0 ≤ x) (hn : cs.length = n) (l0 : 0 < n) (l2 : n ≤ 4000) (hp : ∀ c ∈ cs, ¬ c < 0 ∧ ¬ (255 : Int32) < c) (hfr : 4 ≤ R.frames) (hlo : W + 65 ≤ R.locals)
    (hlen : ∀ sig, parseMethodDescriptor "([C)V" = some sig → 1 = sig.parameters.length) (hsz : Ls.size = maxL) (hW : (rest.map fun v => v.category).sum = W) (hd : decode bytes pc = .ok (.invokespecial i, 3)) (hpc : pc' = pc + 3) (ec : cells' = cells + 1) (es : slots' = slots + n) (hc : cells' ≤ R.cells) (hl : slots' ≤ R.slots)
    (k : ∀ T' h' t, own_At G p l e R s m args below meth c Z n0 own nm bytes maxL ret T' h' cells' slots' → Keep h h' [x] → h.size ≤ t → own_Str Z h' x t cs → G T' (mkF m pc' Ls rest)) : G T (mkF m pc Ls (.ref b :: .ref x :: rest)) := by
  obtain ⟨z, S, hz⟩ := CS
  have hO := own_old X
  have hS := own_sta X S
  have h0 := own_n0 X
  refine own_callI (y := ⟨"java/lang/String", "<init>", "([C)V"⟩) (argsL := [.ref b]) (rest := rest) (a := x) (as' := #[.ref x, .ref b]) (kc := 1) (ks := n) (W := W) (Q := fun v h' => v = none ∧ Keep h h' [x] ∧ ∃ t, h.size ≤ t ∧ own_Str Z h' x t cs) X w1 w2 w4 rfl (by decide)
    (fun hZ => StrChars.Road.backV (W := W) hZ hws (kI := 4) wi (cs := cs) (bs := cs.map (fun c => c.toInt8.toInt32)) (n := n) hx h0 E V C (K.arv (d := .int 0) (N := Int32.ofNat n) (by rw [List.length_map, hn])) hS hz hn rfl l0 l2 hp rfl hfr hlo)
    (fun v h' L q => ?_) hsz hlen rfl hW hd hpc rfl ec es hc hl (fun v T' h' X' q => ?_)
  · obtain ⟨q1, q2, q3, q4, q5, t, kb, q6, q7, q8, q9, q10⟩ := q
    exact ⟨⟨q1, q3, t, q7, q4, q9, kb, _, _, 0, q5, q10, StrChars.Road.codOf hn (fun c hc => (hp c hc).2), own_up hp, by omega⟩, q2, hO.keep q3 (allS hx all0)⟩
  · obtain ⟨rfl, q1, t, q2, q3⟩ := q
    exact k T' h' t X' q1 q2 q3
end OwnStr
section OwnStr2
variable {G : State → JFrame → Prop} {p : Program} {l : Launch} {e : Env} {R : Room} {s : State} {m : MethodId} {args : Array Value} {below : List Frame} {meth : Method} {c : Code} {Z : State} {n0 : Nat} {own nm : String} {bytes : ByteArray} {maxL : Nat} {ret : Option FieldType} {T : State} {h : Heap} {cells slots : Nat} {a0 : Array Value}
def own_SF (Z : State) : Prop := ∃ v : Value, Sta Z Z.heap "jdk/internal/util/Preconditions" "SIOOBE_FORMATTER" "Ljava/util/function/BiFunction;" v ∧ v.isRef = true
end OwnStr2
set_option maxRecDepth 65536 in
theorem own_in_words : ∀ d ∈ StrChars.Road.words, d ∈ tables_1 := by decide +kernel
theorem dd_prog_3_method_34_0 : decode prog_3_method_34_code 0 = .ok (.lload_n 1, 1) := by decide +kernel
theorem dd_prog_3_method_34_1 : decode prog_3_method_34_code 1 = .ok (.lconst 0, 1) := by decide +kernel
theorem dd_prog_3_method_34_2 : decode prog_3_method_34_code 2 = .ok (.lcmp, 1) := by decide +kernel
theorem dd_prog_3_method_34_3 : decode prog_3_method_34_code 3 = .ok (.ifCond .le 13, 3) := by decide +kernel
theorem dd_prog_3_method_34_6 : decode prog_3_method_34_code 6 = .ok (.lload_n 1, 1) := by decide +kernel
theorem dd_prog_3_method_34_7 : decode prog_3_method_34_code 7 = .ok (.ldc2_w 386, 3) := by decide +kernel
theorem dd_prog_3_method_34_10 : decode prog_3_method_34_code 10 = .ok (.lrem, 1) := by decide +kernel
theorem dd_prog_3_method_34_11 : decode prog_3_method_34_code 11 = .ok (.lconst 0, 1) := by decide +kernel
theorem dd_prog_3_method_34_12 : decode prog_3_method_34_code 12 = .ok (.lcmp, 1) := by decide +kernel
theorem dd_prog_3_method_34_13 : decode prog_3_method_34_code 13 = .ok (.ifCond .eq 18, 3) := by decide +kernel
theorem dd_prog_3_method_34_31 : decode prog_3_method_34_code 31 = .ok (.return_, 1) := by decide +kernel
theorem pn_0 : plainName "com/example/darja/darja/BoardDefinition" = true := by first | (simp [plainName, overriddenIn]; done) | decide +kernel
theorem ef_own_b1 (m : MethodId) (x0 : Addr) (x1 : Int64) : entryFrame m #[(.ref x0), (.long x1)] 3 = mkF m 0 #[.val (.ref x0), .val (.long x1), .second] [] := by first | (simp [entryFrame, mkF, argsToLocals, Value.category]; done) | rfl
set_option maxRecDepth 65536 in
set_option maxHeartbeats 40000000 in
theorem own_b1 (l : Launch) (Z : State) (a0 : Array Value) (hw : ∀ d ∈ tables_1, d.before a0 Z = true) (n0 : Nat) (nmA : Addr) (ms : Int64) (h0 : Heap) (O0 : Old Z n0 h0) (hp : 0 < ms) (hm : ms % 1000 = 0) :
    own_Met l Z n0 (⟨"com/example/darja/darja/BoardDefinition", "requireWholeSeconds", "(Ljava/lang/String;J)V"⟩ : MethodName) prog_3_method_34_code 3 none ({ frames := 0, cells := 0, slots := 0, locals := 0 } : Room) #[(.ref nmA), (.long ms)] h0 (fun v h => v = none ∧ h0 = h) := by
  refine own_enter (own := "com/example/darja/darja/BoardDefinition") (nm := "requireWholeSeconds") pn_0 rfl rfl O0 ?_
  have W : ∀ (k : Nat) {d : Jvm.Cond}, tables_1[k]? = some d → d.before a0 Z = true := fun k d q => hw d (List.mem_of_getElem? q)
  intro G p e s m below meth c T0 hGe X0
  rw [ef_own_b1 m nmA ms]
  refine own_lload_n (pc' := 1) X0 dd_prog_3_method_34_0 rfl rfl ?_
  refine own_lconst (pc' := 2) X0 dd_prog_3_method_34_1 rfl (z := (0 : Int64)) (by decide) ?_
  refine own_lcmp (pc' := 3) X0 dd_prog_3_method_34_2 rfl ?_
  refine own_ifN (pc' := 6) X0 dd_prog_3_method_34_3 rfl ((own_lc_gt hp).2) ?_
  refine own_lload_n (pc' := 7) X0 dd_prog_3_method_34_6 rfl rfl ?_
  refine own_ldc2 (pc' := 10) X0 (v := (1000 : Int64)) (W 37 rfl) dd_prog_3_method_34_7 rfl ?_
  refine own_lrem (pc' := 11) X0 dd_prog_3_method_34_10 rfl (by decide) ?_
  refine own_lconst (pc' := 12) X0 dd_prog_3_method_34_11 rfl (z := (0 : Int64)) (by decide) ?_
  refine own_lcmp (pc' := 13) X0 dd_prog_3_method_34_12 rfl ?_
  refine own_ifY (pc' := 31) X0 dd_prog_3_method_34_13 ((own_lc_eq hm).1) (by decide) (by decide) ?_
  exact own_retV X0 hGe rfl dd_prog_3_method_34_31 (by decide) (by decide) ⟨rfl, rfl⟩
theorem own_ms (k : Int64) : 0 < ((k &&& 9223372036854775807) % 9223372036854775 + 1) * 1000 ∧ (((k &&& 9223372036854775807) % 9223372036854775 + 1) * 1000) % 1000 = 0 := by
  have h1 := c_maskL k 9223372036854775807 63 (by decide) (by decide)
  generalize k &&& 9223372036854775807 = a at h1 ⊢
  have h2 : (a % 9223372036854775).toInt = a.toInt % 9223372036854775 := by
    rw [Int64.toInt_mod, show (9223372036854775 : Int64).toInt = 9223372036854775 from by decide]
    exact Int.tmod_eq_emod_of_nonneg (by omega)
  generalize a % 9223372036854775 = b at h2 ⊢
  have h3 := c_ladd b 1
  have h4 := rng64 (b + 1)
  generalize b + 1 = d at h3 h4 ⊢
  rw [show (1 : Int64).toInt = 1 from by decide] at h3
  have h5 := c_lmul d 1000
  have h6 := rng64 (d * 1000)
  rw [show (1000 : Int64).toInt = 1000 from by decide] at h5
  have h8 : d.toInt = b.toInt + 1 := by omega
  have h9 : 1 ≤ d.toInt ∧ d.toInt ≤ 9223372036854775 := by omega
  clear h1 h2 h3 h4 h8
  have h7 : (d * 1000).toInt = d.toInt * 1000 := by
    generalize d.toInt = x at h5 h9 ⊢
    generalize (d * 1000).toInt = y at h5 h6 ⊢
    have : ∃ k, y - x * 1000 = 18446744073709551616 * k := ⟨(y - x * 1000) / 18446744073709551616, by omega⟩
    obtain ⟨k, hk⟩ := this
    have : k = 0 := by
      rcases Int.lt_trichotomy k 0 with q | q | q
      · have : k ≤ -1 := by omega
        omega
      · exact q
      · have : 1 ≤ k := by omega
        omega
    omega
  constructor
  · rw [Int64.lt_iff_toInt_lt, h7, show (0 : Int64).toInt = 0 from by decide]; omega
  · apply Int64.toInt_inj.mp
    rw [Int64.toInt_mod, h7, show (1000 : Int64).toInt = 1000 from by decide, show (0 : Int64).toInt = 0 from by decide]
    rw [Int.tmod_eq_emod_of_nonneg (by omega)]; omega
theorem pd_0 : parseMethodDescriptor "([C)V" = some ⟨[(.array .char)], none⟩ := by decide +kernel
theorem pd_1 : parseMethodDescriptor "(Ljava/lang/String;J)V" = some ⟨[(.object "java/lang/String"), .long], none⟩ := by decide +kernel
theorem pn_1 : plainName "com/example/darja/darja/BoardDefinitionRequireWholeSecondsPinLaw" = true := by first | (simp [plainName, overriddenIn]; done) | decide +kernel
theorem ef_own_law (m : MethodId) (x0 : Int64) (x1 : Int32) (x2 : Int32) : entryFrame m #[(.long x0), (.int x1), (.int x2)] maxLocals = mkF m 0 #[.val (.long x0), .second, .val (.int x1), .val (.int x2), .unset, .unset, .unset, .unset, .unset, .unset] [] := by first | (simp [entryFrame, mkF, argsToLocals, Value.category, maxLocals]; done) | rfl
set_option maxRecDepth 65536 in
set_option maxHeartbeats 40000000 in
theorem own_law (l : Launch) (Z : State) (a0 : Array Value) (hw : ∀ d ∈ tables_1, d.before a0 Z = true) (n0 : Nat) (k : Int64) (c0 : Int32) (c1 : Int32) (h0 : Heap) (O0 : Old Z n0 h0) (CS : own_CS Z) :
    own_Met l Z n0 x code maxLocals ret room_1 #[(.long k), (.int c0), (.int c1)] h0 (fun v h => v = some (.int 1)) := by
  refine own_enter (own := "com/example/darja/darja/BoardDefinitionRequireWholeSecondsPinLaw") (nm := "law") pn_1 rfl rfl O0 ?_
  have W : ∀ (k : Nat) {d : Jvm.Cond}, tables_1[k]? = some d → d.before a0 Z = true := fun k d q => hw d (List.mem_of_getElem? q)
  intro G p e s m below meth c T0 hGe X0
  rw [ef_own_law m k c0 c1]
  obtain ⟨hp, hm⟩ := own_ms k
  refine own_lload_n (pc' := 1) X0 at_0 rfl rfl ?_
  refine own_ldc2 (pc' := 4) X0 (v := (9223372036854775807 : Int64)) (W 0 rfl) at_1 rfl ?_
  refine own_land (pc' := 5) X0 at_4 rfl (r := (k &&& (9223372036854775807 : Int64))) rfl ?_
  refine own_ldc2 (pc' := 8) X0 (v := (9223372036854775 : Int64)) (W 1 rfl) at_5 rfl ?_
  refine own_lrem (pc' := 9) X0 at_8 rfl (by decide) ?_
  refine own_lconst (pc' := 10) X0 at_9 rfl (z := (1 : Int64)) (by decide) ?_
  refine own_ladd (pc' := 11) X0 at_10 rfl (r := (((k &&& (9223372036854775807 : Int64)) % (9223372036854775 : Int64)) + (1 : Int64))) rfl ?_
  refine own_lstore (pc' := 13) X0 at_11 rfl (Ls' := #[.val (.long k), .second, .val (.int c0), .val (.int c1), .val (.long (((k &&& (9223372036854775807 : Int64)) % (9223372036854775 : Int64)) + (1 : Int64))), .second, .unset, .unset, .unset, .unset]) rfl ?_
  refine own_lload (pc' := 15) X0 at_13 rfl rfl ?_
  refine own_ldc2 (pc' := 18) X0 (v := (1000 : Int64)) (W 2 rfl) at_15 rfl ?_
  refine own_lmul (pc' := 19) X0 at_18 rfl (r := ((((k &&& (9223372036854775807 : Int64)) % (9223372036854775 : Int64)) + (1 : Int64)) * (1000 : Int64))) rfl ?_
  generalize ((((k &&& (9223372036854775807 : Int64)) % (9223372036854775 : Int64)) + (1 : Int64)) * (1000 : Int64)) = ms at hp hm ⊢
  refine own_lstore (pc' := 21) X0 at_19 rfl (Ls' := #[.val (.long k), .second, .val (.int c0), .val (.int c1), .val (.long (((k &&& (9223372036854775807 : Int64)) % (9223372036854775 : Int64)) + (1 : Int64))), .second, .val (.long ms), .second, .unset, .unset]) rfl ?_
  refine own_iconst (pc' := 22) X0 at_21 rfl (z := (2 : Int32)) (by decide) ?_
  refine own_newarray (pc' := 24) (cells' := 1) (slots' := 2) (n := 2) (cap := 2) (dv := (.int 0)) X0 (W 3 rfl) rfl rfl (by decide) (by decide) at_22 rfl rfl (by decide) (by decide) rfl (by decide) (by decide) ?_
  intro T1 h1 a1 k1 g1 X1 K1 A1
  have n_a1 : n0 ≤ a1 := by rw [g1]; exact own_n0 X0
  have A1' : own_Arr Z h1 a1 k1 .char [(.int 0), (.int 0)] := A1
  refine own_astore (pc' := 26) X1 at_24 rfl rfl (Ls' := #[.val (.long k), .second, .val (.int c0), .val (.int c1), .val (.long (((k &&& (9223372036854775807 : Int64)) % (9223372036854775 : Int64)) + (1 : Int64))), .second, .val (.long ms), .second, .val (.ref a1), .unset]) rfl ?_
  refine own_aload (pc' := 28) X1 at_26 rfl rfl rfl ?_
  refine own_iconst (pc' := 29) X1 at_28 rfl (z := (0 : Int32)) (by decide) ?_
  refine own_iload_n (pc' := 30) X1 at_29 rfl rfl ?_
  refine own_sipush (pc' := 33) X1 at_30 rfl (z := (255 : Int32)) (by decide) ?_
  refine own_iand (pc' := 34) X1 at_33 rfl (r := (c0 &&& (255 : Int32))) rfl ?_
  refine own_i2c (pc' := 35) X1 at_34 rfl ?_
  refine own_castore (pc' := 36) (i := 0) (y := (c0 &&& 255)) X1 A1' (by decide) (Nat.le_of_ble_eq_true rfl) (own_nar255 _) n_a1 at_35 rfl ?_
  intro T2 h2 X2 K2 A2
  have A2' : own_Arr Z h2 a1 k1 .char [(.int (c0 &&& 255)), (.int 0)] := A2
  refine own_aload (pc' := 38) X2 at_36 rfl rfl rfl ?_
  refine own_iconst (pc' := 39) X2 at_38 rfl (z := (1 : Int32)) (by decide) ?_
  refine own_iload_n (pc' := 40) X2 at_39 rfl rfl ?_
  refine own_sipush (pc' := 43) X2 at_40 rfl (z := (255 : Int32)) (by decide) ?_
  refine own_iand (pc' := 44) X2 at_43 rfl (r := (c1 &&& (255 : Int32))) rfl ?_
  refine own_i2c (pc' := 45) X2 at_44 rfl ?_
  refine own_castore (pc' := 46) (i := 1) (y := (c1 &&& 255)) X2 A2' (by decide) (Nat.le_of_ble_eq_true rfl) (own_nar255 _) n_a1 at_45 rfl ?_
  intro T3 h3 X3 K3 A3
  have A3' : own_Arr Z h3 a1 k1 .char [(.int (c0 &&& 255)), (.int (c1 &&& 255))] := A3
  refine own_new (pc' := 49) (cells' := 2) (slots' := 6) X3 (W 4 rfl) (W 5 rfl) (W 6 rfl) at_46 rfl rfl rfl (by decide) (by decide) ?_
  intro T4 h4 a4 g4 X4 K4 E4 D4 U4
  have n_a4 : n0 ≤ a4 := by rw [g4]; exact own_n0 X3
  have F4_coder : Fld Z h4 a4 "java/lang/String" "coder" "B" (.int (0 : Int32)) := D4 (Or.inr (W 30 rfl)) (ty := .byte) (by decide)
  have F4_value : Fld Z h4 a4 "java/lang/String" "value" "[B" .null := D4 (Or.inr (W 32 rfl)) (ty := (.array .byte)) (by decide)
  refine own_dup (pc' := 50) X4 at_49 rfl rfl ?_
  refine own_aload (pc' := 52) X4 at_50 rfl rfl rfl ?_
  have f5 := (A3'.keep K4 nin0)
  refine own_strinit (pc' := 55) (cells' := 3) (slots' := 8) (W := 1) (n := 2) (cs := [(c0 &&& 255), (c1 &&& 255)]) X4 (fun d hd => hw d (own_in_words d hd)) CS (W 7 rfl) (W 8 rfl) (W 9 rfl) (W 5 rfl) E4 F4_value F4_coder f5 n_a4 rfl (by decide) (by decide) (own_aS (own_255 c0) (own_aS (own_255 c1) own_a0)) (by decide) (by decide) (lenOf (L := [.ref a1]) pd_0 rfl) rfl rfl at_52 rfl rfl rfl (by decide) (by decide) ?_
  intro T6 h6 t6 X6 K6 z6 S6
  refine own_astore (pc' := 57) X6 at_55 rfl rfl (Ls' := #[.val (.long k), .second, .val (.int c0), .val (.int c1), .val (.long (((k &&& (9223372036854775807 : Int64)) % (9223372036854775 : Int64)) + (1 : Int64))), .second, .val (.long ms), .second, .val (.ref a1), .val (.ref a4)]) rfl ?_
  refine own_aload (pc' := 59) X6 at_57 rfl rfl rfl ?_
  refine own_lload (pc' := 61) X6 at_59 rfl rfl ?_
  refine own_callSM (pc' := 64) (cells' := 3) (slots' := 8) (argsL := [(.ref a4), (.long ms)]) (rest := []) (W := 0) (y := (⟨"com/example/darja/darja/BoardDefinition", "requireWholeSeconds", "(Ljava/lang/String;J)V"⟩ : MethodName)) X6 (W 33 rfl) (W 34 rfl) (by decide) (own_b1 l Z a0 hw n0 a4 ms h6 (own_old X6) hp hm) (W 36 rfl) (W 35 rfl) (by decide) (by decide) rfl (lenOf pd_1 rfl) rfl rfl at_61 rfl rfl rfl rfl (by decide) (by decide) ?_
  intro v7 T7 h7 X7 q7
  obtain ⟨rfl, rfl⟩ := q7
  show G T7 (mkF m 64 #[.val (.long k), .second, .val (.int c0), .val (.int c1), .val (.long (((k &&& (9223372036854775807 : Int64)) % (9223372036854775 : Int64)) + (1 : Int64))), .second, .val (.long ms), .second, .val (.ref a1), .val (.ref a4)] [])
  refine own_lload (pc' := 66) X7 at_64 rfl rfl ?_
  refine own_lconst (pc' := 67) X7 at_66 rfl (z := (0 : Int64)) (by decide) ?_
  refine own_lcmp (pc' := 68) X7 at_67 rfl ?_
  refine own_ifN (pc' := 71) X7 at_68 rfl ((own_lc_gt hp).2) ?_
  refine own_lload (pc' := 73) X7 at_71 rfl rfl ?_
  refine own_ldc2 (pc' := 76) X7 (v := (1000 : Int64)) (W 2 rfl) at_73 rfl ?_
  refine own_lrem (pc' := 77) X7 at_76 rfl (by decide) ?_
  refine own_lconst (pc' := 78) X7 at_77 rfl (z := (0 : Int64)) (by decide) ?_
  refine own_lcmp (pc' := 79) X7 at_78 rfl ?_
  refine own_ifN (pc' := 82) X7 at_79 rfl ((own_lc_eq hm).2) ?_
  refine own_iconst (pc' := 83) X7 at_82 rfl (z := (1 : Int32)) (by decide) ?_
  refine own_goto (pc' := 87) X7 at_83 (by decide) (by decide) ?_
  exact own_ret X7 hGe (t := .boolean) rfl rfl (Or.inl ⟨rfl, by simp, _, rfl⟩) at_87 (by decide) (by decide) rfl
set_option maxRecDepth 65536 in
set_option maxHeartbeats 40000000 in
theorem comes_1 {Post : Tables → Env → Array Value → State → Outcome → State → Prop} (hpost : ∀ tb e args s v u, (limb_1_1.after args s (.returned v) u = true ∧ limb_1_2.after args s (.returned v) u = true ∧ True) → FrameEnd s (.returned v) u (Jvm.fieldLocs frame_1_writes args s ++ Jvm.arrayLocs frame_1_arrays args s ++ Jvm.staticLocs frame_1_statics s) 16 128 → Post tb e args s (.returned v) u) :
    ArmFor flags0 classFile x code maxLocals ret World_1 tables_1 room_1 Calls_1 rest_1 Pre_1 Post := by
  intro l hfl _ _ p e ha hc hk s m args below hf hA hF happ hP
  obtain ⟨hcalls, hrest, hpre⟩ := hP
  obtain ⟨-, -, -, hnamed, -, -, -, hat⟩ := (Spec.applies_iff hf).mp happ
  obtain ⟨hg, hn⟩ := and_e (Cond.before_iff.mp (show (Jvm.Cond.and given_1 narrow_1).before args s = true from hpre))
  obtain ⟨h1, g0⟩ := and_e hg
  obtain ⟨b0, g1⟩ := and_e g0
  obtain ⟨b1, g2⟩ := and_e g1
  have b2 := g2
  obtain ⟨w0, w1, w2, rfl⟩ : ∃ w0 w1 w2 : Value, args = #[w0, w1, w2] := by
    have hs : args.size = 3 := by simpa [Cond.value, given_1] using h1
    obtain ⟨L⟩ := args
    match L, hs with
    | [w0, w1, w2], _ => exact ⟨w0, w1, w2, rfl⟩
  have hw := fun d (hd : d ∈ tables_1) => atoms_spec (ws := Jvm.Cond.code x code maxLocals ret :: tables_1) hat d (List.mem_cons_of_mem _ hd)
  obtain ⟨hsets, hown0⟩ := atoms_of _ (rest_1_c_eq ▸ (show rest_1_c.before _ s = true from hrest))
  have hfit : Fit s := fun {y c} hc i hi => by
    obtain ⟨ha, rfl⟩ := Array.getElem?_eq_some_iff.mp hc
    have q := List.all_eq_true.mp ((Array.all_eq_true_iff_forall_mem.mp hF) _ (Array.getElem_mem ha)) i (List.mem_range.mpr hi)
    simpa [Array.getElem?_eq_getElem hi] using q
  obtain ⟨i0, e0⟩ := isL_v b0
  obtain rfl : w0 = (.long i0) := Option.some.inj e0
  obtain ⟨i1, e1⟩ := is_v b1
  obtain rfl : w1 = (.int i1) := Option.some.inj e1
  obtain ⟨i2, e2⟩ := is_v b2
  obtain rfl : w2 = (.int i2) := Option.some.inj e2
  obtain ⟨zc, ec⟩ := is_v (Cond.before_iff.mp (hsets _ (List.mem_of_getElem? (i := 1) rfl)))
  have CS : own_CS s := ⟨zc, Sta.start ec (Or.inl (hsets _ (List.mem_of_getElem? (i := 0) rfl))), gotF (Cond.eq_ints ec (Term.int_eval (0))) (not_v (Cond.before_iff.mp (hsets _ (List.mem_of_getElem? (i := 2) rfl))))⟩
  obtain ⟨n, o, h1, h2, h3, _, L, rfl, ⟨rfl, N, -⟩, hq⟩ := own_law l s _ hw s.heap.size i0 i1 i2 s.heap (Old.start s) CS tables_1 p e ha hc hk s m _ below hf ((Spec.applies_iff_loose hf).mp happ).1 ⟨rfl, State.Warmed39.refl s, rfl⟩ trivial
  refine ⟨n, _, h1, h2, h3, hpost _ _ _ _ _ _ ⟨Cond.after_iff.mpr rfl, Cond.after_iff.mpr (eq_i res_at (Term.int_eval (1)) rfl), trivial⟩ ⟨hq.1, hq.2.1, (hq.2.2.sift fun y hy => Or.inr (N y hy)).mono (by decide) (by decide)⟩⟩
theorem main_1_1 : Claimed_1_1 := comes_1 fun _ _ _ _ _ _ h hF => ⟨h.1, hF⟩
theorem main_1_2 : Claimed_1_2 := comes_1 fun _ _ _ _ _ _ h hF => ⟨h.2.1, hF⟩
end Jvm.Pilot.@@N@@
namespace Jvm.Pilot.@@N@@
open Jvm Jvm.ClassFile Sem Op Lib Jvm.Free Jvm.Stand Jvm.Pilot.@@N@@.Jvm.D
/-! MADE BY PROGRAM (witnessworld.py) out of the Statement's table words and the real class files: 20 classes; the members and pool entries that the words name. The judged class is class 1, her method 1. -/
namespace start1
open Jvm.ClassFile
def u (s : String) : CpInfo := .utf8 (stringToUtf16 s)
/-- a pool by its gaps: so many unusable entries, then the entry; so many at the end -/
def gap : Nat → List CpInfo → List CpInfo
  | 0, r => r
  | n + 1, r => .unusable :: gap n r
def poolList (es : List (Nat × CpInfo)) (last : Nat) : List CpInfo := es.foldr (fun e r => gap e.1 (e.2 :: r)) (gap last [])
def pool (es : List (Nat × CpInfo)) (last : Nat) : Array CpInfo := ⟨poolList es last⟩
def fileOf (pool : Array CpInfo) (this : Nat) (attrs : Array Attribute := #[]) (ms : Array MethodInfo := #[]) (fl : Nat := 33) (sup : Nat := 0) (ifs : Array Nat := #[]) (fds : Array FieldInfo := #[]) : ClassFile where
  minorVersion := 0
  majorVersion := 65
  constantPool := pool
  accessFlags := fl
  thisClass := this
  superClass := sup
  interfaces := ifs
  fields := fds
  methods := ms
  attributes := attrs
def plain (name : String) (sup : Option ClassId) : Class where
  name := name
  kind := .ordinary
  loader := none
  accessFlags := 33
  super := sup
  interfaces := #[]
  cf := none
  fields := #[]
  methods := #[]
  instanceTypes := #[]
  staticTypes := #[]
  resolved := #[]
  callSites := []
  init := .initialized
  statics := none
  mirror := none

def pool0 : Array CpInfo := pool [(5, u "<init>"), (0, u "()V"), (1, .class_ 10), (1, u "java/lang/Object")] 113

def k0c0 : Code := { maxStack := 0, maxLocals := 1, code := object_method_1_code, exceptionTable := #[], attributes := #[] }
def k0m0 : Method := { name := "<init>", desc := "()V", sig := { parameters := [], returnType := none }, accessFlags := 1, code := some k0c0 }
/-- java/lang/Object -/
def k0 : Class := { plain "java/lang/Object" none with
  accessFlags := 33
  interfaces := #[]
  cf := some (fileOf pool0 8 #[] #[{ accessFlags := 1, nameIndex := 5, descriptorIndex := 6, attributes := #[] }] 33 0 #[] #[])
  fields := #[]
  methods := #[k0m0]
  instanceTypes := #[]
  staticTypes := #[]
  resolved := Array.replicate 124 none
  statics := none }

def pool1 : Array CpInfo := pool [(2, .class_ 4), (1, u "java/lang/Object"), (0, u "<init>"), (0, u "()V"), (2, .long 9223372036854775807), (1, .long 9223372036854775), (1, .long 1000), (1, .class_ 16), (0, u "java/lang/String"), (0, .methodref 15 18), (0, .nameAndType 5 19), (0, u "([C)V"), (0, .methodref 21 22), (0, .class_ 23), (0, .nameAndType 24 25), (0, u "com/example/darja/darja/BoardDefinition"), (0, u "requireWholeSeconds"), (0, u "(Ljava/lang/String;J)V"), (0, .class_ 27), (0, u "com/example/darja/darja/BoardDefinitionRequireWholeSecondsPinLaw"), (2, u "law"), (0, u "(JII)Z")] 5

def k1m0 : Method := { name := "<init>", desc := "()V", sig := { parameters := [], returnType := none }, accessFlags := 2, code := none }
def k1c1 : Code := { maxStack := 4, maxLocals := 10, code := code, exceptionTable := #[], attributes := #[] }
def k1m1 : Method := { name := "law", desc := "(JII)Z", sig := { parameters := [.long, .int, .int], returnType := some .boolean }, accessFlags := 9, code := some k1c1 }
/-- com/example/darja/darja/BoardDefinitionRequireWholeSecondsPinLaw -/
def k1 : Class := { plain "com/example/darja/darja/BoardDefinitionRequireWholeSecondsPinLaw" (some 0) with
  accessFlags := 49
  interfaces := #[]
  cf := some (fileOf pool1 26 #[] #[{ accessFlags := 2, nameIndex := 5, descriptorIndex := 6, attributes := #[] }, { accessFlags := 9, nameIndex := 30, descriptorIndex := 31, attributes := #[] }] 49 2 #[] #[])
  fields := #[]
  methods := #[k1m0, k1m1]
  instanceTypes := #[]
  staticTypes := #[]
  resolved := Array.replicate 37 none
  statics := none }

def pool2 : Array CpInfo := pool [(1, .class_ 2), (0, u "java/io/Serializable"), (0, .class_ 4), (0, u "java/lang/Object")] 2

/-- java/io/Serializable -/
def k2 : Class := { plain "java/io/Serializable" (some 0) with
  accessFlags := 1537
  interfaces := #[]
  cf := some (fileOf pool2 1 #[] #[] 1537 3 #[] #[])
  fields := #[]
  methods := #[]
  instanceTypes := #[]
  staticTypes := #[]
  resolved := Array.replicate 7 none
  statics := none }

def pool3 : Array CpInfo := pool [(1, .class_ 2), (0, u "java/lang/Comparable"), (0, .class_ 4), (0, u "java/lang/Object")] 7

/-- java/lang/Comparable -/
def k3 : Class := { plain "java/lang/Comparable" (some 0) with
  accessFlags := 1537
  interfaces := #[]
  cf := some (fileOf pool3 1 #[] #[] 1537 3 #[] #[])
  fields := #[]
  methods := #[]
  instanceTypes := #[]
  staticTypes := #[]
  resolved := Array.replicate 12 none
  statics := none }

def pool4 : Array CpInfo := pool [(2, .class_ 4), (1, u "java/lang/CharSequence"), (42, .class_ 48), (0, u "java/lang/CharSequence$1CodePointIterator"), (10, .class_ 60), (0, u "java/lang/CharSequence$1CharIterator"), (5, .class_ 67), (0, u "java/lang/Object")] 63

/-- java/lang/CharSequence -/
def k4 : Class := { plain "java/lang/CharSequence" (some 0) with
  accessFlags := 1537
  interfaces := #[]
  cf := some (fileOf pool4 2 #[.nestMembers #[47, 59]] #[] 1537 66 #[] #[])
  fields := #[]
  methods := #[]
  instanceTypes := #[]
  staticTypes := #[]
  resolved := Array.replicate 131 none
  statics := none }

def pool5 : Array CpInfo := pool [(1, .class_ 2), (0, u "java/lang/constant/Constable"), (0, .class_ 4), (0, u "java/lang/Object")] 6

/-- java/lang/constant/Constable -/
def k5 : Class := { plain "java/lang/constant/Constable" (some 0) with
  accessFlags := 1537
  interfaces := #[]
  cf := some (fileOf pool5 1 #[] #[] 1537 3 #[] #[])
  fields := #[]
  methods := #[]
  instanceTypes := #[]
  staticTypes := #[]
  resolved := Array.replicate 11 none
  statics := none }

def pool6 : Array CpInfo := pool [(1, .class_ 2), (0, u "java/lang/constant/ConstantDesc"), (0, .class_ 4), (0, u "java/lang/Object")] 32

/-- java/lang/constant/ConstantDesc -/
def k6 : Class := { plain "java/lang/constant/ConstantDesc" (some 0) with
  accessFlags := 1537
  interfaces := #[]
  cf := some (fileOf pool6 1 #[] #[] 1537 3 #[] #[])
  fields := #[]
  methods := #[]
  instanceTypes := #[]
  staticTypes := #[]
  resolved := Array.replicate 37 none
  statics := none }

def pool7 : Array CpInfo := pool [(1, .methodref 2 3), (0, .class_ 4), (0, .nameAndType 5 6), (0, u "java/lang/Object"), (0, u "<init>"), (0, u "()V"), (2, .fieldref 10 11), (0, .class_ 12), (0, .nameAndType 13 14), (0, u "java/lang/String"), (0, u "value"), (0, u "[B"), (0, .fieldref 10 16), (0, .nameAndType 17 18), (0, u "coder"), (0, u "B"), (2, u "hash"), (0, u "I"), (2, u "hashIsZero"), (0, u "Z"), (0, .methodref 10 28), (0, .nameAndType 5 29), (0, u "([CIILjava/lang/Void;)V"), (8, .fieldref 10 39), (0, .nameAndType 40 26), (0, u "COMPACT_STRINGS"), (1, .class_ 44), (1, u "java/lang/StringUTF16"), (0, u "compress"), (1, .methodref 42 48), (0, .nameAndType 49 50), (0, u "coderFromArrayLen"), (0, u "([BI)B"), (126, .methodref 42 178), (0, .nameAndType 45 179), (0, u "([CII)[B"), (395, .class_ 576), (0, u "java/lang/CharSequence"), (22, u "CASE_INSENSITIVE_ORDER"), (0, u "Ljava/util/Comparator;"), (409, u "([C)V"), (90, u "serialPersistentFields"), (0, u "[Ljava/io/ObjectStreamField;"), (0, .class_ 1104), (0, u "java/lang/String$CaseInsensitiveComparator"), (1, .class_ 1107), (0, u "java/io/Serializable"), (0, .class_ 1109), (0, u "java/lang/Comparable"), (0, .class_ 1111), (0, u "java/lang/constant/Constable"), (0, .class_ 1113), (0, u "java/lang/constant/ConstantDesc"), (2, u "serialVersionUID"), (0, u "J"), (3, u "REPL"), (0, u "C"), (2, u "LATIN1"), (1, u "UTF16")] 323

def k7m0 : Method := { name := "<init>", desc := "()V", sig := { parameters := [], returnType := none }, accessFlags := 1, code := none }
def k7c1 : Code := { maxStack := 5, maxLocals := 2, code := jdk_42_method_3_code, exceptionTable := #[], attributes := #[] }
def k7m1 : Method := { name := "<init>", desc := "([C)V", sig := { parameters := [(.array .char)], returnType := none }, accessFlags := 1, code := some k7c1 }
def k7c2 : Code := { maxStack := 4, maxLocals := 6, code := jdk_42_method_149_code, exceptionTable := #[], attributes := #[] }
def k7m2 : Method := { name := "<init>", desc := "([CIILjava/lang/Void;)V", sig := { parameters := [(.array .char), .int, .int, (.object "java/lang/Void")], returnType := none }, accessFlags := 2, code := some k7c2 }
/-- java/lang/String -/
def k7 : Class := { plain "java/lang/String" (some 0) with
  accessFlags := 49
  interfaces := #[2, 3, 4, 5, 6]
  cf := some (fileOf pool7 10 #[.nestMembers #[1103]] #[{ accessFlags := 1, nameIndex := 5, descriptorIndex := 6, attributes := #[] }, { accessFlags := 1, nameIndex := 5, descriptorIndex := 1010, attributes := #[] }, { accessFlags := 2, nameIndex := 5, descriptorIndex := 29, attributes := #[] }] 49 2 #[1106, 1108, 575, 1110, 1112] #[{ accessFlags := 18, nameIndex := 13, descriptorIndex := 14, attributes := #[] }, { accessFlags := 18, nameIndex := 17, descriptorIndex := 18, attributes := #[] }, { accessFlags := 2, nameIndex := 21, descriptorIndex := 22, attributes := #[] }, { accessFlags := 2, nameIndex := 25, descriptorIndex := 26, attributes := #[] }, { accessFlags := 26, nameIndex := 1116, descriptorIndex := 1117, attributes := #[] }, { accessFlags := 24, nameIndex := 40, descriptorIndex := 26, attributes := #[] }, { accessFlags := 26, nameIndex := 1101, descriptorIndex := 1102, attributes := #[] }, { accessFlags := 26, nameIndex := 1121, descriptorIndex := 1122, attributes := #[] }, { accessFlags := 25, nameIndex := 599, descriptorIndex := 600, attributes := #[] }, { accessFlags := 24, nameIndex := 1125, descriptorIndex := 18, attributes := #[] }, { accessFlags := 24, nameIndex := 1127, descriptorIndex := 18, attributes := #[] }])
  fields := #[{ name := "value", type := (.array .byte), accessFlags := 18, slot := 0, constantValue := 0 }, { name := "coder", type := .byte, accessFlags := 18, slot := 1, constantValue := 0 }, { name := "hash", type := .int, accessFlags := 2, slot := 2, constantValue := 0 }, { name := "hashIsZero", type := .boolean, accessFlags := 2, slot := 3, constantValue := 0 }, { name := "serialVersionUID", type := .long, accessFlags := 26, slot := 0, constantValue := 0 }, { name := "COMPACT_STRINGS", type := .boolean, accessFlags := 24, slot := 1, constantValue := 0 }, { name := "serialPersistentFields", type := (.array (.object "java/io/ObjectStreamField")), accessFlags := 26, slot := 2, constantValue := 0 }, { name := "REPL", type := .char, accessFlags := 26, slot := 3, constantValue := 0 }, { name := "CASE_INSENSITIVE_ORDER", type := (.object "java/util/Comparator"), accessFlags := 25, slot := 4, constantValue := 0 }, { name := "LATIN1", type := .byte, accessFlags := 24, slot := 5, constantValue := 0 }, { name := "UTF16", type := .byte, accessFlags := 24, slot := 6, constantValue := 0 }]
  methods := #[k7m0, k7m1, k7m2]
  instanceTypes := #[(.array .byte), .byte, .int, .boolean]
  staticTypes := #[.long, .boolean, (.array (.object "java/io/ObjectStreamField")), .char, (.object "java/util/Comparator"), .byte, .byte]
  resolved := Array.replicate 1451 none
  statics := some 0 }

def pool8 : Array CpInfo := pool [(6, .class_ 8), (1, u "java/lang/Object"), (0, u "<init>"), (0, u "()V"), (1, .class_ 14), (1, u "java/lang/StringUTF16"), (31, u "$assertionsDisabled"), (0, u "Z"), (13, u "HI_BYTE_SHIFT"), (0, u "I"), (2, u "LO_BYTE_SHIFT"), (49, .methodref 12 116), (0, .nameAndType 117 118), (0, u "compress"), (0, u "([CI[BII)I"), (3, u "([CII)[B"), (138, u "coderFromArrayLen"), (0, u "([BI)B"), (106, .class_ 371), (1, u "java/lang/StringUTF16$LinesSpliterator"), (58, u "MAX_LENGTH"), (196, .class_ 628), (0, u "java/lang/StringUTF16$CodePointsSpliterator"), (0, .class_ 630), (0, u "java/lang/StringUTF16$CharsSpliterator")] 4

def k8m0 : Method := { name := "<init>", desc := "()V", sig := { parameters := [], returnType := none }, accessFlags := 0, code := none }
def k8c1 : Code := { maxStack := 2, maxLocals := 2, code := jdk_52_method_15_code, exceptionTable := #[], attributes := #[] }
def k8m1 : Method := { name := "coderFromArrayLen", desc := "([BI)B", sig := { parameters := [(.array .byte), .int], returnType := some .byte }, accessFlags := 8, code := some k8c1 }
def k8c2 : Code := { maxStack := 5, maxLocals := 6, code := jdk_52_method_16_code, exceptionTable := #[], attributes := #[] }
def k8m2 : Method := { name := "compress", desc := "([CII)[B", sig := { parameters := [(.array .char), .int, .int], returnType := some (.array .byte) }, accessFlags := 9, code := some k8c2 }
def k8c3 : Code := { maxStack := 3, maxLocals := 7, code := jdk_52_method_21_code, exceptionTable := #[], attributes := #[] }
def k8m3 : Method := { name := "compress", desc := "([CI[BII)I", sig := { parameters := [(.array .char), .int, (.array .byte), .int, .int], returnType := some .int }, accessFlags := 9, code := some k8c3 }
/-- java/lang/StringUTF16 -/
def k8 : Class := { plain "java/lang/StringUTF16" (some 0) with
  accessFlags := 48
  interfaces := #[]
  cf := some (fileOf pool8 12 #[.nestMembers #[627, 629, 369]] #[{ accessFlags := 0, nameIndex := 9, descriptorIndex := 10, attributes := #[] }, { accessFlags := 8, nameIndex := 261, descriptorIndex := 262, attributes := #[] }, { accessFlags := 9, nameIndex := 117, descriptorIndex := 122, attributes := #[] }, { accessFlags := 9, nameIndex := 117, descriptorIndex := 118, attributes := #[] }] 48 6 #[] #[{ accessFlags := 26, nameIndex := 61, descriptorIndex := 62, attributes := #[] }, { accessFlags := 26, nameIndex := 65, descriptorIndex := 62, attributes := #[] }, { accessFlags := 24, nameIndex := 430, descriptorIndex := 62, attributes := #[] }, { accessFlags := 4120, nameIndex := 46, descriptorIndex := 47, attributes := #[] }])
  fields := #[{ name := "HI_BYTE_SHIFT", type := .int, accessFlags := 26, slot := 0, constantValue := 0 }, { name := "LO_BYTE_SHIFT", type := .int, accessFlags := 26, slot := 1, constantValue := 0 }, { name := "MAX_LENGTH", type := .int, accessFlags := 24, slot := 2, constantValue := 0 }, { name := "$assertionsDisabled", type := .boolean, accessFlags := 4120, slot := 3, constantValue := 0 }]
  methods := #[k8m0, k8m1, k8m2, k8m3]
  instanceTypes := #[]
  staticTypes := #[.int, .int, .int, .boolean]
  resolved := Array.replicate 635 none
  statics := none }

def pool9 : Array CpInfo := pool [(2, .class_ 4), (1, u "java/lang/Object"), (3, .class_ 10), (1, u "com/example/darja/darja/BoardDefinition"), (0, u "period"), (0, u "Lcom/example/darja/darja/Period;"), (2, u "windows"), (0, u "Ljava/util/List;"), (2, u "windowsMillis"), (2, u "bucketMillis"), (0, u "J"), (2, u "zone"), (0, u "Ljava/time/ZoneId;"), (2, u "weekStart"), (0, u "Ljava/time/DayOfWeek;"), (2, u "keepMillis"), (6, u "buckets"), (0, u "Lcom/example/darja/darja/Buckets;"), (57, u "requireWholeSeconds"), (0, u "(Ljava/lang/String;J)V"), (75, u "UTC"), (56, u "WEEK_STARTS"), (151, .long 1000), (13, .class_ 402), (1, u "com/example/darja/darja/BoardDefinition$1"), (47, u "MAX_BUCKETS"), (0, u "I"), (2, u "MAX_WINDOWS"), (1, u "KIND"), (0, u "Ljava/lang/String;"), (0, u "ROLLING"), (0, u "PERIODIC"), (0, u "WINDOWS"), (0, u "BUCKET"), (0, u "PERIOD"), (0, u "ZONE"), (0, u "WEEK_START"), (0, u "KEEP")] 80

def k9c0 : Code := { maxStack := 5, maxLocals := 3, code := prog_3_method_34_code, exceptionTable := #[], attributes := #[] }
def k9m0 : Method := { name := "requireWholeSeconds", desc := "(Ljava/lang/String;J)V", sig := { parameters := [(.object "java/lang/String"), .long], returnType := none }, accessFlags := 8, code := some k9c0 }
/-- com/example/darja/darja/BoardDefinition -/
def k9 : Class := { plain "com/example/darja/darja/BoardDefinition" (some 0) with
  accessFlags := 49
  interfaces := #[]
  cf := some (fileOf pool9 8 #[.nestMembers #[400]] #[{ accessFlags := 8, nameIndex := 100, descriptorIndex := 101, attributes := #[] }] 49 2 #[] #[{ accessFlags := 25, nameIndex := 450, descriptorIndex := 451, attributes := #[] }, { accessFlags := 25, nameIndex := 454, descriptorIndex := 451, attributes := #[] }, { accessFlags := 26, nameIndex := 456, descriptorIndex := 457, attributes := #[] }, { accessFlags := 26, nameIndex := 458, descriptorIndex := 457, attributes := #[] }, { accessFlags := 26, nameIndex := 459, descriptorIndex := 457, attributes := #[] }, { accessFlags := 26, nameIndex := 460, descriptorIndex := 457, attributes := #[] }, { accessFlags := 26, nameIndex := 461, descriptorIndex := 457, attributes := #[] }, { accessFlags := 26, nameIndex := 462, descriptorIndex := 457, attributes := #[] }, { accessFlags := 26, nameIndex := 463, descriptorIndex := 457, attributes := #[] }, { accessFlags := 26, nameIndex := 464, descriptorIndex := 457, attributes := #[] }, { accessFlags := 26, nameIndex := 465, descriptorIndex := 457, attributes := #[] }, { accessFlags := 26, nameIndex := 177, descriptorIndex := 27, attributes := #[] }, { accessFlags := 26, nameIndex := 234, descriptorIndex := 16, attributes := #[] }, { accessFlags := 18, nameIndex := 11, descriptorIndex := 12, attributes := #[] }, { accessFlags := 18, nameIndex := 15, descriptorIndex := 16, attributes := #[] }, { accessFlags := 18, nameIndex := 19, descriptorIndex := 16, attributes := #[] }, { accessFlags := 18, nameIndex := 22, descriptorIndex := 23, attributes := #[] }, { accessFlags := 18, nameIndex := 26, descriptorIndex := 27, attributes := #[] }, { accessFlags := 18, nameIndex := 30, descriptorIndex := 31, attributes := #[] }, { accessFlags := 18, nameIndex := 34, descriptorIndex := 23, attributes := #[] }, { accessFlags := 18, nameIndex := 41, descriptorIndex := 42, attributes := #[] }])
  fields := #[{ name := "MAX_BUCKETS", type := .int, accessFlags := 25, slot := 0, constantValue := 0 }, { name := "MAX_WINDOWS", type := .int, accessFlags := 25, slot := 1, constantValue := 0 }, { name := "KIND", type := (.object "java/lang/String"), accessFlags := 26, slot := 2, constantValue := 0 }, { name := "ROLLING", type := (.object "java/lang/String"), accessFlags := 26, slot := 3, constantValue := 0 }, { name := "PERIODIC", type := (.object "java/lang/String"), accessFlags := 26, slot := 4, constantValue := 0 }, { name := "WINDOWS", type := (.object "java/lang/String"), accessFlags := 26, slot := 5, constantValue := 0 }, { name := "BUCKET", type := (.object "java/lang/String"), accessFlags := 26, slot := 6, constantValue := 0 }, { name := "PERIOD", type := (.object "java/lang/String"), accessFlags := 26, slot := 7, constantValue := 0 }, { name := "ZONE", type := (.object "java/lang/String"), accessFlags := 26, slot := 8, constantValue := 0 }, { name := "WEEK_START", type := (.object "java/lang/String"), accessFlags := 26, slot := 9, constantValue := 0 }, { name := "KEEP", type := (.object "java/lang/String"), accessFlags := 26, slot := 10, constantValue := 0 }, { name := "UTC", type := (.object "java/time/ZoneId"), accessFlags := 26, slot := 11, constantValue := 0 }, { name := "WEEK_STARTS", type := (.object "java/util/List"), accessFlags := 26, slot := 12, constantValue := 0 }, { name := "period", type := (.object "com/example/darja/darja/Period"), accessFlags := 18, slot := 0, constantValue := 0 }, { name := "windows", type := (.object "java/util/List"), accessFlags := 18, slot := 1, constantValue := 0 }, { name := "windowsMillis", type := (.object "java/util/List"), accessFlags := 18, slot := 2, constantValue := 0 }, { name := "bucketMillis", type := .long, accessFlags := 18, slot := 3, constantValue := 0 }, { name := "zone", type := (.object "java/time/ZoneId"), accessFlags := 18, slot := 4, constantValue := 0 }, { name := "weekStart", type := (.object "java/time/DayOfWeek"), accessFlags := 18, slot := 5, constantValue := 0 }, { name := "keepMillis", type := .long, accessFlags := 18, slot := 6, constantValue := 0 }, { name := "buckets", type := (.object "com/example/darja/darja/Buckets"), accessFlags := 18, slot := 7, constantValue := 0 }]
  methods := #[k9m0]
  instanceTypes := #[(.object "com/example/darja/darja/Period"), (.object "java/util/List"), (.object "java/util/List"), .long, (.object "java/time/ZoneId"), (.object "java/time/DayOfWeek"), .long, (.object "com/example/darja/darja/Buckets")]
  staticTypes := #[.int, .int, (.object "java/lang/String"), (.object "java/lang/String"), (.object "java/lang/String"), (.object "java/lang/String"), (.object "java/lang/String"), (.object "java/lang/String"), (.object "java/lang/String"), (.object "java/lang/String"), (.object "java/lang/String"), (.object "java/time/ZoneId"), (.object "java/util/List")]
  resolved := Array.replicate 546 none
  statics := none }

def pool10 : Array CpInfo := pool [(4, .class_ 6), (1, u "java/lang/Object"), (0, u "<init>"), (0, u "()V"), (5, .class_ 16), (1, u "java/lang/StringLatin1"), (104, u "$assertionsDisabled"), (0, u "Z"), (98, .class_ 223), (1, u "java/lang/StringLatin1$LinesSpliterator"), (166, .class_ 391), (0, u "java/lang/StringLatin1$CharsSpliterator")] 3

def k10m0 : Method := { name := "<init>", desc := "()V", sig := { parameters := [], returnType := none }, accessFlags := 0, code := none }
/-- java/lang/StringLatin1 -/
def k10 : Class := { plain "java/lang/StringLatin1" (some 0) with
  accessFlags := 48
  interfaces := #[]
  cf := some (fileOf pool10 14 #[.nestMembers #[390, 221]] #[{ accessFlags := 0, nameIndex := 7, descriptorIndex := 8, attributes := #[] }] 48 4 #[] #[{ accessFlags := 4120, nameIndex := 121, descriptorIndex := 122, attributes := #[] }])
  fields := #[{ name := "$assertionsDisabled", type := .boolean, accessFlags := 4120, slot := 0, constantValue := 0 }]
  methods := #[k10m0]
  instanceTypes := #[]
  staticTypes := #[.boolean]
  resolved := Array.replicate 395 none
  statics := none }

def pool11 : Array CpInfo := pool [(2, .class_ 4), (1, u "java/lang/Object"), (0, u "<init>"), (0, u "()V"), (17, .class_ 26), (1, u "jdk/internal/util/Preconditions"), (28, .class_ 56), (0, u "jdk/internal/util/Preconditions$4"), (57, .class_ 115), (0, u "jdk/internal/util/Preconditions$1"), (7, u "SIOOBE_FORMATTER"), (0, u "Ljava/util/function/BiFunction;"), (0, .class_ 126), (0, u "jdk/internal/util/Preconditions$2"), (3, u "AIOOBE_FORMATTER"), (0, .class_ 132), (0, u "jdk/internal/util/Preconditions$3"), (3, u "IOOBE_FORMATTER")] 57

def k11m0 : Method := { name := "<init>", desc := "()V", sig := { parameters := [], returnType := none }, accessFlags := 1, code := none }
/-- jdk/internal/util/Preconditions -/
def k11 : Class := { plain "jdk/internal/util/Preconditions" (some 0) with
  accessFlags := 33
  interfaces := #[]
  cf := some (fileOf pool11 24 #[.nestMembers #[55, 131, 125, 114]] #[{ accessFlags := 1, nameIndex := 5, descriptorIndex := 6, attributes := #[] }] 33 2 #[] #[{ accessFlags := 25, nameIndex := 123, descriptorIndex := 124, attributes := #[] }, { accessFlags := 25, nameIndex := 130, descriptorIndex := 124, attributes := #[] }, { accessFlags := 25, nameIndex := 136, descriptorIndex := 124, attributes := #[] }])
  fields := #[{ name := "SIOOBE_FORMATTER", type := (.object "java/util/function/BiFunction"), accessFlags := 25, slot := 0, constantValue := 0 }, { name := "AIOOBE_FORMATTER", type := (.object "java/util/function/BiFunction"), accessFlags := 25, slot := 1, constantValue := 0 }, { name := "IOOBE_FORMATTER", type := (.object "java/util/function/BiFunction"), accessFlags := 25, slot := 2, constantValue := 0 }]
  methods := #[k11m0]
  instanceTypes := #[]
  staticTypes := #[(.object "java/util/function/BiFunction"), (.object "java/util/function/BiFunction"), (.object "java/util/function/BiFunction")]
  resolved := Array.replicate 194 none
  statics := some 1 }

def pool12 : Array CpInfo := pool [(9, u "<init>"), (6, .class_ 18), (1, u "java/lang/Object"), (0, u "()V"), (1, .class_ 23), (1, u "jdk/internal/util/ArraysSupport"), (0, u "LOG2_ARRAY_LONG_INDEX_SCALE"), (0, u "I"), (2, u "U"), (0, u "Ljdk/internal/misc/Unsafe;"), (8, u "BIG_ENDIAN"), (0, u "Z"), (8, u "LOG2_BYTE_BIT_SIZE"), (4, u "LOG2_ARRAY_INT_INDEX_SCALE"), (54, u "JLA"), (0, u "Ljdk/internal/access/JavaLangAccess;"), (11, u "LOG2_ARRAY_BOOLEAN_INDEX_SCALE"), (9, u "LOG2_ARRAY_BYTE_INDEX_SCALE"), (5, u "LOG2_ARRAY_CHAR_INDEX_SCALE"), (5, u "LOG2_ARRAY_SHORT_INDEX_SCALE"), (18, u "LOG2_ARRAY_FLOAT_INDEX_SCALE"), (24, u "LOG2_ARRAY_DOUBLE_INDEX_SCALE"), (89, u "T_BOOLEAN"), (2, u "T_CHAR"), (1, u "T_FLOAT"), (1, u "T_DOUBLE"), (1, u "T_BYTE"), (1, u "T_SHORT"), (1, u "T_INT"), (1, u "T_LONG"), (1, u "SOFT_MAX_ARRAY_LENGTH")] 83

def k12m0 : Method := { name := "<init>", desc := "()V", sig := { parameters := [], returnType := none }, accessFlags := 2, code := none }
/-- jdk/internal/util/ArraysSupport -/
def k12 : Class := { plain "jdk/internal/util/ArraysSupport" (some 0) with
  accessFlags := 33
  interfaces := #[]
  cf := some (fileOf pool12 21 #[] #[{ accessFlags := 2, nameIndex := 9, descriptorIndex := 19, attributes := #[] }] 33 16 #[] #[{ accessFlags := 24, nameIndex := 28, descriptorIndex := 29, attributes := #[] }, { accessFlags := 26, nameIndex := 38, descriptorIndex := 39, attributes := #[] }, { accessFlags := 25, nameIndex := 121, descriptorIndex := 25, attributes := #[] }, { accessFlags := 25, nameIndex := 131, descriptorIndex := 25, attributes := #[] }, { accessFlags := 25, nameIndex := 137, descriptorIndex := 25, attributes := #[] }, { accessFlags := 25, nameIndex := 143, descriptorIndex := 25, attributes := #[] }, { accessFlags := 25, nameIndex := 53, descriptorIndex := 25, attributes := #[] }, { accessFlags := 25, nameIndex := 24, descriptorIndex := 25, attributes := #[] }, { accessFlags := 25, nameIndex := 162, descriptorIndex := 25, attributes := #[] }, { accessFlags := 25, nameIndex := 187, descriptorIndex := 25, attributes := #[] }, { accessFlags := 26, nameIndex := 48, descriptorIndex := 25, attributes := #[] }, { accessFlags := 25, nameIndex := 277, descriptorIndex := 25, attributes := #[] }, { accessFlags := 25, nameIndex := 280, descriptorIndex := 25, attributes := #[] }, { accessFlags := 25, nameIndex := 282, descriptorIndex := 25, attributes := #[] }, { accessFlags := 25, nameIndex := 284, descriptorIndex := 25, attributes := #[] }, { accessFlags := 25, nameIndex := 286, descriptorIndex := 25, attributes := #[] }, { accessFlags := 25, nameIndex := 288, descriptorIndex := 25, attributes := #[] }, { accessFlags := 25, nameIndex := 290, descriptorIndex := 25, attributes := #[] }, { accessFlags := 25, nameIndex := 292, descriptorIndex := 25, attributes := #[] }, { accessFlags := 26, nameIndex := 108, descriptorIndex := 109, attributes := #[] }, { accessFlags := 25, nameIndex := 294, descriptorIndex := 25, attributes := #[] }])
  fields := #[{ name := "U", type := (.object "jdk/internal/misc/Unsafe"), accessFlags := 24, slot := 0, constantValue := 0 }, { name := "BIG_ENDIAN", type := .boolean, accessFlags := 26, slot := 1, constantValue := 0 }, { name := "LOG2_ARRAY_BOOLEAN_INDEX_SCALE", type := .int, accessFlags := 25, slot := 2, constantValue := 0 }, { name := "LOG2_ARRAY_BYTE_INDEX_SCALE", type := .int, accessFlags := 25, slot := 3, constantValue := 0 }, { name := "LOG2_ARRAY_CHAR_INDEX_SCALE", type := .int, accessFlags := 25, slot := 4, constantValue := 0 }, { name := "LOG2_ARRAY_SHORT_INDEX_SCALE", type := .int, accessFlags := 25, slot := 5, constantValue := 0 }, { name := "LOG2_ARRAY_INT_INDEX_SCALE", type := .int, accessFlags := 25, slot := 6, constantValue := 0 }, { name := "LOG2_ARRAY_LONG_INDEX_SCALE", type := .int, accessFlags := 25, slot := 7, constantValue := 0 }, { name := "LOG2_ARRAY_FLOAT_INDEX_SCALE", type := .int, accessFlags := 25, slot := 8, constantValue := 0 }, { name := "LOG2_ARRAY_DOUBLE_INDEX_SCALE", type := .int, accessFlags := 25, slot := 9, constantValue := 0 }, { name := "LOG2_BYTE_BIT_SIZE", type := .int, accessFlags := 26, slot := 10, constantValue := 0 }, { name := "T_BOOLEAN", type := .int, accessFlags := 25, slot := 11, constantValue := 0 }, { name := "T_CHAR", type := .int, accessFlags := 25, slot := 12, constantValue := 0 }, { name := "T_FLOAT", type := .int, accessFlags := 25, slot := 13, constantValue := 0 }, { name := "T_DOUBLE", type := .int, accessFlags := 25, slot := 14, constantValue := 0 }, { name := "T_BYTE", type := .int, accessFlags := 25, slot := 15, constantValue := 0 }, { name := "T_SHORT", type := .int, accessFlags := 25, slot := 16, constantValue := 0 }, { name := "T_INT", type := .int, accessFlags := 25, slot := 17, constantValue := 0 }, { name := "T_LONG", type := .int, accessFlags := 25, slot := 18, constantValue := 0 }, { name := "JLA", type := (.object "jdk/internal/access/JavaLangAccess"), accessFlags := 26, slot := 19, constantValue := 0 }, { name := "SOFT_MAX_ARRAY_LENGTH", type := .int, accessFlags := 25, slot := 20, constantValue := 0 }]
  methods := #[k12m0]
  instanceTypes := #[]
  staticTypes := #[(.object "jdk/internal/misc/Unsafe"), .boolean, .int, .int, .int, .int, .int, .int, .int, .int, .int, .int, .int, .int, .int, .int, .int, .int, .int, (.object "jdk/internal/access/JavaLangAccess"), .int]
  resolved := Array.replicate 378 none
  statics := none }

def pool13 : Array CpInfo := pool [(1, u "java/lang/Cloneable"), (0, .class_ 1), (0, u "java/lang/Object"), (0, .class_ 3)] 3

/-- java/lang/Cloneable -/
def k13 : Class := { plain "java/lang/Cloneable" (some 0) with
  accessFlags := 1537
  interfaces := #[]
  cf := some (fileOf pool13 2 #[] #[] 1537 4 #[] #[])
  fields := #[]
  methods := #[]
  instanceTypes := #[]
  staticTypes := #[]
  resolved := Array.replicate 8 none
  statics := none }

/-- the primitive byte -/
def k14 : Class := { plain "byte" none with kind := .primitive 'B', accessFlags := 0x411 }
/-- [B -/
def k15 : Class := { plain "[B" (some 0) with kind := .array 14 .byte, interfaces := #[13, 2], accessFlags := 1041 }

/-- the primitive char -/
def k16 : Class := { plain "char" none with kind := .primitive 'C', accessFlags := 0x411 }
/-- [C -/
def k17 : Class := { plain "[C" (some 0) with kind := .array 16 .char, interfaces := #[13, 2], accessFlags := 1041 }

/-- the primitive int -/
def k18 : Class := { plain "int" none with kind := .primitive 'I', accessFlags := 0x411 }
/-- [I -/
def k19 : Class := { plain "[I" (some 0) with kind := .array 18 .int, interfaces := #[13, 2], accessFlags := 1041 }

def heap : Heap := #[{ cls := 7, slots := #[.long 0, .int 1, .null, .int 0, .null, .int 0, .int 0], vm := .statics 7 },
  { cls := 11, slots := #[.null, .null, .null], vm := .statics 11 }]
def classes : Array Class := #[k0, k1, k2, k3, k4, k5, k6, k7, k8, k9, k10, k11, k12, k13, k14, k15, k16, k17, k18, k19]
def interned : List (Array UInt16 × Addr) := []
def slotsUsed : Nat := 10
def theMethod : MethodId := ⟨1, 1⟩
def args0 : Array Value := #[.long 5, .int 65, .int 66]
def aboutOver (below : List Frame) : State where
  vm := { classes := classes, interned := interned.toArray }
  heap := heap
  slotsUsed := slotsUsed
  threads := #[{ frames := .invoking theMethod args0 :: below }]
def below0 : List Frame := [.native { method := ⟨0, 0⟩, args := #[] }]
def about1 : State := aboutOver below0
def p0 : Program := .bare "" "" ""
def e0 : Env := launch0.env 0 0 0
theorem w_frames : about1.frames = Frame.invoking theMethod args0 :: below0 := rfl
set_option maxRecDepth 65536 in
theorem w_args : argsFit about1.vm theMethod args0 = true := by decide +kernel
set_option maxRecDepth 65536 in
theorem w_heap : heapFits about1 = true := by decide +kernel
set_option maxRecDepth 65536 in
theorem w_runnable : about1.curStatus? = some .runnable := by decide +kernel
set_option maxRecDepth 65536 in
theorem w_alone : about1.alone = true := by decide +kernel
set_option maxRecDepth 65536 in
theorem w_named : about1.methodNamed? x = some theMethod := by decide +kernel
set_option maxRecDepth 65536 in
theorem w_hears : about1.hears theMethod below0 = true := by decide +kernel
set_option maxRecDepth 65536 in
theorem w_ripe : about1.ripe theMethod args0 below0 = true := by decide +kernel
theorem w_running : about1.status = .running := rfl
set_option maxRecDepth 65536 in
theorem w_room : about1.hasRoom e0.platform room_1 = true :=
  launch0.hasRoom_least _ room_1 (by decide +kernel) (by decide +kernel) (by decide +kernel) (by decide +kernel) (by decide +kernel) (by decide +kernel)
theorem allAtoms_all (ts : List Jvm.Cond) (a : Array Jvm.Value) (st : Jvm.State) : (allAtoms ts).before a st = ts.all (fun c => c.before a st) := by
  induction ts with
  | nil => rfl
  | cons c t ih =>
    show (Jvm.Cond.and c (allAtoms t)).before a st = _
    rw [Jvm.Cond.before_and, ih, List.all_cons]
def words1 : List Jvm.Cond := Jvm.Cond.code x code maxLocals ret :: tables_1
/-- a 'code' word, met by the world's own term for the bytes: nothing is compared byte by byte -/
theorem code_word {y : MethodName} {bytes : ByteArray} {mx : Nat} {rt : Option FieldType} {a : Array Value} {s : State} {m : MethodId} {meth : Method} {c : Code} (h1 : s.methodNamed? y = some m) (h2 : s.vm.method? m = some meth) (h3 : meth.code = some c) (h4 : c.code = bytes)
    (h5 : (c.maxLocals == mx && c.exceptionTable.isEmpty && decide (c.maxStack ≤ mostOperands) && decide (meth.sig.returnType = rt) && !meth.locks && decide (parseMethodDescriptor y.desc = some meth.sig)) = true) : (Jvm.Cond.code y bytes mx rt).before a s = true := by
  simp only [Bool.and_eq_true, beq_iff_eq, Bool.not_eq_true', decide_eq_true_eq] at h5
  obtain ⟨⟨⟨⟨⟨g1, g2⟩, g3⟩, g4⟩, g5⟩, g6⟩ := h5
  simp [Cond.before, Cond.holds, Cond.value, h1, h2, h3, h4, g1, g2, g3, g4, g5, g6]
def isCode : Jvm.Cond → Bool
  | .code _ _ _ _ => true
  | _ => false
theorem all_split {L : List Jvm.Cond} {P : Jvm.Cond → Bool} (h1 : L.all (fun c => isCode c || P c) = true) (h2 : ∀ c ∈ L.filter isCode, P c = true) : L.all P = true := by
  refine List.all_eq_true.mpr fun c hc => ?_
  have h := List.all_eq_true.mp h1 c hc
  rcases Bool.eq_false_or_eq_true (isCode c) with hi | hi
  · exact h2 c (List.mem_filter.mpr ⟨hc, hi⟩)
  · simpa [hi] using h
set_option maxRecDepth 65536 in
theorem w_c0 : (Jvm.Cond.code x code maxLocals ret).before args0 about1 = true := code_word (m := ⟨1, 1⟩) (meth := k1m1) (c := k1c1) (by decide +kernel) rfl rfl rfl (by decide +kernel)
set_option maxRecDepth 65536 in
theorem w_c1 : (Jvm.Cond.code ({ cls := "java/lang/String", name := "<init>", desc := "([C)V" } : Jvm.MethodName) jdk_42_method_3_code (2 : Nat) (Option.none : Option Jvm.ClassFile.FieldType)).before args0 about1 = true := code_word (m := ⟨7, 1⟩) (meth := k7m1) (c := k7c1) (by decide +kernel) rfl rfl rfl (by decide +kernel)
set_option maxRecDepth 65536 in
theorem w_c2 : (Jvm.Cond.code ({ cls := "java/lang/String", name := "<init>", desc := "([CIILjava/lang/Void;)V" } : Jvm.MethodName) jdk_42_method_149_code (6 : Nat) (Option.none : Option Jvm.ClassFile.FieldType)).before args0 about1 = true := code_word (m := ⟨7, 2⟩) (meth := k7m2) (c := k7c2) (by decide +kernel) rfl rfl rfl (by decide +kernel)
set_option maxRecDepth 65536 in
theorem w_c3 : (Jvm.Cond.code ({ cls := "java/lang/Object", name := "<init>", desc := "()V" } : Jvm.MethodName) object_method_1_code (1 : Nat) (Option.none : Option Jvm.ClassFile.FieldType)).before args0 about1 = true := code_word (m := ⟨0, 0⟩) (meth := k0m0) (c := k0c0) (by decide +kernel) rfl rfl rfl (by decide +kernel)
set_option maxRecDepth 65536 in
theorem w_c4 : (Jvm.Cond.code ({ cls := "java/lang/StringUTF16", name := "compress", desc := "([CII)[B" } : Jvm.MethodName) jdk_52_method_16_code (6 : Nat) (Option.some (Jvm.ClassFile.FieldType.array Jvm.ClassFile.FieldType.byte))).before args0 about1 = true := code_word (m := ⟨8, 2⟩) (meth := k8m2) (c := k8c2) (by decide +kernel) rfl rfl rfl (by decide +kernel)
set_option maxRecDepth 65536 in
theorem w_c5 : (Jvm.Cond.code ({ cls := "java/lang/StringUTF16", name := "compress", desc := "([CI[BII)I" } : Jvm.MethodName) jdk_52_method_21_code (7 : Nat) (Option.some Jvm.ClassFile.FieldType.int)).before args0 about1 = true := code_word (m := ⟨8, 3⟩) (meth := k8m3) (c := k8c3) (by decide +kernel) rfl rfl rfl (by decide +kernel)
set_option maxRecDepth 65536 in
theorem w_c6 : (Jvm.Cond.code ({ cls := "java/lang/StringUTF16", name := "coderFromArrayLen", desc := "([BI)B" } : Jvm.MethodName) jdk_52_method_15_code (2 : Nat) (Option.some Jvm.ClassFile.FieldType.byte)).before args0 about1 = true := code_word (m := ⟨8, 1⟩) (meth := k8m1) (c := k8c1) (by decide +kernel) rfl rfl rfl (by decide +kernel)
set_option maxRecDepth 65536 in
theorem w_c7 : (Jvm.Cond.code ({ cls := "com/example/darja/darja/BoardDefinition", name := "requireWholeSeconds", desc := "(Ljava/lang/String;J)V" } : Jvm.MethodName) prog_3_method_34_code (3 : Nat) (Option.none : Option Jvm.ClassFile.FieldType)).before args0 about1 = true := code_word (m := ⟨9, 0⟩) (meth := k9m0) (c := k9c0) (by decide +kernel) rfl rfl rfl (by decide +kernel)
def codes1 : List Jvm.Cond := [Jvm.Cond.code x code maxLocals ret, Jvm.Cond.code ({ cls := "java/lang/String", name := "<init>", desc := "([C)V" } : Jvm.MethodName) jdk_42_method_3_code (2 : Nat) (Option.none : Option Jvm.ClassFile.FieldType), Jvm.Cond.code ({ cls := "java/lang/String", name := "<init>", desc := "([CIILjava/lang/Void;)V" } : Jvm.MethodName) jdk_42_method_149_code (6 : Nat) (Option.none : Option Jvm.ClassFile.FieldType), Jvm.Cond.code ({ cls := "java/lang/Object", name := "<init>", desc := "()V" } : Jvm.MethodName) object_method_1_code (1 : Nat) (Option.none : Option Jvm.ClassFile.FieldType), Jvm.Cond.code ({ cls := "java/lang/StringUTF16", name := "compress", desc := "([CII)[B" } : Jvm.MethodName) jdk_52_method_16_code (6 : Nat) (Option.some (Jvm.ClassFile.FieldType.array Jvm.ClassFile.FieldType.byte)), Jvm.Cond.code ({ cls := "java/lang/StringUTF16", name := "compress", desc := "([CI[BII)I" } : Jvm.MethodName) jdk_52_method_21_code (7 : Nat) (Option.some Jvm.ClassFile.FieldType.int), Jvm.Cond.code ({ cls := "java/lang/StringUTF16", name := "coderFromArrayLen", desc := "([BI)B" } : Jvm.MethodName) jdk_52_method_15_code (2 : Nat) (Option.some Jvm.ClassFile.FieldType.byte), Jvm.Cond.code ({ cls := "com/example/darja/darja/BoardDefinition", name := "requireWholeSeconds", desc := "(Ljava/lang/String;J)V" } : Jvm.MethodName) prog_3_method_34_code (3 : Nat) (Option.none : Option Jvm.ClassFile.FieldType)]
set_option maxRecDepth 65536 in
theorem codes_eq : words1.filter isCode = codes1 := rfl
theorem w_codes : ∀ c ∈ words1.filter isCode, c.before args0 about1 = true := by
  rw [codes_eq]
  intro c hc
  simp only [codes1, List.mem_cons, List.not_mem_nil, or_false] at hc
  rcases hc with rfl | rfl | rfl | rfl | rfl | rfl | rfl | rfl
  · exact w_c0
  · exact w_c1
  · exact w_c2
  · exact w_c3
  · exact w_c4
  · exact w_c5
  · exact w_c6
  · exact w_c7
set_option maxRecDepth 65536 in
theorem w_t1 : (words1.take 24).all (fun c => isCode c || c.before args0 about1) = true := by decide +kernel
set_option maxRecDepth 65536 in
theorem w_t2 : (words1.drop 24).all (fun c => isCode c || c.before args0 about1) = true := by decide +kernel
theorem w_tables : (allAtoms (Jvm.Cond.code x code maxLocals ret :: tables_1)).before args0 about1 = true := by
  rw [allAtoms_all]
  show words1.all (fun c => c.before args0 about1) = true
  refine all_split ?_ w_codes
  rw [← List.take_append_drop 24 words1, List.all_append, w_t1, w_t2]
  rfl
set_option maxRecDepth 65536 in
theorem w_rest : rest_1_c.before args0 about1 = true := by decide +kernel
set_option maxRecDepth 65536 in
theorem w_case : (Jvm.Cond.and given_1 narrow_1).before args0 about1 = true := by decide +kernel
theorem w_applies : (headSpec (Jvm.Cond.code x code maxLocals ret :: tables_1) room_1).applies x e0.platform about1 = true :=
  (Spec.applies_iff w_frames).mpr ⟨w_running, w_runnable, w_alone, w_named, w_hears, w_ripe, w_room, w_tables⟩
theorem atStart : AtStart classFile x code maxLocals ret World_1 tables_1 room_1 Calls_1 rest_1 Pre_1 launch0 p0 e0 about1 theMethod args0 below0 :=
  ⟨lists_1, trivial, launch0.admits_env _ _ _, launch0.least_env, fairChoices_fair.cas, fairChoices_fair.clock, w_frames, w_args, w_heap, w_applies, trivial, w_rest, w_case⟩
end start1
theorem witness_1 : WitnessClaimed_1 := ⟨start1.p0, start1.e0, start1.about1, start1.theMethod, start1.args0, start1.below0, start1.atStart⟩
end Jvm.Pilot.@@N@@
