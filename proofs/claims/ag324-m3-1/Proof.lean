import JvmDerived
import JvmDerived.Pilot.@@N@@Statement
import JvmDerived.Pilot.@@N@@Code
set_option linter.unusedVariables false
set_option linter.unusedSimpArgs false
/- laws to paste: Road.backV, Road.codOf (cut by pick.py; bodies as the Statement names them) -/
namespace Jvm.Pilot.@@N@@
namespace StrChars
open Jvm Sem ClassFile Op Lib Jvm.Stand Jvm.Free.XT Jvm.Free.ALB Jvm.Free.JM Jvm.Free
open Jvm.Lib.Cold (StaticIs)
/-- a char array whose places are chars -/
def Ch (a : Addr) (A : Cell) (U : State) : Prop := Arr .char a A U ∧ Typed .char A
theorem Ch.mv {a : Addr} {A : Cell} {U U' : State} (h : Ch a A U) (hal : U.vm.Alike U'.vm) (hh : U'.heap = U.heap) : Ch a A U' := ⟨h.1.mv hal hh, h.2⟩
theorem Ch.keep {a : Addr} {A : Cell} {U U' : State} (h : Ch a A U) (hal : U.vm.Alike U'.vm) (hk : U'.heap[a]? = some A) : Ch a A U' := ⟨h.1.keep hal hk, h.2⟩
/-- what place i of a char[]'s cell holds -/
def cv (A : Cell) (i : Nat) : Int32 := match A.slots[i]? with | some (.int x) => x | _ => 0
theorem Ch.get {a : Addr} {A : Cell} {U : State} (h : Ch a A U) {i : Nat} (hi : i < A.slots.size) : A.slots[i]? = some (.int (cv A i)) := by
  have e := Array.getElem?_eq_getElem hi
  have f := h.2 i _ e
  unfold cv; rw [e]
  generalize A.slots[i] = v at f
  cases v <;> simp [fits] at f ⊢
/-- the byte that i2b leaves of a char -/
def lo8 (x : Int32) : Int32 := x.toInt8.toInt32
theorem fits_lo8 (y : Int32) : fits .byte (.int (lo8 y)) = true := by
  have h1 := y.toInt8.le_toInt
  have h2 := y.toInt8.toInt_lt
  simp only [lo8, fits, Bool.and_eq_true, decide_eq_true_eq, Int32.le_iff_toInt_le, Int8.toInt_toInt32, show (-128 : Int32).toInt = -128 from by decide, show (127 : Int32).toInt = 127 from by decide]
  omega
/-- A' is A but that each place j of lo .. hi - 1 holds f j -/
def Laid (A A' : Cell) (lo hi : Nat) (f : Nat → Value) : Prop := A'.cls = A.cls ∧ A'.vm = A.vm ∧ A'.slots.size = A.slots.size ∧ ∀ i, A'.slots[i]? = if lo ≤ i ∧ i < hi then some (f i) else A.slots[i]?
theorem Laid.zero (A : Cell) (lo : Nat) (f : Nat → Value) : Laid A A lo (lo + 0) f := ⟨rfl, rfl, rfl, fun i => by rw [if_neg (by omega)]⟩
theorem Laid.step {A Ak : Cell} {lo k : Nat} {f : Nat → Value} {v : Value} (h : Laid A Ak lo k f) (hlo : lo ≤ k) (hk : k < Ak.slots.size) (hv : v = f k) : Laid A (Ak.setSlot k v) lo (k + 1) f := by
  refine ⟨h.1, h.2.1, by simpa [Cell.setSlot] using h.2.2.1, fun i => ?_⟩
  by_cases e : k = i
  · subst e; rw [Cell.slots_setSlot_self v hk, if_pos (by omega), hv]
  · rw [Cell.slots_setSlot_ne v e, h.2.2.2 i]
    by_cases q : lo ≤ i ∧ i < k
    · rw [if_pos q, if_pos (by omega)]
    · rw [if_neg q, if_neg (by omega)]
def U16 : String := "java/lang/StringUTF16"
namespace Cmp5
def yN : MethodName := ⟨"java/lang/StringUTF16", "compress", "([CI[BII)I"⟩
abbrev yB : ByteArray := jdk_52_method_21_code
theorem d0 : decode yB 0 = .ok (.iconst 0, 1) := by decide +kernel
theorem d1 : decode yB 1 = .ok (.istore 5, 2) := by decide +kernel
theorem d3 : decode yB 3 = .ok (.iload 5, 2) := by decide +kernel
theorem d5 : decode yB 5 = .ok (.iload 4, 2) := by decide +kernel
theorem d7 : decode yB 7 = .ok (.if_icmp (.ge) 37, 3) := by decide +kernel
theorem d10 : decode yB 10 = .ok (.aload_n 0, 1) := by decide +kernel
theorem d11 : decode yB 11 = .ok (.iload_n 1, 1) := by decide +kernel
theorem d12 : decode yB 12 = .ok (.caload, 1) := by decide +kernel
theorem d13 : decode yB 13 = .ok (.istore 6, 2) := by decide +kernel
theorem d15 : decode yB 15 = .ok (.iload 6, 2) := by decide +kernel
theorem d17 : decode yB 17 = .ok (.sipush 255, 3) := by decide +kernel
theorem d20 : decode yB 20 = .ok (.if_icmp (.le) 6, 3) := by decide +kernel
theorem d26 : decode yB 26 = .ok (.aload_n 2, 1) := by decide +kernel
theorem d27 : decode yB 27 = .ok (.iload_n 3, 1) := by decide +kernel
theorem d28 : decode yB 28 = .ok (.iload 6, 2) := by decide +kernel
theorem d30 : decode yB 30 = .ok (.i2b, 1) := by decide +kernel
theorem d31 : decode yB 31 = .ok (.bastore, 1) := by decide +kernel
theorem d32 : decode yB 32 = .ok (.iinc 1 1, 3) := by decide +kernel
theorem d35 : decode yB 35 = .ok (.iinc 3 1, 3) := by decide +kernel
theorem d38 : decode yB 38 = .ok (.iinc 5 1, 3) := by decide +kernel
theorem d41 : decode yB 41 = .ok (.goto (-38), 3) := by decide +kernel
theorem d44 : decode yB 44 = .ok (.iload 4, 2) := by decide +kernel
theorem d46 : decode yB 46 = .ok (.ireturn, 1) := by decide +kernel
def site : List Cond := []
def tab : Cond := tabOf yN yB 7 (some .int) site
def P (b : Addr) (A : Cell) (d : Addr) (B : Cell) (o q len : Nat) (args : Array Value) (s : State) : Prop := args = #[.ref b, .int (Int32.ofNat o), .ref d, .int (Int32.ofNat q), .int (Int32.ofNat len)] ∧ Ch b A s ∧ Arr .byte d B s ∧ b ≠ d ∧ o + len ≤ A.slots.size ∧ q + len ≤ B.slots.size ∧ ∀ i, i < len → ¬ 255 < cv A (o + i)
def E (b : Addr) (A : Cell) (d : Addr) (B : Cell) (o q len : Nat) (r : Option Value) (s u : State) : Prop := r = some (.int (Int32.ofNat len)) ∧ ∃ B', Put d B' s u ∧ Laid B B' q (q + len) (fun j => Value.int (lo8 (cv A (o + (j - q)))))
/-- no char of the range above 255: len; the places written hold each char's low byte -/
theorem law (l : Launch) (b : Addr) (A : Cell) (d : Addr) (B : Cell) (o q len : Nat) : Law l yN 5 5 0 0 yB 7 (some .int) site (P b A d B o q len) (E b A d B o q len) (copyLocs d q len) 0 0 := by
  refine Law.of_walk (plainFor_of_name (by decide +kernel)) (by decide +kernel) (by decide +kernel) (by decide) (fun _ _ h => by rw [h.1]; rfl) (fun _ U U' hal hh h => ⟨h.1, h.2.1.mv hal hh, h.2.2.1.mv hal hh, h.2.2.2⟩) (fun r U U' V V' h1 hal h2 h => ⟨h.1, h.2.elim fun B' q => ⟨B', q.1.mv h1 h2, q.2⟩⟩) ?_
  intro p e s m args below meth c s₁ X0 hexec hbytes hml hret hlk hnm hown hh0 W hP
  obtain ⟨rfl, hA, hB, hne, l1, l2, hp⟩ := hP
  have c1 : Steps p.tables e below (s₁.setTop (entryFrame m #[.ref b, .int (Int32.ofNat o), .ref d, .int (Int32.ofNat q), .int (Int32.ofNat len)] 7)) (s₁.setTop (mkF m 0 #[.val (.ref b), .val (.int (Int32.ofNat o)), .val (.ref d), .val (.int (Int32.ofNat q)), .val (.int (Int32.ofNat len)), .unset, .unset] [])) := entry rfl
  have hA0 := hA.1.mv X0.warmed.alike hh0
  have hB0 := hB.mv X0.warmed.alike hh0
  have a31 := hA.1.2.2.2
  have c2 : Steps p.tables e below (s₁.setTop (entryFrame m #[.ref b, .int (Int32.ofNat o), .ref d, .int (Int32.ofNat q), .int (Int32.ofNat len)] 7)) (s₁.setTop (mkF m 3 #[.val (.ref b), .val (.int (Int32.ofNat o)), .val (.ref d), .val (.int (Int32.ofNat q)), .val (.int (Int32.ofNat len)), .val (.int 0), .unset] [])) := c1.trans (by
    refine iconstV X0.here hexec rfl 0 (hb hbytes d0) (by decide) ?_
    refine XS.istore X0.here hexec rfl (hb hbytes d1) rfl rfl ?_
    exact Steps.refl _)
  have loop : ∀ (r i : Nat), i + r = len → ∀ (z : Slot), (z = .unset ∨ ∃ w, z = .val w ∧ w.category = 1) → ∀ (Tl : State) (Bk : Cell), Stand p l e { frames := 0, locals := 0, cells := 0, slots := 0 } s m #[.ref b, .int (Int32.ofNat o), .ref d, .int (Int32.ofNat q), .int (Int32.ofNat len)] below meth c Tl ([] ++ copyLocs d q i) 0 0 → Put d Bk s₁ Tl → Laid B Bk q (q + i) (fun j => Value.int (lo8 (cv A (o + (j - q))))) →
      Steps p.tables e below (s₁.setTop (entryFrame m #[.ref b, .int (Int32.ofNat o), .ref d, .int (Int32.ofNat q), .int (Int32.ofNat len)] 7)) (Tl.setTop (mkF m 3 #[.val (.ref b), .val (.int (Int32.ofNat (o + i))), .val (.ref d), .val (.int (Int32.ofNat (q + i))), .val (.int (Int32.ofNat len)), .val (.int (Int32.ofNat i)), z] [])) → ∃ (T' : State) (B' : Cell) (z' : Slot), Stand p l e { frames := 0, locals := 0, cells := 0, slots := 0 } s m #[.ref b, .int (Int32.ofNat o), .ref d, .int (Int32.ofNat q), .int (Int32.ofNat len)] below meth c T' ([] ++ copyLocs d q len) 0 0 ∧ Put d B' s₁ T' ∧ Laid B B' q (q + len) (fun j => Value.int (lo8 (cv A (o + (j - q))))) ∧
      Steps p.tables e below (s₁.setTop (entryFrame m #[.ref b, .int (Int32.ofNat o), .ref d, .int (Int32.ofNat q), .int (Int32.ofNat len)] 7)) (T'.setTop (mkF m 3 #[.val (.ref b), .val (.int (Int32.ofNat (o + len))), .val (.ref d), .val (.int (Int32.ofNat (q + len))), .val (.int (Int32.ofNat len)), .val (.int (Int32.ofNat len)), z'] [])) := by
    intro r
    induction r with
    | zero =>
      intro i hi z hz Tl Bk Xl pl fl cl
      have hil : i = len := by omega
      rw [hil] at Xl fl cl
      exact ⟨Tl, Bk, z, Xl, pl, fl, cl⟩
    | succ r ih =>
      intro i hi z hz Tl Bk Xl pl fl cl
      have all := X0.warmed.alike.symm.trans Xl.warmed.alike
      have hAl := hA0.keep all (pl.other hne hA0.1)
      have hBk := hB0.like all pl.1 fl.1 fl.2.1 fl.2.2.1
      have hlt : q + i < Bk.slots.size := by rw [fl.2.2.1]; omega
      have c3 : Steps p.tables e below (s₁.setTop (entryFrame m #[.ref b, .int (Int32.ofNat o), .ref d, .int (Int32.ofNat q), .int (Int32.ofNat len)] 7)) (Tl.setTop (mkF m 12 #[.val (.ref b), .val (.int (Int32.ofNat (o + i))), .val (.ref d), .val (.int (Int32.ofNat (q + i))), .val (.int (Int32.ofNat len)), .val (.int (Int32.ofNat i)), z] [.int (Int32.ofNat (o + i)), .ref b])) := cl.trans (by
        refine XS.iload Xl.here hexec rfl (hb hbytes d3) rfl ?_
        refine XS.iload Xl.here hexec rfl (hb hbytes d5) rfl ?_
        refine XS.icmpNo Xl.here hexec rfl (hb hbytes d7) rfl (ii_ge_f (lt32 (by omega) (by omega))) ?_
        refine XS.aloadN Xl.here hexec rfl (hb hbytes d10) rfl rfl ?_
        refine XS.iloadN Xl.here hexec rfl (hb hbytes d11) rfl ?_
        exact Steps.refl _)
      have c4 : Steps p.tables e below (s₁.setTop (entryFrame m #[.ref b, .int (Int32.ofNat o), .ref d, .int (Int32.ofNat q), .int (Int32.ofNat len)] 7)) (Tl.setTop (mkF m 13 #[.val (.ref b), .val (.int (Int32.ofNat (o + i))), .val (.ref d), .val (.int (Int32.ofNat (q + i))), .val (.int (Int32.ofNat len)), .val (.int (Int32.ofNat i)), z] [.int (cv A (o + i))])) := c3.trans (by
        refine Xl.aget hexec hAl rfl (hA.get (i := o + i) (by omega)) rfl rfl (hb hbytes d12) ?_
        exact Steps.refl _)
      have c5 : Steps p.tables e below (s₁.setTop (entryFrame m #[.ref b, .int (Int32.ofNat o), .ref d, .int (Int32.ofNat q), .int (Int32.ofNat len)] 7)) (Tl.setTop (mkF m 15 #[.val (.ref b), .val (.int (Int32.ofNat (o + i))), .val (.ref d), .val (.int (Int32.ofNat (q + i))), .val (.int (Int32.ofNat len)), .val (.int (Int32.ofNat i)), .val (.int (cv A (o + i)))] [])) := c4.trans (by
        refine XS.istoreS Xl.here hexec rfl (hb hbytes d13) rfl rfl hz ?_
        exact Steps.refl _)
      have c6 : Steps p.tables e below (s₁.setTop (entryFrame m #[.ref b, .int (Int32.ofNat o), .ref d, .int (Int32.ofNat q), .int (Int32.ofNat len)] 7)) (Tl.setTop (mkF m 31 #[.val (.ref b), .val (.int (Int32.ofNat (o + i))), .val (.ref d), .val (.int (Int32.ofNat (q + i))), .val (.int (Int32.ofNat len)), .val (.int (Int32.ofNat i)), .val (.int (cv A (o + i)))] [.int (lo8 (cv A (o + i))), .int (Int32.ofNat (q + i)), .ref d])) := c5.trans (by
        refine XS.iload Xl.here hexec rfl (hb hbytes d15) rfl ?_
        refine sipushV Xl.here hexec rfl 255 (hb hbytes d17) (by decide) ?_
        refine XS.icmpYes Xl.here hexec rfl (pc0 := 20) rfl (hb hbytes d20) rfl (ii_le_t (hp i (by omega))) (by decide) rfl ?_
        refine XS.aloadN Xl.here hexec rfl (hb hbytes d26) rfl rfl ?_
        refine XS.iloadN Xl.here hexec rfl (hb hbytes d27) rfl ?_
        refine XS.iload Xl.here hexec rfl (hb hbytes d28) rfl ?_
        refine i2b Xl.here hexec rfl (hb hbytes d30) rfl ?_
        exact Steps.refl _)
      obtain ⟨T7, X7, p7, st7⟩ := Xl.aput hexec hBk rfl hlt rfl (fits_lo8 (cv A (o + i))) (g := (mkF m 31 #[.val (.ref b), .val (.int (Int32.ofNat (o + i))), .val (.ref d), .val (.int (Int32.ofNat (q + i))), .val (.int (Int32.ofNat len)), .val (.int (Int32.ofNat i)), .val (.int (cv A (o + i)))] [.int (lo8 (cv A (o + i))), .int (Int32.ofNat (q + i)), .ref d])) rfl (rest := []) rfl (hb hbytes d31)
      have c8 : Steps p.tables e below (s₁.setTop (entryFrame m #[.ref b, .int (Int32.ofNat o), .ref d, .int (Int32.ofNat q), .int (Int32.ofNat len)] 7)) (T7.setTop (mkF m 32 #[.val (.ref b), .val (.int (Int32.ofNat (o + i))), .val (.ref d), .val (.int (Int32.ofNat (q + i))), .val (.int (Int32.ofNat len)), .val (.int (Int32.ofNat i)), .val (.int (cv A (o + i)))] [])) := c6.trans (st7 _ (Steps.refl _))
      have c9 : Steps p.tables e below (s₁.setTop (entryFrame m #[.ref b, .int (Int32.ofNat o), .ref d, .int (Int32.ofNat q), .int (Int32.ofNat len)] 7)) (T7.setTop (mkF m 3 #[.val (.ref b), .val (.int (Int32.ofNat (o + i) + 1)), .val (.ref d), .val (.int (Int32.ofNat (q + i) + 1)), .val (.int (Int32.ofNat len)), .val (.int (Int32.ofNat i + 1)), .val (.int (cv A (o + i)))] [])) := c8.trans (by
        refine iincV X7.here hexec rfl 1 (hb hbytes d32) (by decide) rfl rfl ?_
        refine iincV X7.here hexec rfl 1 (hb hbytes d35) (by decide) rfl rfl ?_
        refine iincV X7.here hexec rfl 1 (hb hbytes d38) (by decide) rfl rfl ?_
        refine XS.goto X7.here hexec rfl (pc0 := 41) rfl (hb hbytes d41) (by decide) rfl ?_
        exact Steps.refl _)
      have c10 : Steps p.tables e below (s₁.setTop (entryFrame m #[.ref b, .int (Int32.ofNat o), .ref d, .int (Int32.ofNat q), .int (Int32.ofNat len)] 7)) (T7.setTop (mkF m 3 #[.val (.ref b), .val (.int (Int32.ofNat (o + (i + 1)))), .val (.ref d), .val (.int (Int32.ofNat (q + (i + 1)))), .val (.int (Int32.ofNat len)), .val (.int (Int32.ofNat (i + 1))), .val (.int (cv A (o + i)))] [])) := by
        have := c9
        rw [succ32, succ32, succ32] at this
        exact this
      exact ih (i + 1) (by omega) _ (Or.inr ⟨_, rfl, rfl⟩) T7 _ (by rw [copyLocs_step, ← List.append_assoc]; exact X7) (pl.trans p7) (fl.step (by omega) hlt (by simp)) c10
  obtain ⟨T9, B9, z9, X9, p9, f9, g9⟩ := loop len 0 (by omega) .unset (Or.inl rfl) s₁ B (by simpa [copyLocs] using X0) ⟨hB0.1, fun _ _ => rfl, rfl⟩ (Laid.zero _ _ _) c2
  have c11 : Steps p.tables e below (s₁.setTop (entryFrame m #[.ref b, .int (Int32.ofNat o), .ref d, .int (Int32.ofNat q), .int (Int32.ofNat len)] 7)) (T9.setTop (mkF m 46 #[.val (.ref b), .val (.int (Int32.ofNat (o + len))), .val (.ref d), .val (.int (Int32.ofNat (q + len))), .val (.int (Int32.ofNat len)), .val (.int (Int32.ofNat len)), z9] [.int (Int32.ofNat len)])) := g9.trans (by
    refine XS.iload X9.here hexec rfl (hb hbytes d3) rfl ?_
    refine XS.iload X9.here hexec rfl (hb hbytes d5) rfl ?_
    refine XS.icmpYes X9.here hexec rfl (pc0 := 7) rfl (hb hbytes d7) rfl (ii_ge_t (nlt32 (by omega) (Nat.le_refl _))) (by decide) rfl ?_
    refine XS.iload X9.here hexec rfl (hb hbytes d44) rfl ?_
    exact Steps.refl _)
  exact ⟨T9, some (.int (Int32.ofNat len)), _, _, _, X9, by simp, rfl, rfl, (fun h => by cases h), ⟨rfl, B9, p9.from hh0, f9⟩, fun fs hl => c11.trans (X9.ireturnOut hexec hret rfl (Or.inl rfl) (hb hbytes d46) hl)⟩
end Cmp5
namespace Cmp3
def yN : MethodName := ⟨"java/lang/StringUTF16", "compress", "([CII)[B"⟩
abbrev yB : ByteArray := jdk_52_method_16_code
theorem d0 : decode yB 0 = .ok (.iload_n 2, 1) := by decide +kernel
theorem d1 : decode yB 1 = .ok (.newarray .byte, 2) := by decide +kernel
theorem d3 : decode yB 3 = .ok (.astore_n 3, 1) := by decide +kernel
theorem d4 : decode yB 4 = .ok (.aload_n 0, 1) := by decide +kernel
theorem d5 : decode yB 5 = .ok (.iload_n 1, 1) := by decide +kernel
theorem d6 : decode yB 6 = .ok (.aload_n 3, 1) := by decide +kernel
theorem d7 : decode yB 7 = .ok (.iconst 0, 1) := by decide +kernel
theorem d8 : decode yB 8 = .ok (.iload_n 2, 1) := by decide +kernel
theorem d9 : decode yB 9 = .ok (.invokestatic 115, 3) := by decide +kernel
theorem d12 : decode yB 12 = .ok (.istore 4, 2) := by decide +kernel
theorem d14 : decode yB 14 = .ok (.iload 4, 2) := by decide +kernel
theorem d16 : decode yB 16 = .ok (.iload_n 2, 1) := by decide +kernel
theorem d17 : decode yB 17 = .ok (.if_icmp (.eq) 40, 3) := by decide +kernel
theorem d57 : decode yB 57 = .ok (.aload_n 3, 1) := by decide +kernel
theorem d58 : decode yB 58 = .ok (.areturn, 1) := by decide +kernel
def site : List Cond := [.arrayClass .byte, Cmp5.tab] ++ staticW U16 115 Cmp5.yN
def tab : Cond := tabOf yN yB 6 (some (.array .byte)) site
def P (b : Addr) (A : Cell) (o len : Nat) (args : Array Value) (s : State) : Prop := args = #[.ref b, .int (Int32.ofNat o), .int (Int32.ofNat len)] ∧ Ch b A s ∧ o + len ≤ A.slots.size ∧ len ≤ 536870912 ∧ ∀ i, i < len → ¬ 255 < cv A (o + i)
def E (b : Addr) (A : Cell) (o len : Nat) (r : Option Value) (s u : State) : Prop := NewArr .byte "[B" len (fun j => .int (lo8 (cv A (o + j)))) r s u ∧ u.heap.size = s.heap.size + 1
/-- no char of the range above 255: a new byte[] of their low bytes -/
theorem law (l : Launch) (b : Addr) (A : Cell) (o len : Nat) : Law l yN 3 3 1 18 yB 6 (some (.array .byte)) site (P b A o len) (E b A o len) [] 1 len := by
  refine Law.of_walk (plainFor_of_name (by decide +kernel)) (by decide +kernel) (by decide +kernel) (by decide) (fun _ _ h => by rw [h.1]; rfl) (fun _ U U' hal hh h => ⟨h.1, h.2.1.mv hal hh, h.2.2⟩) (fun r U U' V V' h1 hal h2 h => ⟨NewArr.mv r U U' V V' h1 hal h2 h.1, by rw [h1, h2]; exact h.2⟩) ?_
  intro p e s m args below meth c s₁ X0 hexec hbytes hml hret hlk hnm hown hh0 W hP
  obtain ⟨rfl, hA, l1, l2, hp⟩ := hP
  have a31 := hA.1.2.2.2
  have c1 : Steps p.tables e below (s₁.setTop (entryFrame m #[.ref b, .int (Int32.ofNat o), .int (Int32.ofNat len)] 6)) (s₁.setTop (mkF m 0 #[.val (.ref b), .val (.int (Int32.ofNat o)), .val (.int (Int32.ofNat len)), .unset, .unset, .unset] [])) := entry rfl
  have c2 : Steps p.tables e below (s₁.setTop (entryFrame m #[.ref b, .int (Int32.ofNat o), .int (Int32.ofNat len)] 6)) (s₁.setTop (mkF m 1 #[.val (.ref b), .val (.int (Int32.ofNat o)), .val (.int (Int32.ofNat len)), .unset, .unset, .unset] [.int (Int32.ofNat len)])) := c1.trans (by
    refine XS.iloadN X0.here hexec rfl (hb hbytes d0) rfl ?_
    exact Steps.refl _)
  obtain ⟨T3, B3, X3, ba3, bs3, bv3, bh3, bf3, st3⟩ := X0.anew hexec (atype := .byte) (wk W (.arrayClass .byte)) rfl (by show len * 1 ≤ _; omega) (by omega) (g := (mkF m 1 #[.val (.ref b), .val (.int (Int32.ofNat o)), .val (.int (Int32.ofNat len)), .unset, .unset, .unset] [.int (Int32.ofNat len)])) rfl (hb hbytes d1) (rest := []) rfl (Nat.le_refl _) (by show 0 + len ≤ len; omega)
  rw [hh0] at ba3 st3
  have kp3 : XT.Kept s T3 := (XT.Kept.of_eq hh0).push bh3
  have hA3 := hA.keep X3.warmed.alike (kp3 _ _ hA.1.1)
  have hne : b ≠ s.heap.size := hA.1.ne
  have c4 : Steps p.tables e below (s₁.setTop (entryFrame m #[.ref b, .int (Int32.ofNat o), .int (Int32.ofNat len)] 6)) (T3.setTop (mkF m 3 #[.val (.ref b), .val (.int (Int32.ofNat o)), .val (.int (Int32.ofNat len)), .unset, .unset, .unset] [.ref s.heap.size])) := c2.trans (st3 _ (Steps.refl _))
  have c5 : Steps p.tables e below (s₁.setTop (entryFrame m #[.ref b, .int (Int32.ofNat o), .int (Int32.ofNat len)] 6)) (T3.setTop (mkF m 9 #[.val (.ref b), .val (.int (Int32.ofNat o)), .val (.int (Int32.ofNat len)), .val (.ref s.heap.size), .unset, .unset] [.int (Int32.ofNat len), .int 0, .ref s.heap.size, .int (Int32.ofNat o), .ref b])) := c4.trans (by
    refine XS.astoreN X3.here hexec rfl (hb hbytes d3) rfl rfl rfl ?_
    refine XS.aloadN X3.here hexec rfl (hb hbytes d4) rfl rfl ?_
    refine XS.iloadN X3.here hexec rfl (hb hbytes d5) rfl ?_
    refine XS.aloadN X3.here hexec rfl (hb hbytes d6) rfl rfl ?_
    refine iconstV X3.here hexec rfl 0 (hb hbytes d7) (by decide) ?_
    refine XS.iloadN X3.here hexec rfl (hb hbytes d8) rfl ?_
    exact Steps.refl _)
  obtain ⟨v6, T6, X6, E6, g6⟩ := X3.callS hexec (Cmp5.law l b A s.heap.size B3 o 0 len) hown (wks W (staticW U16 115 Cmp5.yN)) (wk W Cmp5.tab) (W := 0) (Nat.le_of_ble_eq_true rfl) (Nat.le_of_ble_eq_true rfl) (Nat.le_refl _) (by show 0 + len + 0 ≤ len; omega) (g := (mkF m 9 #[.val (.ref b), .val (.int (Int32.ofNat o)), .val (.int (Int32.ofNat len)), .val (.ref s.heap.size), .unset, .unset] [.int (Int32.ofNat len), .int (Int32.ofNat 0), .ref s.heap.size, .int (Int32.ofNat o), .ref b])) rfl (by rw [hml]; rfl) c5 (argsL := [.ref b, .int (Int32.ofNat o), .ref s.heap.size, .int (Int32.ofNat 0), .int (Int32.ofNat len)]) (rest := []) rfl rfl (by show 2 * 0 + 0 ≤ _; decide) (hb hbytes d9) (⟨rfl, hA3, ba3, hne, l1, by rw [bs3]; simp, hp⟩)
  obtain ⟨rfl, B6, p6, f6⟩ := E6
  have c7 : Steps p.tables e below (s₁.setTop (entryFrame m #[.ref b, .int (Int32.ofNat o), .int (Int32.ofNat len)] 6)) (T6.setTop (mkF m 12 #[.val (.ref b), .val (.int (Int32.ofNat o)), .val (.int (Int32.ofNat len)), .val (.ref s.heap.size), .unset, .unset] [.int (Int32.ofNat len)])) := g6
  have c8 : Steps p.tables e below (s₁.setTop (entryFrame m #[.ref b, .int (Int32.ofNat o), .int (Int32.ofNat len)] 6)) (T6.setTop (mkF m 58 #[.val (.ref b), .val (.int (Int32.ofNat o)), .val (.int (Int32.ofNat len)), .val (.ref s.heap.size), .val (.int (Int32.ofNat len)), .unset] [.ref s.heap.size])) := c7.trans (by
    refine XS.istore X6.here hexec rfl (hb hbytes d12) rfl rfl ?_
    refine XS.iload X6.here hexec rfl (hb hbytes d14) rfl ?_
    refine XS.iloadN X6.here hexec rfl (hb hbytes d16) rfl ?_
    refine XS.icmpYes X6.here hexec rfl (pc0 := 17) rfl (hb hbytes d17) rfl (ii_eq_t rfl) (by decide) rfl ?_
    refine XS.aloadN X6.here hexec rfl (hb hbytes d57) rfl rfl ?_
    exact Steps.refl _)
  have X8 := X6.wide (L' := []) (cells' := 1) (slots' := len) (fun x hx hlt => by
    simp only [List.nil_append, copyLocs, List.mem_map, List.mem_range] at hx
    obtain ⟨i, -, rfl⟩ := hx
    exact absurd hlt (Nat.lt_irrefl _)) (Nat.le_refl _) (by omega)
  exact ⟨T6, some (.ref s.heap.size), _, _, _, X8, rfl, rfl, rfl, (fun h => by cases h), ⟨⟨rfl, B6, ba3.like (X3.warmed.alike.symm.trans X6.warmed.alike) p6.1 f6.1 f6.2.1 f6.2.2.1, f6.2.1.trans bv3, by rw [X6.warmed.alike.findClass, f6.1]; exact bf3, by rw [f6.2.2.1, bs3]; simp, fun j hj => by rw [f6.2.2.2 j, if_pos (by omega)]; rfl, kp3.put p6 (Nat.le_refl _)⟩, by rw [p6.2.2, bh3, hh0]; simp⟩, fun fs hl => c8.trans (X8.areturnOut hexec rfl hret rfl (hb hbytes d58) hl)⟩
end Cmp3
namespace CodL
def yN : MethodName := ⟨"java/lang/StringUTF16", "coderFromArrayLen", "([BI)B"⟩
abbrev yB : ByteArray := jdk_52_method_15_code
theorem d0 : decode yB 0 = .ok (.iload_n 1, 1) := by decide +kernel
theorem d1 : decode yB 1 = .ok (.aload_n 0, 1) := by decide +kernel
theorem d2 : decode yB 2 = .ok (.arraylength, 1) := by decide +kernel
theorem d3 : decode yB 3 = .ok (.isub, 1) := by decide +kernel
theorem d4 : decode yB 4 = .ok (.bipush 31, 2) := by decide +kernel
theorem d6 : decode yB 6 = .ok (.iushr, 1) := by decide +kernel
theorem d7 : decode yB 7 = .ok (.i2b, 1) := by decide +kernel
theorem d8 : decode yB 8 = .ok (.ireturn, 1) := by decide +kernel
def site : List Cond := []
def tab : Cond := tabOf yN yB 2 (some .byte) site
def P (d : Addr) (B : Cell) (args : Array Value) (s : State) : Prop := args = #[.ref d, .int (Int32.ofNat B.slots.size)] ∧ Arr .byte d B s
def E (r : Option Value) (s u : State) : Prop := XT.PureE (some (.int 0)) r s u
/-- an array as long as the number of chars: LATIN1 -/
theorem law (l : Launch) (d : Addr) (B : Cell) : Law l yN 2 2 0 0 yB 2 (some .byte) site (P d B) E [] 0 0 := by
  refine Law.of_walk (plainFor_of_name (by decide +kernel)) (by decide +kernel) (by decide +kernel) (by decide) (fun _ _ h => by rw [h.1]; rfl) (fun _ U U' hal hh h => ⟨h.1, h.2.mv hal hh⟩) (fun r U U' V V' h1 hal h2 h => XT.PureE.mv r U U' V V' h1 hal h2 h) ?_
  intro p e s m args below meth c s₁ X0 hexec hbytes hml hret hlk hnm hown hh0 W hP
  obtain ⟨rfl, hB⟩ := hP
  have hB0 := hB.mv X0.warmed.alike hh0
  have c1 : Steps p.tables e below (s₁.setTop (entryFrame m #[.ref d, .int (Int32.ofNat B.slots.size)] 2)) (s₁.setTop (mkF m 0 #[.val (.ref d), .val (.int (Int32.ofNat B.slots.size))] [])) := entry rfl
  have c2 : Steps p.tables e below (s₁.setTop (entryFrame m #[.ref d, .int (Int32.ofNat B.slots.size)] 2)) (s₁.setTop (mkF m 2 #[.val (.ref d), .val (.int (Int32.ofNat B.slots.size))] [.ref d, .int (Int32.ofNat B.slots.size)])) := c1.trans (by
    refine XS.iloadN X0.here hexec rfl (hb hbytes d0) rfl ?_
    refine XS.aloadN X0.here hexec rfl (hb hbytes d1) rfl rfl ?_
    exact Steps.refl _)
  have c3 : Steps p.tables e below (s₁.setTop (entryFrame m #[.ref d, .int (Int32.ofNat B.slots.size)] 2)) (s₁.setTop (mkF m 8 #[.val (.ref d), .val (.int (Int32.ofNat B.slots.size))] [.int (lo8 (ushr (Int32.ofNat B.slots.size - Int32.ofNat B.slots.size) 31))])) := c2.trans (by
    refine X0.alen hexec hB0 rfl rfl (hb hbytes d2) ?_
    refine XS.isub X0.here hexec rfl (hb hbytes d3) rfl ?_
    refine bipushV X0.here hexec rfl 31 (hb hbytes d4) (by decide) ?_
    refine iushr X0.here hexec rfl (hb hbytes d6) rfl ?_
    refine i2b X0.here hexec rfl (hb hbytes d7) rfl ?_
    exact Steps.refl _)
  have e0 : lo8 (ushr (Int32.ofNat B.slots.size - Int32.ofNat B.slots.size) 31) = 0 := by rw [Int32.sub_self]; decide
  rw [e0] at c3
  exact ⟨s₁, some (.int 0), _, _, _, X0, rfl, rfl, rfl, (fun h => by cases h), ⟨rfl, hh0⟩, fun fs hl => c3.trans (X0.ireturnOut hexec hret rfl (Or.inr (Or.inr (Or.inl rfl))) (hb hbytes d8) hl)⟩
end CodL
/-- the String at a is Latin-1 over a new byte[] (the heap's one new cell): the low bytes of the len chars of A from o on; every cell but a is kept -/
def Got (a : Addr) (D : Cell) (fV fC : Field) (A : Cell) (o len : Nat) (r : Option Value) (s u : State) : Prop := r = none ∧ ∃ D' V : Cell, Blank "java/lang/String" a D' u ∧ Same D D' [fV.slot, fC.slot] ∧ D'.slots[fV.slot]? = some (.ref s.heap.size) ∧ D'.slots[fC.slot]? = some (.int 0) ∧ Arr .byte s.heap.size V u ∧ V.vm = .none ∧ u.vm.findClass "[B" = some V.cls ∧ V.slots.size = len ∧ (∀ j, j < len → V.slots[j]? = some (.int (lo8 (cv A (o + j))))) ∧ (∀ (y : Addr) (c : Cell), y ≠ a → s.heap[y]? = some c → u.heap[y]? = some c) ∧ u.heap.size = s.heap.size + 1
theorem Got.mv {a : Addr} {D A : Cell} {fV fC : Field} {o len : Nat} : ∀ r (U U' V V' : State), U'.heap = U.heap → V.vm.Alike V'.vm → V'.heap = V.heap → Got a D fV fC A o len r U V → Got a D fV fC A o len r U' V' :=
  fun r U U' V V' h1 hal h2 ⟨e0, D', X, a1, a2, a3, a4, a5, a6, a7, a8, a9, a10, a11⟩ => ⟨e0, D', X, a1.mv hal h2, a2, by rw [h1]; exact a3, a4, by rw [h1]; exact a5.mv hal h2, a6, by rw [hal.findClass]; exact a7, a8, a9, by rw [h1, h2]; exact a10, by rw [h1, h2]; exact a11⟩
namespace New4
def yN : MethodName := ⟨"java/lang/String", "<init>", "([CIILjava/lang/Void;)V"⟩
abbrev yB : ByteArray := jdk_42_method_149_code
theorem d0 : decode yB 0 = .ok (.aload_n 0, 1) := by decide +kernel
theorem d1 : decode yB 1 = .ok (.invokespecial 1, 3) := by decide +kernel
theorem d4 : decode yB 4 = .ok (.iload_n 3, 1) := by decide +kernel
theorem d5 : decode yB 5 = .ok (.ifCond (.ne) 22, 3) := by decide +kernel
theorem d27 : decode yB 27 = .ok (.getstatic 38, 3) := by decide +kernel
theorem d30 : decode yB 30 = .ok (.ifCond (.eq) 28, 3) := by decide +kernel
theorem d33 : decode yB 33 = .ok (.aload_n 1, 1) := by decide +kernel
theorem d34 : decode yB 34 = .ok (.iload_n 2, 1) := by decide +kernel
theorem d35 : decode yB 35 = .ok (.iload_n 3, 1) := by decide +kernel
theorem d36 : decode yB 36 = .ok (.invokestatic 177, 3) := by decide +kernel
theorem d39 : decode yB 39 = .ok (.astore 5, 2) := by decide +kernel
theorem d41 : decode yB 41 = .ok (.aload_n 0, 1) := by decide +kernel
theorem d42 : decode yB 42 = .ok (.aload 5, 2) := by decide +kernel
theorem d44 : decode yB 44 = .ok (.iload_n 3, 1) := by decide +kernel
theorem d45 : decode yB 45 = .ok (.invokestatic 47, 3) := by decide +kernel
theorem d48 : decode yB 48 = .ok (.putfield 15, 3) := by decide +kernel
theorem d51 : decode yB 51 = .ok (.aload_n 0, 1) := by decide +kernel
theorem d52 : decode yB 52 = .ok (.aload 5, 2) := by decide +kernel
theorem d54 : decode yB 54 = .ok (.putfield 9, 3) := by decide +kernel
theorem d57 : decode yB 57 = .ok (.return_, 1) := by decide +kernel
def site : List Cond := [.fieldLink "java/lang/String" 38 "java/lang/String" "COMPACT_STRINGS" "Z", Cmp3.tab, CodL.tab, .laysFinal "java/lang/String" "java/lang/String" "value" "[B", .fieldLink "java/lang/String" 9 "java/lang/String" "value" "[B", .laysFinal "java/lang/String" "java/lang/String" "coder" "B", .fieldLink "java/lang/String" 15 "java/lang/String" "coder" "B"] ++ objW "java/lang/String" 1 ++ staticW "java/lang/String" 177 Cmp3.yN ++ staticW "java/lang/String" 47 CodL.yN
def tab : Cond := tabOf yN yB 6 none site
def P (a : Addr) (D : Cell) (fV fC : Field) (b : Addr) (A : Cell) (z : Int32) (o len : Nat) (args : Array Value) (s : State) : Prop := args = #[.ref a, .ref b, .int (Int32.ofNat o), .int (Int32.ofNat len), .null] ∧ Blank "java/lang/String" a D s ∧ Found "java/lang/String" "value" "[B" fV s ∧ Found "java/lang/String" "coder" "B" fC s ∧ Ch b A s ∧ StaticIs s "java/lang/String" "COMPACT_STRINGS" "Z" (.int z) ∧ ¬ z = 0 ∧ 0 < len ∧ o + len ≤ A.slots.size ∧ len ≤ 536870912 ∧ ∀ i, i < len → ¬ 255 < cv A (o + i)
def E (a : Addr) (D : Cell) (fV fC : Field) (A : Cell) (o len : Nat) (r : Option Value) (s u : State) : Prop := Got a D fV fC A o len r s u
/-- len > 0, no char of the range above 255: a Latin-1 String of their low bytes -/
theorem law (l : Launch) (a : Addr) (D : Cell) (fV fC : Field) (b : Addr) (A : Cell) (z : Int32) (o len : Nat) : Law l yN 5 4 2 35 yB 6 none site (P a D fV fC b A z o len) (E a D fV fC A o len) [⟨a, fC.slot⟩, ⟨a, fV.slot⟩] 1 len := by
  refine Law.of_walk (plainFor_of_name (by decide +kernel)) (by decide +kernel) (by decide +kernel) (by decide) (fun _ _ h => by rw [h.1]; rfl) (fun _ U U' hal hh h => ⟨h.1, h.2.1.mv hal hh, h.2.2.1.al hal, h.2.2.2.1.al hal, h.2.2.2.2.1.mv hal hh, h.2.2.2.2.2.1.there hal hh, h.2.2.2.2.2.2⟩) (fun r U U' V V' h1 hal h2 h => Got.mv r U U' V V' h1 hal h2 h) ?_
  intro p e s m args below meth c s₁ X0 hexec hbytes hml hret hlk hnm hown hh0 W hP
  obtain ⟨rfl, hB, f1, f2, hA, s1, hz, l0, l1, l2, hp⟩ := hP
  have a31 := hA.1.2.2.2
  have c1 : Steps p.tables e below (s₁.setTop (entryFrame m #[.ref a, .ref b, .int (Int32.ofNat o), .int (Int32.ofNat len), .null] 6)) (s₁.setTop (mkF m 0 #[.val (.ref a), .val (.ref b), .val (.int (Int32.ofNat o)), .val (.int (Int32.ofNat len)), .val .null, .unset] [])) := entry rfl
  have c2 : Steps p.tables e below (s₁.setTop (entryFrame m #[.ref a, .ref b, .int (Int32.ofNat o), .int (Int32.ofNat len), .null] 6)) (s₁.setTop (mkF m 1 #[.val (.ref a), .val (.ref b), .val (.int (Int32.ofNat o)), .val (.int (Int32.ofNat len)), .val .null, .unset] [.ref a])) := c1.trans (by
    refine XS.aloadN X0.here hexec rfl (hb hbytes d0) rfl rfl ?_
    exact Steps.refl _)
  obtain ⟨T3, X3, q3, st3⟩ := X0.oinit hexec hown (wks W (objW "java/lang/String" 1)) (g := (mkF m 1 #[.val (.ref a), .val (.ref b), .val (.int (Int32.ofNat o)), .val (.int (Int32.ofNat len)), .val .null, .unset] [.ref a])) rfl (by rw [hml]; rfl) (rest := []) rfl (hb hbytes d1) (W := 0) (by show 2 * 0 + 0 ≤ _; decide) (Nat.le_of_ble_eq_true rfl) (Nat.le_of_ble_eq_true rfl)
  have hh3 := q3.trans hh0
  have c4 : Steps p.tables e below (s₁.setTop (entryFrame m #[.ref a, .ref b, .int (Int32.ofNat o), .int (Int32.ofNat len), .null] 6)) (T3.setTop (mkF m 27 #[.val (.ref a), .val (.ref b), .val (.int (Int32.ofNat o)), .val (.int (Int32.ofNat len)), .val .null, .unset] [])) := (c2.trans (st3 _ (Steps.refl _))).trans (by
    refine XS.iloadN X3.here hexec rfl (hb hbytes d4) rfl ?_
    refine XS.ifYes X3.here hexec rfl (pc0 := 5) rfl (hb hbytes d5) rfl (i0_ne_t (nz32 (by omega) l0)) (by decide) rfl ?_
    exact Steps.refl _)
  obtain ⟨T5, X5, q5, st5⟩ := X3.sget hexec hown (wk W (.fieldLink "java/lang/String" 38 "java/lang/String" "COMPACT_STRINGS" "Z")) s1 (fun _ _ h => by rw [hh3]; exact h) (g := (mkF m 27 #[.val (.ref a), .val (.ref b), .val (.int (Int32.ofNat o)), .val (.int (Int32.ofNat len)), .val .null, .unset] [])) rfl (hb hbytes d27)
  have hh5 := q5.trans hh3
  have c6 : Steps p.tables e below (s₁.setTop (entryFrame m #[.ref a, .ref b, .int (Int32.ofNat o), .int (Int32.ofNat len), .null] 6)) (T5.setTop (mkF m 30 #[.val (.ref a), .val (.ref b), .val (.int (Int32.ofNat o)), .val (.int (Int32.ofNat len)), .val .null, .unset] [.int z])) := c4.trans (st5 _ (Steps.refl _))
  have c7 : Steps p.tables e below (s₁.setTop (entryFrame m #[.ref a, .ref b, .int (Int32.ofNat o), .int (Int32.ofNat len), .null] 6)) (T5.setTop (mkF m 36 #[.val (.ref a), .val (.ref b), .val (.int (Int32.ofNat o)), .val (.int (Int32.ofNat len)), .val .null, .unset] [.int (Int32.ofNat len), .int (Int32.ofNat o), .ref b])) := c6.trans (by
    refine XS.ifNo X5.here hexec rfl (hb hbytes d30) rfl (i0_eq_f hz) ?_
    refine XS.aloadN X5.here hexec rfl (hb hbytes d33) rfl rfl ?_
    refine XS.iloadN X5.here hexec rfl (hb hbytes d34) rfl ?_
    refine XS.iloadN X5.here hexec rfl (hb hbytes d35) rfl ?_
    exact Steps.refl _)
  obtain ⟨v8, T8, X8, E8, g8⟩ := X5.callS hexec (Cmp3.law l b A o len) hown (wks W (staticW "java/lang/String" 177 Cmp3.yN)) (wk W Cmp3.tab) (W := 0) (Nat.le_of_ble_eq_true rfl) (Nat.le_of_ble_eq_true rfl) (Nat.le_refl _) (by show 0 + len ≤ len; omega) (g := (mkF m 36 #[.val (.ref a), .val (.ref b), .val (.int (Int32.ofNat o)), .val (.int (Int32.ofNat len)), .val .null, .unset] [.int (Int32.ofNat len), .int (Int32.ofNat o), .ref b])) rfl (by rw [hml]; rfl) c7 (argsL := [.ref b, .int (Int32.ofNat o), .int (Int32.ofNat len)]) (rest := []) rfl rfl (by show 2 * 0 + 0 ≤ _; decide) (hb hbytes d36) (⟨rfl, hA.mv X5.warmed.alike hh5, l1, l2, hp⟩)
  obtain ⟨e8, z8⟩ := E8
  obtain ⟨rfl, N, n1, n2, n3, n4, n5, n6⟩ := NewArr.mv _ T5 s _ _ hh5.symm (Vm.Alike.refl _) rfl e8
  rw [hh5] at z8
  have hB1 := hB.keep X8.warmed.alike (n6 _ _ hB.1)
  have hne : s.heap.size ≠ a := (Nat.ne_of_lt (Array.getElem?_eq_some_iff.mp hB.1).1).symm
  have c9 : Steps p.tables e below (s₁.setTop (entryFrame m #[.ref a, .ref b, .int (Int32.ofNat o), .int (Int32.ofNat len), .null] 6)) (T8.setTop (mkF m 39 #[.val (.ref a), .val (.ref b), .val (.int (Int32.ofNat o)), .val (.int (Int32.ofNat len)), .val .null, .unset] [.ref s.heap.size])) := g8
  have c10 : Steps p.tables e below (s₁.setTop (entryFrame m #[.ref a, .ref b, .int (Int32.ofNat o), .int (Int32.ofNat len), .null] 6)) (T8.setTop (mkF m 45 #[.val (.ref a), .val (.ref b), .val (.int (Int32.ofNat o)), .val (.int (Int32.ofNat len)), .val .null, .val (.ref s.heap.size)] [.int (Int32.ofNat N.slots.size), .ref s.heap.size, .ref a])) := by
    have hc : Steps p.tables e below (s₁.setTop (entryFrame m #[.ref a, .ref b, .int (Int32.ofNat o), .int (Int32.ofNat len), .null] 6)) (T8.setTop (mkF m 45 #[.val (.ref a), .val (.ref b), .val (.int (Int32.ofNat o)), .val (.int (Int32.ofNat len)), .val .null, .val (.ref s.heap.size)] [.int (Int32.ofNat len), .ref s.heap.size, .ref a])) := c9.trans (by
      refine XS.astore X8.here hexec rfl (hb hbytes d39) rfl rfl rfl ?_
      refine XS.aloadN X8.here hexec rfl (hb hbytes d41) rfl rfl ?_
      refine XS.aload X8.here hexec rfl (hb hbytes d42) rfl rfl ?_
      refine XS.iloadN X8.here hexec rfl (hb hbytes d44) rfl ?_
      exact Steps.refl _)
    rw [n4]; exact hc
  obtain ⟨v11, T11, X11, E11, g11⟩ := X8.callS hexec (CodL.law l s.heap.size N) hown (wks W (staticW "java/lang/String" 47 CodL.yN)) (wk W CodL.tab) (W := 1) (Nat.le_of_ble_eq_true rfl) (Nat.le_of_ble_eq_true rfl) (Nat.le_refl _) (by show 0 + len + 0 ≤ len; omega) (g := (mkF m 45 #[.val (.ref a), .val (.ref b), .val (.int (Int32.ofNat o)), .val (.int (Int32.ofNat len)), .val .null, .val (.ref s.heap.size)] [.int (Int32.ofNat N.slots.size), .ref s.heap.size, .ref a])) rfl (by rw [hml]; rfl) c10 (argsL := [.ref s.heap.size, .int (Int32.ofNat N.slots.size)]) (rest := [.ref a]) rfl rfl (by show 2 * 0 + (1 + 0) ≤ _; decide) (hb hbytes d45) (⟨rfl, n1⟩)
  obtain ⟨rfl, q11⟩ := E11
  have hB11 := hB1.mv (X8.warmed.alike.symm.trans X11.warmed.alike) q11
  have c12 : Steps p.tables e below (s₁.setTop (entryFrame m #[.ref a, .ref b, .int (Int32.ofNat o), .int (Int32.ofNat len), .null] 6)) (T11.setTop (mkF m 48 #[.val (.ref a), .val (.ref b), .val (.int (Int32.ofNat o)), .val (.int (Int32.ofNat len)), .val .null, .val (.ref s.heap.size)] [.int 0, .ref a])) := g11
  obtain ⟨T13, X13, p13, bl13, sl13, st13⟩ := X11.finit hexec hown (wk W (.fieldLink "java/lang/String" 15 "java/lang/String" "coder" "B")) (Or.inr ⟨_, (wk W (.laysFinal "java/lang/String" "java/lang/String" "coder" "B"))⟩) (Or.inl ⟨rfl, hnm⟩) f2 (Or.inl rfl) hB11 (t := .byte) (by decide +kernel) rfl (g := (mkF m 48 #[.val (.ref a), .val (.ref b), .val (.int (Int32.ofNat o)), .val (.int (Int32.ofNat len)), .val .null, .val (.ref s.heap.size)] [.int 0, .ref a])) rfl (rest := []) rfl (hb hbytes d48)
  have c14 : Steps p.tables e below (s₁.setTop (entryFrame m #[.ref a, .ref b, .int (Int32.ofNat o), .int (Int32.ofNat len), .null] 6)) (T13.setTop (mkF m 54 #[.val (.ref a), .val (.ref b), .val (.int (Int32.ofNat o)), .val (.int (Int32.ofNat len)), .val .null, .val (.ref s.heap.size)] [.ref s.heap.size, .ref a])) := (c12.trans (st13 _ (Steps.refl _))).trans (by
    refine XS.aloadN X13.here hexec rfl (hb hbytes d51) rfl rfl ?_
    refine XS.aload X13.here hexec rfl (hb hbytes d52) rfl rfl ?_
    exact Steps.refl _)
  obtain ⟨T15, X15, p15, bl15, sl15, st15⟩ := X13.finit hexec hown (wk W (.fieldLink "java/lang/String" 9 "java/lang/String" "value" "[B")) (Or.inr ⟨_, (wk W (.laysFinal "java/lang/String" "java/lang/String" "value" "[B"))⟩) (Or.inl ⟨rfl, hnm⟩) f1 (Or.inl rfl) bl13 (t := (.array .byte)) (by decide +kernel) rfl (g := (mkF m 54 #[.val (.ref a), .val (.ref b), .val (.int (Int32.ofNat o)), .val (.int (Int32.ofNat len)), .val .null, .val (.ref s.heap.size)] [.ref s.heap.size, .ref a])) rfl (rest := []) rfl (hb hbytes d54)
  have c16 : Steps p.tables e below (s₁.setTop (entryFrame m #[.ref a, .ref b, .int (Int32.ofNat o), .int (Int32.ofNat len), .null] 6)) (T15.setTop (mkF m 57 #[.val (.ref a), .val (.ref b), .val (.int (Int32.ofNat o)), .val (.int (Int32.ofNat len)), .val .null, .val (.ref s.heap.size)] [])) := c14.trans (st15 _ (Steps.refl _))
  have ap := apart (Or.inr ⟨_, (wk W (.laysFinal "java/lang/String" "java/lang/String" "value" "[B"))⟩) (Or.inr ⟨_, (wk W (.laysFinal "java/lang/String" "java/lang/String" "coder" "B"))⟩) f1 f2 (t₁ := .array .byte) (t₂ := .byte) (by decide +kernel) (by decide +kernel) (by decide)
  have al := X8.warmed.alike.symm.trans X15.warmed.alike
  have n7 : T11.heap[s.heap.size]? = some N := by rw [q11]; exact n1.1
  exact ⟨T15, none, _, _, _, X15, by simp, rfl, by omega, (fun _ => rfl), ⟨rfl, _, N, bl15, ((Same.refl D _).set _ (by simp)).set _ (by simp), sl15, (Cell.slots_setSlot_ne _ ap).trans sl13, n1.keep al (p15.other hne (p13.other hne n7)), n2, by rw [al.findClass]; exact n3, n4, n5, fun y c h1 h2 => p15.other h1 (p13.other h1 (by rw [q11]; exact n6 y c h2)), by rw [p15.2.2, p13.2.2, q11]; exact z8⟩, fun fs hl => c16.trans (X15.returnOut hexec hret (hb hbytes d57) hl)⟩
end New4
namespace New1
def yN : MethodName := ⟨"java/lang/String", "<init>", "([C)V"⟩
abbrev yB : ByteArray := jdk_42_method_3_code
theorem d0 : decode yB 0 = .ok (.aload_n 0, 1) := by decide +kernel
theorem d1 : decode yB 1 = .ok (.aload_n 1, 1) := by decide +kernel
theorem d2 : decode yB 2 = .ok (.iconst 0, 1) := by decide +kernel
theorem d3 : decode yB 3 = .ok (.aload_n 1, 1) := by decide +kernel
theorem d4 : decode yB 4 = .ok (.arraylength, 1) := by decide +kernel
theorem d5 : decode yB 5 = .ok (.aconst_null, 1) := by decide +kernel
theorem d6 : decode yB 6 = .ok (.invokespecial 27, 3) := by decide +kernel
theorem d9 : decode yB 9 = .ok (.return_, 1) := by decide +kernel
def site : List Cond := [New4.tab] ++ initW "java/lang/String" 27 New4.yN
def tab : Cond := tabOf yN yB 2 none site
def P (a : Addr) (D : Cell) (fV fC : Field) (b : Addr) (A : Cell) (z : Int32) (args : Array Value) (s : State) : Prop := args = #[.ref a, .ref b] ∧ Blank "java/lang/String" a D s ∧ Found "java/lang/String" "value" "[B" fV s ∧ Found "java/lang/String" "coder" "B" fC s ∧ Ch b A s ∧ StaticIs s "java/lang/String" "COMPACT_STRINGS" "Z" (.int z) ∧ ¬ z = 0 ∧ 0 < A.slots.size ∧ A.slots.size ≤ 536870912 ∧ ∀ i, i < A.slots.size → ¬ 255 < cv A i
def E (a : Addr) (D : Cell) (fV fC : Field) (A : Cell) (r : Option Value) (s u : State) : Prop := Got a D fV fC A 0 A.slots.size r s u
/-- new String(chars), not empty, no char above 255: a Latin-1 String of their low bytes -/
theorem law (l : Launch) (a : Addr) (D : Cell) (fV fC : Field) (b : Addr) (A : Cell) (z : Int32) : Law l yN 2 1 3 52 yB 2 none site (P a D fV fC b A z) (E a D fV fC A) [⟨a, fC.slot⟩, ⟨a, fV.slot⟩] 1 A.slots.size := by
  refine Law.of_walk (plainFor_of_name (by decide +kernel)) (by decide +kernel) (by decide +kernel) (by decide) (fun _ _ h => by rw [h.1]; rfl) (fun _ U U' hal hh h => ⟨h.1, h.2.1.mv hal hh, h.2.2.1.al hal, h.2.2.2.1.al hal, h.2.2.2.2.1.mv hal hh, h.2.2.2.2.2.1.there hal hh, h.2.2.2.2.2.2⟩) (fun r U U' V V' h1 hal h2 h => Got.mv r U U' V V' h1 hal h2 h) ?_
  intro p e s m args below meth c s₁ X0 hexec hbytes hml hret hlk hnm hown hh0 W hP
  obtain ⟨rfl, hB, f1, f2, hA, s1, hz, l0, l2, hp⟩ := hP
  have c1 : Steps p.tables e below (s₁.setTop (entryFrame m #[.ref a, .ref b] 2)) (s₁.setTop (mkF m 0 #[.val (.ref a), .val (.ref b)] [])) := entry rfl
  have c2 : Steps p.tables e below (s₁.setTop (entryFrame m #[.ref a, .ref b] 2)) (s₁.setTop (mkF m 6 #[.val (.ref a), .val (.ref b)] [.null, .int (Int32.ofNat A.slots.size), .int 0, .ref b, .ref a])) := c1.trans (by
    refine XS.aloadN X0.here hexec rfl (hb hbytes d0) rfl rfl ?_
    refine XS.aloadN X0.here hexec rfl (hb hbytes d1) rfl rfl ?_
    refine iconstV X0.here hexec rfl 0 (hb hbytes d2) (by decide) ?_
    refine XS.aloadN X0.here hexec rfl (hb hbytes d3) rfl rfl ?_
    refine X0.alen hexec (hA.1.mv X0.warmed.alike hh0) rfl rfl (hb hbytes d4) ?_
    refine XS.aconstNull X0.here hexec rfl (hb hbytes d5) ?_
    exact Steps.refl _)
  obtain ⟨v3, T3, X3, E3, g3⟩ := X0.callN hexec (New4.law l a D fV fC b A z 0 A.slots.size) rfl hown (wks W (initW "java/lang/String" 27 New4.yN)) (W New4.tab (by simp only [site, List.mem_cons, List.mem_append, true_or, or_true])) (W := 0) (Nat.le_of_ble_eq_true rfl) (Nat.le_of_ble_eq_true rfl) (Nat.le_refl _) (by show 0 + A.slots.size ≤ A.slots.size; omega) (g := (mkF m 6 #[.val (.ref a), .val (.ref b)] [.null, .int (Int32.ofNat A.slots.size), .int (Int32.ofNat 0), .ref b, .ref a])) rfl (by rw [hml]; rfl) c2 (argsL := [.ref b, .int (Int32.ofNat 0), .int (Int32.ofNat A.slots.size), .null]) (rest := []) rfl rfl (by show 2 * 0 + 0 ≤ _; decide) (hb hbytes d6) (⟨rfl, hB.mv X0.warmed.alike hh0, f1.al X0.warmed.alike, f2.al X0.warmed.alike, hA.mv X0.warmed.alike hh0, s1.there X0.warmed.alike hh0, hz, l0, by omega, l2, fun i hi => by rw [Nat.zero_add]; exact hp i hi⟩)
  have e0 := Got.mv _ s₁ s _ _ hh0.symm (Vm.Alike.refl _) rfl E3
  obtain rfl := e0.1
  have c4 : Steps p.tables e below (s₁.setTop (entryFrame m #[.ref a, .ref b] 2)) (T3.setTop (mkF m 9 #[.val (.ref a), .val (.ref b)] [])) := g3
  exact ⟨T3, none, _, _, _, X3, by simp, rfl, by omega, (fun _ => rfl), e0, fun fs hl => c4.trans (X3.returnOut hexec hret (hb hbytes d9) hl)⟩
theorem pays {l : Launch} {R : Room} {p : Program} {e : Env} {below : List Frame} {s : State} {sargs : Array Value} {len W : Nat} (a : Addr) (D : Cell) (fV fC : Field) (b : Addr) (A : Cell) (z : Int32) (htab : tab.before sargs s = true) (hfr : 4 ≤ R.frames) (hlo : W + 65 ≤ R.locals) :
    Back l R p e below s sargs yN len W (fun A₁ a₁ => A₁.cells + 1 ≤ R.cells ∧ A₁.slots + A.slots.size ≤ R.slots ∧ P a D fV fC b A z a₁ A₁.U) (fun A₁ _ v₁ B₁ => E a D fV fC A v₁ A₁.U B₁.U ∧ B₁.locs = A₁.locs ++ [⟨a, fC.slot⟩, ⟨a, fV.slot⟩] ∧ B₁.cells = A₁.cells + 1 ∧ B₁.slots = A₁.slots + A.slots.size) :=
  (law l a D fV fC b A z).pays htab hfr (by omega)
end New1
end StrChars
namespace StrChars.Road
open Jvm Sem ClassFile Op Lib Jvm.Stand Jvm.Free Jvm.Free.XT
open Jvm.Lib.Cold (StaticIs)
abbrev ST : String := "java/lang/String"
/-- every table word that New1's law asks, flat -/
abbrev words : List Jvm.Cond := [.code New1.yN New1.yB 2 none, .initialized ST, .methodLink ST 27 New4.yN, .instanceMethod New4.yN,
  .code New4.yN New4.yB 6 none, .fieldLink ST 38 ST "COMPACT_STRINGS" "Z", .laysFinal ST ST "value" "[B", .fieldLink ST 9 ST "value" "[B", .laysFinal ST ST "coder" "B", .fieldLink ST 15 ST "coder" "B",
  .methodLink ST 1 Lib.objectInit, .instanceMethod Lib.objectInit, .code Lib.objectInit ⟨#[0xb1]⟩ 1 none, .methodLink ST 177 Cmp3.yN, .static Cmp3.yN, .methodLink ST 47 CodL.yN, .static CodL.yN,
  .code Cmp3.yN Cmp3.yB 6 (some (.array .byte)), .initialized U16, .arrayClass .byte, .methodLink U16 115 Cmp5.yN, .static Cmp5.yN, .code Cmp5.yN Cmp5.yB 7 (some .int), .code CodL.yN CodL.yB 2 (some .byte)]
theorem tab_of {a : Array Value} {s : State} (h : ∀ w ∈ words, w.before a s = true) : New1.tab.before a s = true := by
  have h5 : Cmp5.tab.before a s = true := unparts (wk h (.code Cmp5.yN Cmp5.yB 7 (some .int))) (wks h (.initialized Cmp5.yN.cls :: Cmp5.site))
  have hc : CodL.tab.before a s = true := unparts (wk h (.code CodL.yN CodL.yB 2 (some .byte))) (wks h (.initialized CodL.yN.cls :: CodL.site))
  have q5 : ∀ w ∈ Cmp5.tab :: words, w.before a s = true := fun w hw => (List.mem_cons.mp hw).elim (fun e => e ▸ h5) (h w)
  have h3 : Cmp3.tab.before a s = true := unparts (wk q5 (.code Cmp3.yN Cmp3.yB 6 (some (.array .byte)))) (wks q5 (.initialized Cmp3.yN.cls :: Cmp3.site))
  have q3 : ∀ w ∈ Cmp3.tab :: CodL.tab :: words, w.before a s = true := fun w hw => (List.mem_cons.mp hw).elim (fun e => e ▸ h3) fun hw => (List.mem_cons.mp hw).elim (fun e => e ▸ hc) (h w)
  have h4 : New4.tab.before a s = true := unparts (wk q3 (.code New4.yN New4.yB 6 none)) (wks q3 (.initialized New4.yN.cls :: New4.site))
  have q4 : ∀ w ∈ New4.tab :: words, w.before a s = true := fun w hw => (List.mem_cons.mp hw).elim (fun e => e ▸ h4) (h w)
  exact unparts (wk q4 (.code New1.yN New1.yB 2 none)) (wks q4 (.initialized New1.yN.cls :: New1.site))
/-- the words ride from the start Z to the walk's own state -/
theorem moved {Z s : State} {a0 args : Array Value} (hZ : Z.Warmed39 s.vm) (hw : ∀ d ∈ words, d.before a0 Z = true) : ∀ d ∈ words, d.before args s = true := fun d hd => by
  have q := hw d hd
  have t : ∀ d ∈ words, d = .arrayClass .byte ∨ (d.onTables && d.keepsFace) = true := by decide +kernel
  rcases t d hd with rfl | t
  · exact RoadKit.mvA hZ q
  · exact RoadKit.mv hZ q t
/-- WHAT COMES BACK, over the tables of the start Z: h the heap at the call, h' behind it -/
def Q (Z : State) (x : Addr) (A : Cell) (h : Heap) (v : Option Value) (h' : Heap) (L : List Loc) : Prop := v = none ∧ (∀ y ∈ L, y.base = x) ∧ RoadKit.Keep h h' [x] ∧ h'.size = h.size + 1 ∧ RoadKit.Exa Z h' x ST ∧ RoadKit.Fld Z h' x ST "value" "[B" (.ref h.size) ∧ RoadKit.Fld Z h' x ST "coder" "B" (.int 0) ∧
  (∃ V : Cell, RoadKit.Arr Z h' h.size V .byte ∧ V.vm = .none ∧ Z.vm.findClass "[B" = some V.cls ∧ V.slots.size = A.slots.size ∧ ∀ j, j < A.slots.size → V.slots[j]? = some (.int (lo8 (cv A j)))) ∧
  ∀ (O n d : String) (w : Value), RoadKit.Fld Z h x O n d w → RoadKit.slotOf Z O n d ≠ RoadKit.slotOf Z ST "value" "[B" → RoadKit.slotOf Z O n d ≠ RoadKit.slotOf Z ST "coder" "B" → RoadKit.Fld Z h' x O n d w
/-- **new String(chars) AT A CALL, IN THE ROAD'S FORM**: for specialBack behind newO: x the fresh String, b the char[] with the cell A -/
theorem back {p : Program} {l : Launch} {e : Env} {R : Room} {s : State} {args : Array Value} {below : List Frame} {len W : Nat} {Z : State} {a0 : Array Value} {h : Heap} (hZ : Z.Warmed39 s.vm) (hw : ∀ d ∈ words, d.before a0 Z = true) {kI : Nat} (wi : (Jvm.Cond.instantiable ST kI).before a0 Z = true)
    {x b : Addr} {A : Cell} {z : Int32} {v0 c0 : Value} (E : RoadKit.Exa Z h x ST) (V : RoadKit.Fld Z h x ST "value" "[B" v0) (C : RoadKit.Fld Z h x ST "coder" "B" c0) (K : RoadKit.Arr Z h b A .char) (hty : Typed .char A) (S : RoadKit.Sta Z h ST "COMPACT_STRINGS" "Z" (.int z)) (hz : ¬ z = 0)
    (l0 : 0 < A.slots.size) (l2 : A.slots.size ≤ 536870912) (hp : ∀ i, i < A.slots.size → ¬ 255 < cv A i) (hfr : 4 ≤ R.frames) (hlo : W + 65 ≤ R.locals) :
    Back l R p e below s args New1.yN len W (fun P a => a = #[.ref x, .ref b] ∧ P.U.heap = h ∧ P.cells + 1 ≤ R.cells ∧ P.slots + A.slots.size ≤ R.slots)
      (fun P _ v B => ∃ L, Q Z x A h v B.U.heap L ∧ B.locs = P.locs ++ L ∧ B.cells = P.cells + 1 ∧ B.slots = P.slots + A.slots.size) := by
  intro m meth c P g ig mk a X hg hsize hdg hW hn hp'
  obtain ⟨rfl, rfl, r1, r2⟩ := hp'
  have al : Z.vm.Alike P.U.vm := hZ.alike.trans X.warmed.alike
  obtain ⟨D, cfV, kV, iV, fV, hD, gV, stV, knV, obV, asV, slV⟩ := id V
  obtain ⟨D', cfC, kC, iC, fC, hD', gC, stC, -, -, asC, slC⟩ := id C
  cases hD.symm.trans hD'
  obtain ⟨D2, kD, e1, e2, e3, e4, e5⟩ := id E
  cases hD.symm.trans e1
  obtain ⟨c2, k2, i1, i2, i3, -⟩ := Cond.instantiable_spec wi
  cases e2.symm.trans i1
  cases e3.symm.trans i2
  obtain ⟨kU, u1, u2⟩ := al.2.2 _ _ e3
  have hB : Blank ST x D P.U := ⟨hD, ⟨knV, fun q hq => by rw [hq] at obV; cases obV⟩, by rw [al.findClass]; exact e2, kU, u1, by rw [u2]; exact i3, by rw [u2]; exact e5 i3⟩
  have F1 : Found ST "value" "[B" fV P.U := ⟨SBG.found_only al ⟨cfV, kV, iV, gV⟩, stV⟩
  have F2 : Found ST "coder" "B" fC P.U := ⟨SBG.found_only al ⟨cfC, kC, iC, gC⟩, stC⟩
  have hA : Ch b A P.U := ⟨⟨K.1, State.isArrayOf_alike al K.2.1, K.2.2, by omega⟩, hty⟩
  have hS : StaticIs P.U ST "COMPACT_STRINGS" "Z" (.int z) := by
    obtain ⟨cfS, iS, kS, fS, st, cS, t1, t2, t3, t4, t5, t6, t7⟩ := S
    exact StaticIs.there (s := { Z with heap := P.U.heap }) ⟨cfS, iS, kS, fS, st, cS, t1, t2, t3, t4, t5, (fun q => by rw [q] at t6; cases t6), t7⟩ al rfl
  obtain ⟨v, B, X', ⟨⟨hv, E', V', q1, q2, q3, q4, q5, q6, q7, q8, q9, q10, q11⟩, hl, hc, hs⟩, st⟩ := New1.pays x D fV fC b A z (tab_of (moved hZ hw)) hfr hlo m meth c P g ig mk _ X hg hsize hdg hW hn ⟨r1, r2, rfl, hB, F1, F2, hA, hS, hz, l0, l2, hp⟩
  have al' : Z.vm.Alike B.U.vm := hZ.alike.trans X'.warmed.alike
  have hsz : E'.slots.size = D.slots.size := by
    obtain ⟨-, -, -, kB, w1, w2, w3⟩ := q1
    obtain ⟨kB', y1, y2⟩ := al'.2.2 _ _ e3
    rw [q2.2.1] at w1
    cases w1.symm.trans y1
    rw [w3, e5 i3, y2]
  refine ⟨v, B, X', ⟨_, ⟨hv, ?_, ⟨by omega, fun y cy hy hn' => q10 y cy (by simpa using hn') hy, fun y cy hy => ?_⟩, q11, ⟨E', _, q1.1, by rw [q2.2.1]; exact e2, by rw [q2.2.1]; exact e3, by rw [q2.1]; exact obV, fun _ => by rw [hsz]; exact e5 i3⟩,
    ⟨E', cfV, kV, iV, fV, q1.1, gV, stV, by rw [q2.1]; exact knV, by rw [q2.1]; exact obV, by rw [q2.2.1]; exact asV, q3⟩, ⟨E', cfC, kC, iC, fC, q1.1, gC, stC, by rw [q2.1]; exact knV, by rw [q2.1]; exact obV, by rw [q2.2.1]; exact asC, q4⟩,
    ⟨V', ⟨q5.1, State.isArrayOf_alike al'.symm q5.2.1, q5.2.2.1⟩, q6, by rw [← al'.findClass]; exact q7, q8, fun j hj => by have := q9 j hj; rwa [Nat.zero_add] at this⟩, fun O n d w F n1 n2 => ?_⟩, hl, hc, hs⟩, st⟩
  · intro y hy
    simp only [List.mem_cons, List.not_mem_nil, or_false] at hy
    rcases hy with rfl | rfl <;> rfl
  · by_cases q : y = x
    · subst q
      cases hD.symm.trans hy
      exact ⟨E', q1.1, q2.2.1, q2.1, hsz⟩
    · exact ⟨cy, q10 y cy q hy, rfl, rfl, rfl⟩
  · obtain ⟨D3, cf, k, i, f, g1, g2, g3, g4, g5, g6, g7⟩ := F
    cases hD.symm.trans g1
    simp only [RoadKit.slotOf, g2, gV, gC, Option.map_some, Option.getD_some] at n1 n2
    exact ⟨E', cf, k, i, f, q1.1, g2, g3, by rw [q2.1]; exact g4, by rw [q2.1]; exact g5, by rw [q2.2.1]; exact g6, by rw [q2.2.2 f.slot (by simp [n1, n2])]; exact g7⟩
end StrChars.Road
namespace StrChars.Road
open Jvm Sem ClassFile Op Lib Jvm.Stand Jvm.Free Jvm.Free.XT
/-- WHAT COMES BACK, the byte[] as a list of values -/
def QA (Z : State) (x : Addr) (zn : Int32) (cs : List Int32) (h : Heap) (v : Option Value) (h' : Heap) (L : List Loc) : Prop := v = none ∧ (∀ y ∈ L, y.base = x) ∧ RoadKit.Keep h h' [x] ∧ h'.size = h.size + 1 ∧ RoadKit.Exa Z h' x ST ∧ RoadKit.Fld Z h' x ST "value" "[B" (.ref h.size) ∧ RoadKit.Fld Z h' x ST "coder" "B" (.int 0) ∧
  (∃ kb, Z.vm.findClass "[B" = some kb ∧ RoadKit.Arv Z h' h.size kb .byte zn (cs.map fun c => .int (lo8 c)) (.int 0)) ∧
  ∀ (O n d : String) (w : Value), RoadKit.Fld Z h x O n d w → RoadKit.slotOf Z O n d ≠ RoadKit.slotOf Z ST "value" "[B" → RoadKit.slotOf Z O n d ≠ RoadKit.slotOf Z ST "coder" "B" → RoadKit.Fld Z h' x O n d w
/-- **new String(chars) AT A CALL, THE ARRAYS AS LISTS**: the char[] at b holds cs, not empty, no char above 255 -/
theorem backArv {p : Program} {l : Launch} {e : Env} {R : Room} {s : State} {args : Array Value} {below : List Frame} {len W : Nat} {Z : State} {a0 : Array Value} {h : Heap} (hZ : Z.Warmed39 s.vm) (hw : ∀ d ∈ words, d.before a0 Z = true) {kI : Nat} (wi : (Jvm.Cond.instantiable ST kI).before a0 Z = true)
    {x b : Addr} {k : ClassId} {zn z : Int32} {cs : List Int32} {dv v0 c0 : Value} (E : RoadKit.Exa Z h x ST) (V : RoadKit.Fld Z h x ST "value" "[B" v0) (C : RoadKit.Fld Z h x ST "coder" "B" c0) (K : RoadKit.Arv Z h b k .char zn (cs.map Value.int) dv) (S : RoadKit.Sta Z h ST "COMPACT_STRINGS" "Z" (.int z)) (hz : ¬ z = 0)
    (hlen : zn.toNatClampNeg = cs.length) (h0 : 0 < cs.length) (hbig : cs.length ≤ 536870912) (hall : ∀ c ∈ cs, ¬ 255 < c) (hfr : 4 ≤ R.frames) (hlo : W + 65 ≤ R.locals) :
    Back l R p e below s args New1.yN len W (fun P a => a = #[.ref x, .ref b] ∧ P.U.heap = h ∧ P.cells + 1 ≤ R.cells ∧ P.slots + cs.length ≤ R.slots)
      (fun P _ v B => ∃ L, QA Z x zn cs h v B.U.heap L ∧ B.locs = P.locs ++ L ∧ B.cells = P.cells + 1 ∧ B.slots = P.slots + cs.length) := by
  obtain ⟨A, K1, K2, K3, K4, K5, K6⟩ := K
  have e : A.slots.size = cs.length := K3.trans hlen
  have hat : ∀ (i : Nat) (hi : i < cs.length), A.slots[i]? = some (.int cs[i]) := fun i hi => by rw [K5 i (by omega)]; simp [List.getD_eq_getElem?_getD, hi]
  have hcv : ∀ (i : Nat) (hi : i < cs.length), cv A i = cs[i] := fun i hi => by unfold cv; rw [hat i hi]
  have hty : Typed .char A := fun i v hv => by
    have hi : i < A.slots.size := (Array.getElem?_eq_some_iff.mp hv).1
    have q := K5 i hi
    rw [hv] at q
    rw [Option.some.inj q]
    exact K6 i hi
  refine Back.mono (back hZ hw wi E V C K1 hty S hz (by omega) (by omega) (fun i hi => by rw [hcv i (by omega)]; exact hall _ (List.getElem_mem _)) hfr hlo) (fun P a hp => ⟨hp.1, hp.2.1, hp.2.2.1, by rw [e]; exact hp.2.2.2⟩) (fun P a v B hp hq => ?_)
  obtain ⟨L, ⟨q1, q2, q3, q4, q5, q6, q7, ⟨V', v1, v2, v3, v4, v5⟩, q9⟩, hl, hc, hs⟩ := hq
  refine ⟨L, ⟨q1, q2, q3, q4, q5, q6, q7, ⟨V'.cls, v3, V', v1, rfl, by rw [v4, e, hlen], K4, fun i hi => ?_, fun i hi => ?_⟩, q9⟩, hl, hc, by rw [hs, e]⟩
  · have hi' : i < cs.length := by omega
    rw [v5 i (by omega), hcv i hi']; simp [List.getD_eq_getElem?_getD, hi']
  · have hi' : i < cs.length := by omega
    simp only [List.getD_eq_getElem?_getD, List.getElem?_map, List.getElem?_eq_getElem hi', Option.map_some, Option.getD_some]
    exact fits_lo8 _
end StrChars.Road
namespace StrChars.Road
open Jvm Sem ClassFile Op Lib Jvm.Stand Jvm.Free Jvm.Free.XT
/-- WHAT COMES BACK, in the writer's own shape -/
def QV (Z : State) (x : Addr) (N : Int32) (bs : List Int32) (h : Heap) (n0 : Nat) (v : Option Value) (h' : Heap) (L : List Loc) : Prop := v = none ∧ RoadKit.Fr n0 L ∧ RoadKit.Keep h h' [x] ∧ RoadKit.Exa Z h' x ST ∧ RoadKit.Fld Z h' x ST "coder" "B" (.int 0) ∧
  ∃ (t : Addr) (kb : ClassId), n0 ≤ t ∧ h.size ≤ t ∧ ¬ t = x ∧ RoadKit.Fld Z h' x ST "value" "[B" (.ref t) ∧ RoadKit.Arv Z h' t kb .byte N (bs.map Value.int) (.int 0)
/-- **new String(chars) AT A CALL, FOR THE WRITER**: a char[] of n known ints, each 0 to 255 -/
theorem backV {p : Program} {l : Launch} {e : Env} {R : Room} {s : State} {args : Array Value} {below : List Frame} {len W : Nat} {Z : State} {a0 : Array Value} {h : Heap} (hZ : Z.Warmed39 s.vm) (hw : ∀ d ∈ words, d.before a0 Z = true) {kI : Nat} (wi : (Jvm.Cond.instantiable ST kI).before a0 Z = true)
    {x b : Addr} {kC : ClassId} {cs bs : List Int32} {d v0 c0 : Value} {z N : Int32} {n n0 : Nat} (hx0 : n0 ≤ x) (hh0 : n0 ≤ h.size) (E : RoadKit.Exa Z h x ST) (V : RoadKit.Fld Z h x ST "value" "[B" v0) (C : RoadKit.Fld Z h x ST "coder" "B" c0) (K : RoadKit.Arv Z h b kC .char N (cs.map Value.int) d) (S : RoadKit.Sta Z h ST "COMPACT_STRINGS" "Z" (.int z)) (hz : ¬ z = 0)
    (hn : cs.length = n) (hN : N = Int32.ofNat n) (l0 : 0 < n) (l2 : n ≤ 4000) (hp : ∀ c ∈ cs, ¬ c < 0 ∧ ¬ (255 : Int32) < c) (hb : bs = cs.map (fun c => c.toInt8.toInt32)) (hfr : 4 ≤ R.frames) (hlo : W + 65 ≤ R.locals) :
    Back l R p e below s args (⟨"java/lang/String", "<init>", "([C)V"⟩ : MethodName) len W (fun P a => a = #[.ref x, .ref b] ∧ P.U.heap = h ∧ P.cells + 1 ≤ R.cells ∧ P.slots + n ≤ R.slots)
      (fun P _ v B => ∃ L, QV Z x N bs h n0 v B.U.heap L ∧ B.locs = P.locs ++ L ∧ B.cells = P.cells + 1 ∧ B.slots = P.slots + n) := by
  subst hn hN hb
  refine Back.mono (backArv hZ hw wi E V C K S hz (n32 (by omega)) l0 (by omega) (fun c hc => (hp c hc).2) hfr hlo) (fun P a hp => hp) (fun P a v B hp hq => ?_)
  obtain ⟨L, ⟨q1, q2, q3, q4, q5, q6, q7, ⟨kb, v1, v2⟩, q9⟩, hl, hc, hs⟩ := hq
  exact ⟨L, ⟨q1, fun y hy => by rw [q2 y hy]; exact hx0, q3, q5, q7, h.size, kb, hh0, Nat.le_refl _, Nat.ne_of_gt E.lt, q6, by rw [List.map_map]; exact v2⟩, hl, hc, hs⟩
end StrChars.Road
namespace StrChars
open Jvm Sem ClassFile Op Lib Jvm.Stand Jvm.Free.XT Jvm.Free.ALB Jvm.Free.JM Jvm.Free
open Jvm.Lib.Cold (StaticIs)
def hi8 (x : Int32) : Int32 := lo8 (x >>> ((8 : Int32) &&& 31))
end StrChars
namespace StrChars.Road
open Jvm Sem ClassFile Op Lib Jvm.Stand Jvm.Free Jvm.Free.XT
open Jvm.Lib.Cold (StaticIs)
/-- the bytes of the chars cs, low before high -/
def wideBytes : List Int32 → List Value
  | [] => []
  | c :: cs => .int (lo8 c) :: .int (hi8 c) :: wideBytes cs
/-- an array of N2 bytes vs codes the chars cs by the coder cd -/
def CodA (cs : List Int32) (cd N2 : Int32) (vs : List Value) : Prop := (cd = 0 ∧ N2 = Int32.ofNat cs.length ∧ vs = (cs.map fun c => Value.int (lo8 c)) ∧ ∀ c ∈ cs, ¬ 255 < c) ∨ (cd = 1 ∧ N2 = Int32.ofNat (2 * cs.length) ∧ vs = wideBytes cs ∧ ∃ c ∈ cs, 255 < c)
end StrChars.Road
namespace StrChars.Road
open Jvm Sem ClassFile Op Lib Jvm.Stand Jvm.Free Jvm.Free.XT
open Jvm.Lib.Cold (StaticIs)
/-- what backV says of its String, as the contracts of this text ask it: cs's low bytes, coder 0 -/
theorem codOf {cs : List Int32} {n : Nat} (hn : cs.length = n) (hb : ∀ c ∈ cs, ¬ 255 < c) : CodA cs 0 (Int32.ofNat n) ((cs.map lo8).map Value.int) := Or.inl ⟨rfl, by rw [hn], by simp [List.map_map, Function.comp_def], hb⟩
end StrChars.Road
end Jvm.Pilot.@@N@@
namespace Jvm.Pilot.@@N@@
open Jvm Jvm.ClassFile Sem Op Lib Jvm.Free Jvm.Stand Jvm.LawKit Jvm.RoadKit Bundle Jvm.Pilot.@@N@@.Jvm.D

section OwnKit
variable {G : State → JFrame → Prop} {p : Program} {l : Launch} {e : Env} {R : Room} {s : State} {m : MethodId} {args : Array Value} {below : List Frame} {meth : Method} {c : Code} {Z : State} {n0 : Nat} {own nm : String} {bytes : ByteArray} {maxL : Nat} {ret : Option FieldType} {T : State} {h : Heap} {cells slots : Nat} {a0 : Array Value}
def own_Cl (p : Program) (e : Env) (below : List Frame) (G : State → JFrame → Prop) : Prop :=
  ∀ (T T' : State) (g g' : JFrame), (∀ t, Steps p.tables e below (T'.setTop g') t → Steps p.tables e below (T.setTop g) t) → G T' g' → G T g
def own_Cx (p : Program) (s : State) (m : MethodId) (meth : Method) (c : Code) (Z : State) (own nm : String) (bytes : ByteArray) (maxL : Nat) (ret : Option FieldType) : Prop :=
  p.tables.exec = Jvm.exec ∧ c.code = bytes ∧ Z.Warmed39 s.vm ∧ s.vm.findClass own = some m.cls ∧ c.maxLocals = maxL ∧ meth.name = nm ∧ meth.sig.returnType = ret ∧ meth.locks = false
def own_At (G : State → JFrame → Prop) (p : Program) (l : Launch) (e : Env) (R : Room) (s : State) (m : MethodId) (args : Array Value) (below : List Frame) (meth : Method) (c : Code) (Z : State) (n0 : Nat) (own nm : String) (bytes : ByteArray) (maxL : Nat) (ret : Option FieldType) (T : State) (h : Heap) (cells slots : Nat) : Prop :=
  own_Cl p e below G ∧ own_Cx p s m meth c Z own nm bytes maxL ret ∧ ∃ locs, Stand p l e R s m args below meth c T locs cells slots ∧ Fr n0 locs ∧ T.heap = h ∧ Old Z n0 h
def own_Fin (p : Program) (e : Env) (below : List Frame) (s : State) (Z : State) (n0 : Nat) (Q : Option Value → Heap → Prop) (k n : Nat) (T : State) (g : JFrame) : Prop :=
  ∃ s₂ o, Steps p.tables e below (T.setTop g) s₂ ∧ s₂.status = .running ∧ Ended s₂ below o ∧ ∃ v L, o = .returned v ∧ (Q v s₂.heap ∧ Fr n0 L ∧ Old Z n0 s₂.heap) ∧ FrameEnd s o s₂ L k n
theorem own_Fin_cl (p : Program) (e : Env) (below : List Frame) (s : State) (Z : State) (n0 : Nat) (Q : Option Value → Heap → Prop) (k n : Nat) : own_Cl p e below (own_Fin p e below s Z n0 Q k n) := by
  intro T T' g g' hs ⟨s₂, o, h1, h2⟩
  exact ⟨s₂, o, hs _ h1, h2⟩
/-- the contract of a body -/
def own_Met (l : Launch) (Z : State) (n0 : Nat) (y : MethodName) (bytes : ByteArray) (maxL : Nat) (ret : Option FieldType) (rm : Room) (as' : Array Value) (h0 : Heap) (Q : Option Value → Heap → Prop) : Prop :=
  ∀ ws, MetFree l y (head1 (Jvm.Cond.code y bytes maxL ret :: ws) rm) (fun a U => a = as' ∧ Z.Warmed39 U.vm ∧ U.heap = h0) (fun _ _ _ _ _ => True) (fun _ U o U' => ∃ v L, o = .returned v ∧ (Q v U'.heap ∧ Fr n0 L ∧ Old Z n0 U'.heap) ∧ FrameEnd U o U' L rm.cells rm.slots)
theorem own_enter {y : MethodName} {rm : Room} {as' : Array Value} {h0 : Heap} {Q : Option Value → Heap → Prop} (hpn : plainFor y = true) (ho : y.cls = own) (hn : y.name = nm) (hO : Old Z n0 h0)
    (H : ∀ (G : State → JFrame → Prop) (p : Program) (e : Env) (s : State) (m : MethodId) (below : List Frame) (meth : Method) (c : Code) (T : State), G = own_Fin p e below s Z n0 Q rm.cells rm.slots → own_At G p l e rm s m as' below meth c Z n0 own nm bytes maxL ret T h0 0 0 → G T (entryFrame m as' maxL)) :
    own_Met l Z n0 y bytes maxL ret rm as' h0 Q := by
  intro ws
  subst ho hn
  refine MetFree.of_bodySF hpn hisR ?_
  intro p e s m args below meth c s₁ Bd hml0 hP hK
  obtain ⟨rfl, hZ, hh⟩ := hP
  have e0 : s₁.heap = h0 := by rw [← hh, Bd.state]; rfl
  obtain ⟨s₂, o, h1, h2, h3, h4⟩ := H _ p e s m below meth c s₁ rfl ⟨own_Fin_cl p e below s Z n0 Q rm.cells rm.slots, ⟨Bd.exec, Bd.bytes, hZ, findClass_of_methodNamed Bd.named, hml0, (name_of_methodNamed Bd.named Bd.method).1, Bd.returns, BodyLoose.notSynchronized Bd⟩, [], Stand.of_body Bd, Fr.nil n0, e0, hO⟩
  exact ⟨s₂, o, h1, h2, h3, h4⟩
theorem own_at_heap (X : own_At G p l e R s m args below meth c Z n0 own nm bytes maxL ret T h cells slots) : T.heap = h := by obtain ⟨-, -, _, -, -, e, -⟩ := X; exact e
theorem own_old (X : own_At G p l e R s m args below meth c Z n0 own nm bytes maxL ret T h cells slots) : Old Z n0 h := by obtain ⟨-, -, _, -, -, -, e⟩ := X; exact e
theorem own_sta (X : own_At G p l e R s m args below meth c Z n0 own nm bytes maxL ret T h cells slots) {C n d : String} {v : Value} (S : Sta Z Z.heap C n d v) : Sta Z h C n d v := S.ext (own_old X).2
theorem own_n0 (X : own_At G p l e R s m args below meth c Z n0 own nm bytes maxL ret T h cells slots) : n0 ≤ h.size := by have := own_old X; rw [← this.1]; exact this.2.1
theorem own_mono (X : own_At G p l e R s m args below meth c Z n0 own nm bytes maxL ret T h cells slots) {cells' slots' : Nat} (h1 : cells ≤ cells') (h2 : slots ≤ slots') : own_At G p l e R s m args below meth c Z n0 own nm bytes maxL ret T h cells' slots' := by
  obtain ⟨hG, C, L, X, r⟩ := X
  exact ⟨hG, C, L, { X with same := X.same.mono h1 h2 }, r⟩
theorem own_ret {Q : Option Value → Heap → Prop} {k n : Nat} (X : own_At G p l e R s m args below meth c Z n0 own nm bytes maxL ret T h cells slots) (hGe : G = own_Fin p e below s Z n0 Q k n) {pc : Nat} {Ls : Array Slot} {w : Value} {t : FieldType} {i : Instr} {rest : List Value} (hret : ret = some t) (hn : narrow t w = w)
    (hi : (i = .ireturn ∧ (t = .int ∨ t = .boolean ∨ t = .byte ∨ t = .char ∨ t = .short) ∧ ∃ z, w = .int z) ∨ (i = .lreturn ∧ t = .long ∧ ∃ z, w = .long z) ∨ (i = .dreturn ∧ t = .double ∧ ∃ z, w = .double z) ∨ (i = .freturn ∧ t = .float ∧ ∃ z, w = .float z) ∨ (i = .areturn ∧ t.isReference = true ∧ w.isRef = true))
    (hd : decode bytes pc = .ok (i, 1)) (hk : cells ≤ k) (hs : slots ≤ n) (hQ : Q (some w) h) : G T (mkF m pc Ls (w :: rest)) := by
  obtain ⟨-, ⟨c1, c2, c3, c4, c5, c6, c7, c8⟩, L, X, N, eT, O⟩ := X
  have hr' : meth.sig.returnType = some t := c7.trans hret
  obtain ⟨fs, hr, hrun, hended, hW, hsame⟩ := X.leave (v := some w) (fun h => by rw [hr'] at h; cases h)
  rw [hGe]
  exact ⟨_, _, retOut X c1 hr' hn hi (hb c2 hd) hr, hrun, hended, _, L, rfl, ⟨by show Q _ T.heap; rw [eT]; exact hQ, N, by show Old Z n0 T.heap; rw [eT]; exact O⟩, ⟨_, rfl⟩, hW, hsame.mono hk hs⟩
theorem own_retV {Q : Option Value → Heap → Prop} {k n : Nat} (X : own_At G p l e R s m args below meth c Z n0 own nm bytes maxL ret T h cells slots) (hGe : G = own_Fin p e below s Z n0 Q k n) {pc : Nat} {Ls : Array Slot} (hret : ret = none)
    (hd : decode bytes pc = .ok (.return_, 1)) (hk : cells ≤ k) (hs : slots ≤ n) (hQ : Q none h) : G T (mkF m pc Ls []) := by
  obtain ⟨-, ⟨c1, c2, c3, c4, c5, c6, c7, c8⟩, L, X, N, eT, O⟩ := X
  have hr' : meth.sig.returnType = none := c7.trans hret
  obtain ⟨fs, hr, hrun, hended, hW, hsame⟩ := X.leave (v := none) (fun _ => rfl)
  rw [hGe]
  exact ⟨_, _, X.returnOut c1 hr' (hb c2 hd) hr, hrun, hended, _, L, rfl, ⟨by show Q _ T.heap; rw [eT]; exact hQ, N, by show Old Z n0 T.heap; rw [eT]; exact O⟩, ⟨_, rfl⟩, hW, hsame.mono hk hs⟩
theorem own_ne {a b : Addr} {n m : Nat} (h1 : a < n) (h2 : n ≤ m) (h3 : m ≤ b) : a ≠ b := Nat.ne_of_lt (Nat.lt_of_lt_of_le h1 (Nat.le_trans h2 h3))
theorem own_ifc {P Q : Prop} [Decidable P] [Decidable Q] (h : P ↔ Q) : (if P then (1 : Int32) else 0) = if Q then 1 else 0 := by
  by_cases q : P
  · rw [if_pos q, if_pos (h.mp q)]
  · rw [if_neg q, if_neg (fun z => q (h.mpr z))]
theorem own_i32 {i : Nat} (hi : i < 2 ^ 31) : (Int32.ofNat i).toInt = i := len_toInt hi
theorem own_i32lt {i n : Nat} (h : i < n) (hn : n < 2 ^ 31) : Int32.ofNat i < Int32.ofNat n := by rw [Int32.lt_iff_toInt_lt, own_i32 (by omega), own_i32 hn]; omega
theorem own_i32le {i n : Nat} (h : n ≤ i) (hi : i < 2 ^ 31) : ¬ Int32.ofNat i < Int32.ofNat n := by rw [Int32.lt_iff_toInt_lt, own_i32 hi, own_i32 (by omega)]; omega
theorem own_inc (i : Nat) : Int32.ofNat i + 1 = Int32.ofNat (i + 1) := (inc_ofNat i).symm
def own_c16 (x : Int32) : Int32 := x.toUInt32.toUInt16.toUInt32.toInt32
def own_b8 (x : Int32) : Int32 := x.toInt8.toInt32
def own_ushr (x k : Int32) : Int32 := (x.toUInt32 >>> (k &&& 31).toUInt32).toInt32

theorem own_aconst_null (X : own_At G p l e R s m args below meth c Z n0 own nm bytes maxL ret T h cells slots) {pc pc' : Nat} {Ls : Array Slot} {st : List Value} (hd : decode bytes pc = .ok (.aconst_null, 1)) (hp : pc' = pc + 1)  (k : G T (mkF m pc' Ls (.null :: st))) : G T (mkF m pc Ls st) := by
  obtain ⟨hG, ⟨c1, c2, -⟩, L, X, -⟩ := X
  subst hp
  exact hG _ _ _ _ (fun t q => XS.aconstNull X.here c1 rfl (hb c2 hd) q) k
theorem own_iconst (X : own_At G p l e R s m args below meth c Z n0 own nm bytes maxL ret T h cells slots) {pc pc' : Nat} {Ls : Array Slot} {st : List Value} {i : Int} {z : Int32} (hd : decode bytes pc = .ok (.iconst i, 1)) (hp : pc' = pc + 1) (hz : Int32.ofInt i = z) (k : G T (mkF m pc' Ls (.int z :: st))) : G T (mkF m pc Ls st) := by
  obtain ⟨hG, ⟨c1, c2, -⟩, L, X, -⟩ := X
  subst hp
  exact hG _ _ _ _ (fun t q => XS.iconst X.here c1 rfl (hb c2 hd) (by rw [hz]; exact q)) k
theorem own_bipush (X : own_At G p l e R s m args below meth c Z n0 own nm bytes maxL ret T h cells slots) {pc pc' : Nat} {Ls : Array Slot} {st : List Value} {i : Int} {z : Int32} (hd : decode bytes pc = .ok (.bipush i, 2)) (hp : pc' = pc + 2) (hz : (Int8.ofInt i).toInt32 = z) (k : G T (mkF m pc' Ls (.int z :: st))) : G T (mkF m pc Ls st) := by
  obtain ⟨hG, ⟨c1, c2, -⟩, L, X, -⟩ := X
  subst hp
  exact hG _ _ _ _ (fun t q => XS.bipush X.here c1 rfl (hb c2 hd) (by rw [hz]; exact q)) k
theorem own_sipush (X : own_At G p l e R s m args below meth c Z n0 own nm bytes maxL ret T h cells slots) {pc pc' : Nat} {Ls : Array Slot} {st : List Value} {i : Int} {z : Int32} (hd : decode bytes pc = .ok (.sipush i, 3)) (hp : pc' = pc + 3) (hz : (Int16.ofInt i).toInt32 = z) (k : G T (mkF m pc' Ls (.int z :: st))) : G T (mkF m pc Ls st) := by
  obtain ⟨hG, ⟨c1, c2, -⟩, L, X, -⟩ := X
  subst hp
  exact hG _ _ _ _ (fun t q => XS.sipush X.here c1 rfl (hb c2 hd) (by rw [hz]; exact q)) k
theorem own_lconst (X : own_At G p l e R s m args below meth c Z n0 own nm bytes maxL ret T h cells slots) {pc pc' : Nat} {Ls : Array Slot} {st : List Value} {i : Fin 2} {z : Int64} (hd : decode bytes pc = .ok (.lconst i, 1)) (hp : pc' = pc + 1) (hz : Int64.ofNat i = z) (k : G T (mkF m pc' Ls (.long z :: st))) : G T (mkF m pc Ls st) := by
  obtain ⟨hG, ⟨c1, c2, -⟩, L, X, -⟩ := X
  subst hp
  exact hG _ _ _ _ (fun t q => XS.lconst X.here c1 rfl (hb c2 hd) (by rw [hz]; exact q)) k
theorem own_iload_n (X : own_At G p l e R s m args below meth c Z n0 own nm bytes maxL ret T h cells slots) {pc pc' : Nat} {Ls : Array Slot} {st : List Value} {i : Fin 4} {v : Int32} (hd : decode bytes pc = .ok (.iload_n i, 1)) (hp : pc' = pc + 1) (hl : Ls[i.val]? = some (.val (.int v))) (k : G T (mkF m pc' Ls (.int v :: st))) : G T (mkF m pc Ls st) := by
  obtain ⟨hG, ⟨c1, c2, -⟩, L, X, -⟩ := X
  subst hp
  exact hG _ _ _ _ (fun t q => XS.iloadN X.here c1 rfl (hb c2 hd) hl q) k
theorem own_iload (X : own_At G p l e R s m args below meth c Z n0 own nm bytes maxL ret T h cells slots) {pc pc' : Nat} {Ls : Array Slot} {st : List Value} {i : Nat} {v : Int32} (hd : decode bytes pc = .ok (.iload i, 2)) (hp : pc' = pc + 2) (hl : Ls[i]? = some (.val (.int v))) (k : G T (mkF m pc' Ls (.int v :: st))) : G T (mkF m pc Ls st) := by
  obtain ⟨hG, ⟨c1, c2, -⟩, L, X, -⟩ := X
  subst hp
  exact hG _ _ _ _ (fun t q => XS.iload X.here c1 rfl (hb c2 hd) hl q) k
theorem own_istore_n (X : own_At G p l e R s m args below meth c Z n0 own nm bytes maxL ret T h cells slots) {pc pc' : Nat} {Ls : Array Slot} {st : List Value} {i : Fin 4} {v : Int32} {Ls' : Array Slot} (hd : decode bytes pc = .ok (.istore_n i, 1)) (hp : pc' = pc + 1) (hl : storeLocals Ls i.val (.int v) = some Ls') (k : G T (mkF m pc' Ls' st)) : G T (mkF m pc Ls (.int v :: st)) := by
  obtain ⟨hG, ⟨c1, c2, -⟩, L, X, -⟩ := X
  subst hp
  exact hG _ _ _ _ (fun t q => XS.istoreN X.here c1 rfl (hb c2 hd) rfl hl q) k
theorem own_istore (X : own_At G p l e R s m args below meth c Z n0 own nm bytes maxL ret T h cells slots) {pc pc' : Nat} {Ls : Array Slot} {st : List Value} {i : Nat} {v : Int32} {Ls' : Array Slot} (hd : decode bytes pc = .ok (.istore i, 2)) (hp : pc' = pc + 2) (hl : storeLocals Ls i (.int v) = some Ls') (k : G T (mkF m pc' Ls' st)) : G T (mkF m pc Ls (.int v :: st)) := by
  obtain ⟨hG, ⟨c1, c2, -⟩, L, X, -⟩ := X
  subst hp
  exact hG _ _ _ _ (fun t q => XS.istore X.here c1 rfl (hb c2 hd) rfl hl q) k
theorem own_lload_n (X : own_At G p l e R s m args below meth c Z n0 own nm bytes maxL ret T h cells slots) {pc pc' : Nat} {Ls : Array Slot} {st : List Value} {i : Fin 4} {v : Int64} (hd : decode bytes pc = .ok (.lload_n i, 1)) (hp : pc' = pc + 1) (hl : Ls[i.val]? = some (.val (.long v))) (k : G T (mkF m pc' Ls (.long v :: st))) : G T (mkF m pc Ls st) := by
  obtain ⟨hG, ⟨c1, c2, -⟩, L, X, -⟩ := X
  subst hp
  exact hG _ _ _ _ (fun t q => XS.lloadN X.here c1 rfl (hb c2 hd) hl q) k
theorem own_lload (X : own_At G p l e R s m args below meth c Z n0 own nm bytes maxL ret T h cells slots) {pc pc' : Nat} {Ls : Array Slot} {st : List Value} {i : Nat} {v : Int64} (hd : decode bytes pc = .ok (.lload i, 2)) (hp : pc' = pc + 2) (hl : Ls[i]? = some (.val (.long v))) (k : G T (mkF m pc' Ls (.long v :: st))) : G T (mkF m pc Ls st) := by
  obtain ⟨hG, ⟨c1, c2, -⟩, L, X, -⟩ := X
  subst hp
  exact hG _ _ _ _ (fun t q => XS.lload X.here c1 rfl (hb c2 hd) hl q) k
theorem own_lstore_n (X : own_At G p l e R s m args below meth c Z n0 own nm bytes maxL ret T h cells slots) {pc pc' : Nat} {Ls : Array Slot} {st : List Value} {i : Fin 4} {v : Int64} {Ls' : Array Slot} (hd : decode bytes pc = .ok (.lstore_n i, 1)) (hp : pc' = pc + 1) (hl : storeLocals Ls i.val (.long v) = some Ls') (k : G T (mkF m pc' Ls' st)) : G T (mkF m pc Ls (.long v :: st)) := by
  obtain ⟨hG, ⟨c1, c2, -⟩, L, X, -⟩ := X
  subst hp
  exact hG _ _ _ _ (fun t q => XS.lstoreN X.here c1 rfl (hb c2 hd) rfl hl q) k
theorem own_lstore (X : own_At G p l e R s m args below meth c Z n0 own nm bytes maxL ret T h cells slots) {pc pc' : Nat} {Ls : Array Slot} {st : List Value} {i : Nat} {v : Int64} {Ls' : Array Slot} (hd : decode bytes pc = .ok (.lstore i, 2)) (hp : pc' = pc + 2) (hl : storeLocals Ls i (.long v) = some Ls') (k : G T (mkF m pc' Ls' st)) : G T (mkF m pc Ls (.long v :: st)) := by
  obtain ⟨hG, ⟨c1, c2, -⟩, L, X, -⟩ := X
  subst hp
  exact hG _ _ _ _ (fun t q => XS.lstore X.here c1 rfl (hb c2 hd) rfl hl q) k
theorem own_aload_n (X : own_At G p l e R s m args below meth c Z n0 own nm bytes maxL ret T h cells slots) {pc pc' : Nat} {Ls : Array Slot} {st : List Value} {i : Fin 4} {v : Value} (hd : decode bytes pc = .ok (.aload_n i, 1)) (hp : pc' = pc + 1) (hl : Ls[i.val]? = some (.val v)) (hv : v.isRef = true) (k : G T (mkF m pc' Ls (v :: st))) : G T (mkF m pc Ls st) := by
  obtain ⟨hG, ⟨c1, c2, -⟩, L, X, -⟩ := X
  subst hp
  exact hG _ _ _ _ (fun t q => XS.aloadN X.here c1 rfl (hb c2 hd) hl hv q) k
theorem own_aload (X : own_At G p l e R s m args below meth c Z n0 own nm bytes maxL ret T h cells slots) {pc pc' : Nat} {Ls : Array Slot} {st : List Value} {i : Nat} {v : Value} (hd : decode bytes pc = .ok (.aload i, 2)) (hp : pc' = pc + 2) (hl : Ls[i]? = some (.val v)) (hv : v.isRef = true) (k : G T (mkF m pc' Ls (v :: st))) : G T (mkF m pc Ls st) := by
  obtain ⟨hG, ⟨c1, c2, -⟩, L, X, -⟩ := X
  subst hp
  exact hG _ _ _ _ (fun t q => XS.aload X.here c1 rfl (hb c2 hd) hl hv q) k
theorem own_astore_n (X : own_At G p l e R s m args below meth c Z n0 own nm bytes maxL ret T h cells slots) {pc pc' : Nat} {Ls : Array Slot} {st : List Value} {i : Fin 4} {v : Value} {Ls' : Array Slot} (hd : decode bytes pc = .ok (.astore_n i, 1)) (hp : pc' = pc + 1) (hv : v.isRef = true) (hl : storeLocals Ls i.val v = some Ls') (k : G T (mkF m pc' Ls' st)) : G T (mkF m pc Ls (v :: st)) := by
  obtain ⟨hG, ⟨c1, c2, -⟩, L, X, -⟩ := X
  subst hp
  exact hG _ _ _ _ (fun t q => XS.astoreN X.here c1 rfl (hb c2 hd) rfl hv hl q) k
theorem own_astore (X : own_At G p l e R s m args below meth c Z n0 own nm bytes maxL ret T h cells slots) {pc pc' : Nat} {Ls : Array Slot} {st : List Value} {i : Nat} {v : Value} {Ls' : Array Slot} (hd : decode bytes pc = .ok (.astore i, 2)) (hp : pc' = pc + 2) (hv : v.isRef = true) (hl : storeLocals Ls i v = some Ls') (k : G T (mkF m pc' Ls' st)) : G T (mkF m pc Ls (v :: st)) := by
  obtain ⟨hG, ⟨c1, c2, -⟩, L, X, -⟩ := X
  subst hp
  exact hG _ _ _ _ (fun t q => XS.astore X.here c1 rfl (hb c2 hd) rfl hv hl q) k
theorem own_iinc (X : own_At G p l e R s m args below meth c Z n0 own nm bytes maxL ret T h cells slots) {pc pc' : Nat} {Ls : Array Slot} {st : List Value} {i : Nat} {cst : Int} {v z r : Int32} {Ls' : Array Slot} (hd : decode bytes pc = .ok (.iinc i cst, 3)) (hp : pc' = pc + 3) (hl : Ls[i]? = some (.val (.int v))) (hz : Int32.ofInt cst = z) (hr : v + z = r) (hs : storeLocals Ls i (.int r) = some Ls') (k : G T (mkF m pc' Ls' st)) : G T (mkF m pc Ls st) := by
  obtain ⟨hG, ⟨c1, c2, -⟩, L, X, -⟩ := X
  subst hp
  exact hG _ _ _ _ (fun t q => XS.iinc X.here c1 rfl (hb c2 hd) hl (by rw [hz, hr]; exact hs) q) k
theorem own_xpop2 {locs : List Loc} {target : State} (X : Stand p l e R s m args below meth c T locs cells slots) (hx : p.tables.exec = Jvm.exec) {pc : Nat} {Ls : Array Slot} {x : Int64} {rest : List Value} (hd : decode c.code pc = .ok (.pop2, 1)) (hr : Steps p.tables e below (T.setTop (mkF m (pc + 1) Ls rest)) target) : Steps p.tables e below (T.setTop (mkF m pc Ls (.long x :: rest))) target := by
  jvm_step X.here [X.here.top, hx, hd, pop2.sem, Value.category]
  exact hr
theorem own_iadd (X : own_At G p l e R s m args below meth c Z n0 own nm bytes maxL ret T h cells slots) {pc pc' : Nat} {Ls : Array Slot} {st : List Value} {x y r : Int32} (hd : decode bytes pc = .ok (.iadd, 1)) (hp : pc' = pc + 1) (hr : x + y = r) (k : G T (mkF m pc' Ls (.int r :: st))) : G T (mkF m pc Ls (.int y :: .int x :: st)) := by
  obtain ⟨hG, ⟨c1, c2, -⟩, L, X, -⟩ := X
  subst hp
  exact hG _ _ _ _ (fun t q => XS.iadd X.here c1 rfl (hb c2 hd) rfl (by subst hr; exact q)) k
theorem own_isub (X : own_At G p l e R s m args below meth c Z n0 own nm bytes maxL ret T h cells slots) {pc pc' : Nat} {Ls : Array Slot} {st : List Value} {x y r : Int32} (hd : decode bytes pc = .ok (.isub, 1)) (hp : pc' = pc + 1) (hr : x - y = r) (k : G T (mkF m pc' Ls (.int r :: st))) : G T (mkF m pc Ls (.int y :: .int x :: st)) := by
  obtain ⟨hG, ⟨c1, c2, -⟩, L, X, -⟩ := X
  subst hp
  exact hG _ _ _ _ (fun t q => XS.isub X.here c1 rfl (hb c2 hd) rfl (by subst hr; exact q)) k
theorem own_imul (X : own_At G p l e R s m args below meth c Z n0 own nm bytes maxL ret T h cells slots) {pc pc' : Nat} {Ls : Array Slot} {st : List Value} {x y r : Int32} (hd : decode bytes pc = .ok (.imul, 1)) (hp : pc' = pc + 1) (hr : x * y = r) (k : G T (mkF m pc' Ls (.int r :: st))) : G T (mkF m pc Ls (.int y :: .int x :: st)) := by
  obtain ⟨hG, ⟨c1, c2, -⟩, L, X, -⟩ := X
  subst hp
  exact hG _ _ _ _ (fun t q => XS.imul X.here c1 rfl (hb c2 hd) rfl (by subst hr; exact q)) k
theorem own_iand (X : own_At G p l e R s m args below meth c Z n0 own nm bytes maxL ret T h cells slots) {pc pc' : Nat} {Ls : Array Slot} {st : List Value} {x y r : Int32} (hd : decode bytes pc = .ok (.iand, 1)) (hp : pc' = pc + 1) (hr : x &&& y = r) (k : G T (mkF m pc' Ls (.int r :: st))) : G T (mkF m pc Ls (.int y :: .int x :: st)) := by
  obtain ⟨hG, ⟨c1, c2, -⟩, L, X, -⟩ := X
  subst hp
  exact hG _ _ _ _ (fun t q => XS.iand X.here c1 rfl (hb c2 hd) rfl (by subst hr; exact q)) k
theorem own_ior (X : own_At G p l e R s m args below meth c Z n0 own nm bytes maxL ret T h cells slots) {pc pc' : Nat} {Ls : Array Slot} {st : List Value} {x y r : Int32} (hd : decode bytes pc = .ok (.ior, 1)) (hp : pc' = pc + 1) (hr : x ||| y = r) (k : G T (mkF m pc' Ls (.int r :: st))) : G T (mkF m pc Ls (.int y :: .int x :: st)) := by
  obtain ⟨hG, ⟨c1, c2, -⟩, L, X, -⟩ := X
  subst hp
  exact hG _ _ _ _ (fun t q => XS.ior X.here c1 rfl (hb c2 hd) rfl (by subst hr; exact q)) k
theorem own_ixor (X : own_At G p l e R s m args below meth c Z n0 own nm bytes maxL ret T h cells slots) {pc pc' : Nat} {Ls : Array Slot} {st : List Value} {x y r : Int32} (hd : decode bytes pc = .ok (.ixor, 1)) (hp : pc' = pc + 1) (hr : x ^^^ y = r) (k : G T (mkF m pc' Ls (.int r :: st))) : G T (mkF m pc Ls (.int y :: .int x :: st)) := by
  obtain ⟨hG, ⟨c1, c2, -⟩, L, X, -⟩ := X
  subst hp
  exact hG _ _ _ _ (fun t q => XS.ixor X.here c1 rfl (hb c2 hd) rfl (by subst hr; exact q)) k
theorem own_ishl (X : own_At G p l e R s m args below meth c Z n0 own nm bytes maxL ret T h cells slots) {pc pc' : Nat} {Ls : Array Slot} {st : List Value} {x y r : Int32} (hd : decode bytes pc = .ok (.ishl, 1)) (hp : pc' = pc + 1) (hr : x <<< (y &&& 31) = r) (k : G T (mkF m pc' Ls (.int r :: st))) : G T (mkF m pc Ls (.int y :: .int x :: st)) := by
  obtain ⟨hG, ⟨c1, c2, -⟩, L, X, -⟩ := X
  subst hp
  exact hG _ _ _ _ (fun t q => XS.ishl X.here c1 rfl (hb c2 hd) rfl (by subst hr; exact q)) k
theorem own_ishr (X : own_At G p l e R s m args below meth c Z n0 own nm bytes maxL ret T h cells slots) {pc pc' : Nat} {Ls : Array Slot} {st : List Value} {x y r : Int32} (hd : decode bytes pc = .ok (.ishr, 1)) (hp : pc' = pc + 1) (hr : x >>> (y &&& 31) = r) (k : G T (mkF m pc' Ls (.int r :: st))) : G T (mkF m pc Ls (.int y :: .int x :: st)) := by
  obtain ⟨hG, ⟨c1, c2, -⟩, L, X, -⟩ := X
  subst hp
  exact hG _ _ _ _ (fun t q => XS.ishr X.here c1 rfl (hb c2 hd) rfl (by subst hr; exact q)) k
theorem own_iushr (X : own_At G p l e R s m args below meth c Z n0 own nm bytes maxL ret T h cells slots) {pc pc' : Nat} {Ls : Array Slot} {st : List Value} {x y r : Int32} (hd : decode bytes pc = .ok (.iushr, 1)) (hp : pc' = pc + 1) (hr : own_ushr x y = r) (k : G T (mkF m pc' Ls (.int r :: st))) : G T (mkF m pc Ls (.int y :: .int x :: st)) := by
  obtain ⟨hG, ⟨c1, c2, -⟩, L, X, -⟩ := X
  subst hp
  exact hG _ _ _ _ (fun t q => XS.iushr X.here c1 rfl (hb c2 hd) rfl (by subst hr; exact q)) k
theorem own_ladd (X : own_At G p l e R s m args below meth c Z n0 own nm bytes maxL ret T h cells slots) {pc pc' : Nat} {Ls : Array Slot} {st : List Value} {x y r : Int64} (hd : decode bytes pc = .ok (.ladd, 1)) (hp : pc' = pc + 1) (hr : x + y = r) (k : G T (mkF m pc' Ls (.long r :: st))) : G T (mkF m pc Ls (.long y :: .long x :: st)) := by
  obtain ⟨hG, ⟨c1, c2, -⟩, L, X, -⟩ := X
  subst hp
  exact hG _ _ _ _ (fun t q => XS.ladd X.here c1 rfl (hb c2 hd) rfl (by subst hr; exact q)) k
theorem own_lsub (X : own_At G p l e R s m args below meth c Z n0 own nm bytes maxL ret T h cells slots) {pc pc' : Nat} {Ls : Array Slot} {st : List Value} {x y r : Int64} (hd : decode bytes pc = .ok (.lsub, 1)) (hp : pc' = pc + 1) (hr : x - y = r) (k : G T (mkF m pc' Ls (.long r :: st))) : G T (mkF m pc Ls (.long y :: .long x :: st)) := by
  obtain ⟨hG, ⟨c1, c2, -⟩, L, X, -⟩ := X
  subst hp
  exact hG _ _ _ _ (fun t q => XS.lsub X.here c1 rfl (hb c2 hd) rfl (by subst hr; exact q)) k
theorem own_lmul (X : own_At G p l e R s m args below meth c Z n0 own nm bytes maxL ret T h cells slots) {pc pc' : Nat} {Ls : Array Slot} {st : List Value} {x y r : Int64} (hd : decode bytes pc = .ok (.lmul, 1)) (hp : pc' = pc + 1) (hr : x * y = r) (k : G T (mkF m pc' Ls (.long r :: st))) : G T (mkF m pc Ls (.long y :: .long x :: st)) := by
  obtain ⟨hG, ⟨c1, c2, -⟩, L, X, -⟩ := X
  subst hp
  exact hG _ _ _ _ (fun t q => XS.lmul X.here c1 rfl (hb c2 hd) rfl (by subst hr; exact q)) k
theorem own_land (X : own_At G p l e R s m args below meth c Z n0 own nm bytes maxL ret T h cells slots) {pc pc' : Nat} {Ls : Array Slot} {st : List Value} {x y r : Int64} (hd : decode bytes pc = .ok (.land, 1)) (hp : pc' = pc + 1) (hr : x &&& y = r) (k : G T (mkF m pc' Ls (.long r :: st))) : G T (mkF m pc Ls (.long y :: .long x :: st)) := by
  obtain ⟨hG, ⟨c1, c2, -⟩, L, X, -⟩ := X
  subst hp
  exact hG _ _ _ _ (fun t q => XS.land X.here c1 rfl (hb c2 hd) rfl (by subst hr; exact q)) k
theorem own_lor (X : own_At G p l e R s m args below meth c Z n0 own nm bytes maxL ret T h cells slots) {pc pc' : Nat} {Ls : Array Slot} {st : List Value} {x y r : Int64} (hd : decode bytes pc = .ok (.lor, 1)) (hp : pc' = pc + 1) (hr : x ||| y = r) (k : G T (mkF m pc' Ls (.long r :: st))) : G T (mkF m pc Ls (.long y :: .long x :: st)) := by
  obtain ⟨hG, ⟨c1, c2, -⟩, L, X, -⟩ := X
  subst hp
  exact hG _ _ _ _ (fun t q => XS.lor X.here c1 rfl (hb c2 hd) rfl (by subst hr; exact q)) k
theorem own_lxor (X : own_At G p l e R s m args below meth c Z n0 own nm bytes maxL ret T h cells slots) {pc pc' : Nat} {Ls : Array Slot} {st : List Value} {x y r : Int64} (hd : decode bytes pc = .ok (.lxor, 1)) (hp : pc' = pc + 1) (hr : x ^^^ y = r) (k : G T (mkF m pc' Ls (.long r :: st))) : G T (mkF m pc Ls (.long y :: .long x :: st)) := by
  obtain ⟨hG, ⟨c1, c2, -⟩, L, X, -⟩ := X
  subst hp
  exact hG _ _ _ _ (fun t q => XS.lxor X.here c1 rfl (hb c2 hd) rfl (by subst hr; exact q)) k
theorem own_lshl (X : own_At G p l e R s m args below meth c Z n0 own nm bytes maxL ret T h cells slots) {pc pc' : Nat} {Ls : Array Slot} {st : List Value} {x r : Int64} {y : Int32} (hd : decode bytes pc = .ok (.lshl, 1)) (hp : pc' = pc + 1) (hr : x <<< (y &&& 0x3f).toInt64 = r) (k : G T (mkF m pc' Ls (.long r :: st))) : G T (mkF m pc Ls (.int y :: .long x :: st)) := by
  obtain ⟨hG, ⟨c1, c2, -⟩, L, X, -⟩ := X
  subst hp
  exact hG _ _ _ _ (fun t q => XS.lshl X.here c1 rfl (hb c2 hd) rfl (by subst hr; exact q)) k
theorem own_lshr (X : own_At G p l e R s m args below meth c Z n0 own nm bytes maxL ret T h cells slots) {pc pc' : Nat} {Ls : Array Slot} {st : List Value} {x r : Int64} {y : Int32} (hd : decode bytes pc = .ok (.lshr, 1)) (hp : pc' = pc + 1) (hr : x >>> (y &&& 0x3f).toInt64 = r) (k : G T (mkF m pc' Ls (.long r :: st))) : G T (mkF m pc Ls (.int y :: .long x :: st)) := by
  obtain ⟨hG, ⟨c1, c2, -⟩, L, X, -⟩ := X
  subst hp
  exact hG _ _ _ _ (fun t q => XS.lshr X.here c1 rfl (hb c2 hd) rfl (by subst hr; exact q)) k
theorem own_idiv (X : own_At G p l e R s m args below meth c Z n0 own nm bytes maxL ret T h cells slots) {pc pc' : Nat} {Ls : Array Slot} {st : List Value} {x y : Int32} (hd : decode bytes pc = .ok (.idiv, 1)) (hp : pc' = pc + 1) (hy : y ≠ 0) (k : G T (mkF m pc' Ls (.int (x / y) :: st))) : G T (mkF m pc Ls (.int y :: .int x :: st)) := by
  obtain ⟨hG, ⟨c1, c2, -⟩, L, X, -⟩ := X
  subst hp
  exact hG _ _ _ _ (fun t q => XS.idiv X.here c1 rfl (hb c2 hd) rfl hy q) k
theorem own_irem (X : own_At G p l e R s m args below meth c Z n0 own nm bytes maxL ret T h cells slots) {pc pc' : Nat} {Ls : Array Slot} {st : List Value} {x y : Int32} (hd : decode bytes pc = .ok (.irem, 1)) (hp : pc' = pc + 1) (hy : y ≠ 0) (k : G T (mkF m pc' Ls (.int (x % y) :: st))) : G T (mkF m pc Ls (.int y :: .int x :: st)) := by
  obtain ⟨hG, ⟨c1, c2, -⟩, L, X, -⟩ := X
  subst hp
  exact hG _ _ _ _ (fun t q => iremM X c1 rfl (hb c2 hd) rfl hy q) k
theorem own_ldiv (X : own_At G p l e R s m args below meth c Z n0 own nm bytes maxL ret T h cells slots) {pc pc' : Nat} {Ls : Array Slot} {st : List Value} {x y : Int64} (hd : decode bytes pc = .ok (.ldiv, 1)) (hp : pc' = pc + 1) (hy : y ≠ 0) (k : G T (mkF m pc' Ls (.long (x / y) :: st))) : G T (mkF m pc Ls (.long y :: .long x :: st)) := by
  obtain ⟨hG, ⟨c1, c2, -⟩, L, X, -⟩ := X
  subst hp
  exact hG _ _ _ _ (fun t q => XS.ldiv X.here c1 rfl (hb c2 hd) rfl hy q) k
theorem own_lrem (X : own_At G p l e R s m args below meth c Z n0 own nm bytes maxL ret T h cells slots) {pc pc' : Nat} {Ls : Array Slot} {st : List Value} {x y : Int64} (hd : decode bytes pc = .ok (.lrem, 1)) (hp : pc' = pc + 1) (hy : y ≠ 0) (k : G T (mkF m pc' Ls (.long (x % y) :: st))) : G T (mkF m pc Ls (.long y :: .long x :: st)) := by
  obtain ⟨hG, ⟨c1, c2, -⟩, L, X, -⟩ := X
  subst hp
  exact hG _ _ _ _ (fun t q => XS.lrem X.here c1 rfl (hb c2 hd) rfl hy (by rw [lrem_mod]; exact q)) k
theorem own_ineg (X : own_At G p l e R s m args below meth c Z n0 own nm bytes maxL ret T h cells slots) {pc pc' : Nat} {Ls : Array Slot} {st : List Value} {x : Int32} (hd : decode bytes pc = .ok (.ineg, 1)) (hp : pc' = pc + 1)  (k : G T (mkF m pc' Ls (.int (-x) :: st))) : G T (mkF m pc Ls (.int x :: st)) := by
  obtain ⟨hG, ⟨c1, c2, -⟩, L, X, -⟩ := X
  subst hp
  exact hG _ _ _ _ (fun t q => XS.ineg X.here c1 rfl (hb c2 hd) rfl q) k
theorem own_i2c (X : own_At G p l e R s m args below meth c Z n0 own nm bytes maxL ret T h cells slots) {pc pc' : Nat} {Ls : Array Slot} {st : List Value} {x : Int32} (hd : decode bytes pc = .ok (.i2c, 1)) (hp : pc' = pc + 1)  (k : G T (mkF m pc' Ls (.int (own_c16 x) :: st))) : G T (mkF m pc Ls (.int x :: st)) := by
  obtain ⟨hG, ⟨c1, c2, -⟩, L, X, -⟩ := X
  subst hp
  exact hG _ _ _ _ (fun t q => XS.i2c X.here c1 rfl (hb c2 hd) rfl q) k
theorem own_i2b (X : own_At G p l e R s m args below meth c Z n0 own nm bytes maxL ret T h cells slots) {pc pc' : Nat} {Ls : Array Slot} {st : List Value} {x : Int32} (hd : decode bytes pc = .ok (.i2b, 1)) (hp : pc' = pc + 1)  (k : G T (mkF m pc' Ls (.int (own_b8 x) :: st))) : G T (mkF m pc Ls (.int x :: st)) := by
  obtain ⟨hG, ⟨c1, c2, -⟩, L, X, -⟩ := X
  subst hp
  exact hG _ _ _ _ (fun t q => XS.i2b X.here c1 rfl (hb c2 hd) rfl q) k
theorem own_i2l (X : own_At G p l e R s m args below meth c Z n0 own nm bytes maxL ret T h cells slots) {pc pc' : Nat} {Ls : Array Slot} {st : List Value} {x : Int32} {r : Int64} (hd : decode bytes pc = .ok (.i2l, 1)) (hp : pc' = pc + 1) (hr : x.toInt64 = r) (k : G T (mkF m pc' Ls (.long r :: st))) : G T (mkF m pc Ls (.int x :: st)) := by
  obtain ⟨hG, ⟨c1, c2, -⟩, L, X, -⟩ := X
  subst hp
  exact hG _ _ _ _ (fun t q => XS.i2l X.here c1 rfl (hb c2 hd) rfl (by subst hr; exact q)) k
theorem own_l2i (X : own_At G p l e R s m args below meth c Z n0 own nm bytes maxL ret T h cells slots) {pc pc' : Nat} {Ls : Array Slot} {st : List Value} {x : Int64} {r : Int32} (hd : decode bytes pc = .ok (.l2i, 1)) (hp : pc' = pc + 1) (hr : x.toInt32 = r) (k : G T (mkF m pc' Ls (.int r :: st))) : G T (mkF m pc Ls (.long x :: st)) := by
  obtain ⟨hG, ⟨c1, c2, -⟩, L, X, -⟩ := X
  subst hp
  exact hG _ _ _ _ (fun t q => XS.l2i X.here c1 rfl (hb c2 hd) rfl (by subst hr; exact q)) k
theorem own_pop2L (X : own_At G p l e R s m args below meth c Z n0 own nm bytes maxL ret T h cells slots) {pc pc' : Nat} {Ls : Array Slot} {st : List Value} {x : Int64} (hd : decode bytes pc = .ok (.pop2, 1)) (hp : pc' = pc + 1)  (k : G T (mkF m pc' Ls st)) : G T (mkF m pc Ls (.long x :: st)) := by
  obtain ⟨hG, ⟨c1, c2, -⟩, L, X, -⟩ := X
  subst hp
  exact hG _ _ _ _ (fun t q => own_xpop2 X c1 (hb c2 hd) q) k
theorem own_lcmp (X : own_At G p l e R s m args below meth c Z n0 own nm bytes maxL ret T h cells slots) {pc pc' : Nat} {Ls : Array Slot} {st : List Value} {x y : Int64} (hd : decode bytes pc = .ok (.lcmp, 1)) (hp : pc' = pc + 1)  (k : G T (mkF m pc' Ls (.int (lcmpW x y) :: st))) : G T (mkF m pc Ls (.long y :: .long x :: st)) := by
  obtain ⟨hG, ⟨c1, c2, -⟩, L, X, -⟩ := X
  subst hp
  exact hG _ _ _ _ (fun t q => XS.lcmp X.here c1 rfl (hb c2 hd) rfl q) k
theorem own_dup (X : own_At G p l e R s m args below meth c Z n0 own nm bytes maxL ret T h cells slots) {pc pc' : Nat} {Ls : Array Slot} {st : List Value} {x : Value} (hd : decode bytes pc = .ok (.dup, 1)) (hp : pc' = pc + 1) (hc : x.category = 1) (k : G T (mkF m pc' Ls (x :: x :: st))) : G T (mkF m pc Ls (x :: st)) := by
  obtain ⟨hG, ⟨c1, c2, -⟩, L, X, -⟩ := X
  subst hp
  exact hG _ _ _ _ (fun t q => XS.dup X.here c1 rfl (hb c2 hd) rfl hc q) k
theorem own_pop (X : own_At G p l e R s m args below meth c Z n0 own nm bytes maxL ret T h cells slots) {pc pc' : Nat} {Ls : Array Slot} {st : List Value} {x : Value} (hd : decode bytes pc = .ok (.pop, 1)) (hp : pc' = pc + 1) (hc : x.category = 1) (k : G T (mkF m pc' Ls st)) : G T (mkF m pc Ls (x :: st)) := by
  obtain ⟨hG, ⟨c1, c2, -⟩, L, X, -⟩ := X
  subst hp
  exact hG _ _ _ _ (fun t q => XS.pop X.here c1 rfl (hb c2 hd) rfl hc q) k
theorem own_dup_x1 (X : own_At G p l e R s m args below meth c Z n0 own nm bytes maxL ret T h cells slots) {pc pc' : Nat} {Ls : Array Slot} {st : List Value} {x y : Value} (hd : decode bytes pc = .ok (.dup_x1, 1)) (hp : pc' = pc + 1) (hc : x.category = 1) (hc2 : y.category = 1) (k : G T (mkF m pc' Ls (x :: y :: x :: st))) : G T (mkF m pc Ls (x :: y :: st)) := by
  obtain ⟨hG, ⟨c1, c2, -⟩, L, X, -⟩ := X
  subst hp
  exact hG _ _ _ _ (fun t q => XS.dupX1 X.here c1 rfl (hb c2 hd) rfl hc hc2 q) k
theorem own_goto (X : own_At G p l e R s m args below meth c Z n0 own nm bytes maxL ret T h cells slots) {pc pc' : Nat} {Ls : Array Slot} {st : List Value} {o : Int}  (hd : decode bytes pc = .ok (.goto o, 3))  (ho : 0 ≤ (pc : Int) + o) (hp : ((pc : Int) + o).toNat = pc') (k : G T (mkF m pc' Ls st)) : G T (mkF m pc Ls st) := by
  obtain ⟨hG, ⟨c1, c2, -⟩, L, X, -⟩ := X
  exact hG _ _ _ _ (fun t q => XS.goto X.here c1 rfl rfl (hb c2 hd) ho hp q) k
theorem own_ifY (X : own_At G p l e R s m args below meth c Z n0 own nm bytes maxL ret T h cells slots) {pc pc' : Nat} {Ls : Array Slot} {st : List Value} {o : Int} {cd : ClassFile.Cond} {x : Int32} (hd : decode bytes pc = .ok (.ifCond cd o, 3)) (hc : if_icmp.holds cd x 0 = true) (ho : 0 ≤ (pc : Int) + o) (hp : ((pc : Int) + o).toNat = pc') (k : G T (mkF m pc' Ls st)) : G T (mkF m pc Ls (.int x :: st)) := by
  obtain ⟨hG, ⟨c1, c2, -⟩, L, X, -⟩ := X
  exact hG _ _ _ _ (fun t q => XS.ifYes X.here c1 rfl rfl (hb c2 hd) rfl ((if0 _ _).trans hc) ho hp q) k
theorem own_ifN (X : own_At G p l e R s m args below meth c Z n0 own nm bytes maxL ret T h cells slots) {pc pc' : Nat} {Ls : Array Slot} {st : List Value} {o : Int} {cd : ClassFile.Cond} {x : Int32} (hd : decode bytes pc = .ok (.ifCond cd o, 3)) (hp : pc' = pc + 3) (hc : if_icmp.holds cd x 0 = false) (k : G T (mkF m pc' Ls st)) : G T (mkF m pc Ls (.int x :: st)) := by
  obtain ⟨hG, ⟨c1, c2, -⟩, L, X, -⟩ := X
  subst hp
  exact hG _ _ _ _ (fun t q => XS.ifNo X.here c1 rfl (hb c2 hd) rfl ((if0 _ _).trans hc) q) k
theorem own_icmpY (X : own_At G p l e R s m args below meth c Z n0 own nm bytes maxL ret T h cells slots) {pc pc' : Nat} {Ls : Array Slot} {st : List Value} {o : Int} {cd : ClassFile.Cond} {x y : Int32} (hd : decode bytes pc = .ok (.if_icmp cd o, 3)) (hc : if_icmp.holds cd x y = true) (ho : 0 ≤ (pc : Int) + o) (hp : ((pc : Int) + o).toNat = pc') (k : G T (mkF m pc' Ls st)) : G T (mkF m pc Ls (.int y :: .int x :: st)) := by
  obtain ⟨hG, ⟨c1, c2, -⟩, L, X, -⟩ := X
  exact hG _ _ _ _ (fun t q => XS.icmpYes X.here c1 rfl rfl (hb c2 hd) rfl hc ho hp q) k
theorem own_icmpN (X : own_At G p l e R s m args below meth c Z n0 own nm bytes maxL ret T h cells slots) {pc pc' : Nat} {Ls : Array Slot} {st : List Value} {o : Int} {cd : ClassFile.Cond} {x y : Int32} (hd : decode bytes pc = .ok (.if_icmp cd o, 3)) (hp : pc' = pc + 3) (hc : if_icmp.holds cd x y = false) (k : G T (mkF m pc' Ls st)) : G T (mkF m pc Ls (.int y :: .int x :: st)) := by
  obtain ⟨hG, ⟨c1, c2, -⟩, L, X, -⟩ := X
  subst hp
  exact hG _ _ _ _ (fun t q => XS.icmpNo X.here c1 rfl (hb c2 hd) rfl hc q) k
theorem own_ifnullY (X : own_At G p l e R s m args below meth c Z n0 own nm bytes maxL ret T h cells slots) {pc pc' : Nat} {Ls : Array Slot} {st : List Value} {o : Int}  (hd : decode bytes pc = .ok (.ifnull o, 3))  (ho : 0 ≤ (pc : Int) + o) (hp : ((pc : Int) + o).toNat = pc') (k : G T (mkF m pc' Ls st)) : G T (mkF m pc Ls (.null :: st)) := by
  obtain ⟨hG, ⟨c1, c2, -⟩, L, X, -⟩ := X
  exact hG _ _ _ _ (fun t q => XS.ifnullYes X.here c1 rfl rfl (hb c2 hd) rfl ho hp q) k
theorem own_ifnullN (X : own_At G p l e R s m args below meth c Z n0 own nm bytes maxL ret T h cells slots) {pc pc' : Nat} {Ls : Array Slot} {st : List Value} {o : Int} {b : Addr} (hd : decode bytes pc = .ok (.ifnull o, 3)) (hp : pc' = pc + 3)  (k : G T (mkF m pc' Ls st)) : G T (mkF m pc Ls (.ref b :: st)) := by
  obtain ⟨hG, ⟨c1, c2, -⟩, L, X, -⟩ := X
  subst hp
  exact hG _ _ _ _ (fun t q => XS.ifnullNo X.here c1 rfl (hb c2 hd) rfl q) k
theorem own_ifnonnullY (X : own_At G p l e R s m args below meth c Z n0 own nm bytes maxL ret T h cells slots) {pc pc' : Nat} {Ls : Array Slot} {st : List Value} {o : Int} {b : Addr} (hd : decode bytes pc = .ok (.ifnonnull o, 3))  (ho : 0 ≤ (pc : Int) + o) (hp : ((pc : Int) + o).toNat = pc') (k : G T (mkF m pc' Ls st)) : G T (mkF m pc Ls (.ref b :: st)) := by
  obtain ⟨hG, ⟨c1, c2, -⟩, L, X, -⟩ := X
  exact hG _ _ _ _ (fun t q => XS.ifnonnullYes X.here c1 rfl rfl (hb c2 hd) rfl ho hp q) k
theorem own_ifnonnullN (X : own_At G p l e R s m args below meth c Z n0 own nm bytes maxL ret T h cells slots) {pc pc' : Nat} {Ls : Array Slot} {st : List Value} {o : Int}  (hd : decode bytes pc = .ok (.ifnonnull o, 3)) (hp : pc' = pc + 3)  (k : G T (mkF m pc' Ls st)) : G T (mkF m pc Ls (.null :: st)) := by
  obtain ⟨hG, ⟨c1, c2, -⟩, L, X, -⟩ := X
  subst hp
  exact hG _ _ _ _ (fun t q => XS.ifnonnullNo X.here c1 rfl (hb c2 hd) rfl q) k
theorem own_acmp (X : own_At G p l e R s m args below meth c Z n0 own nm bytes maxL ret T h cells slots) {pc pc' : Nat} {Ls : Array Slot} {st : List Value} {o : Int} {cd : ACond} {x y : Value} {same : Bool} (hd : decode bytes pc = .ok (.if_acmp cd o, 3)) (h1 : x.isRef = true) (h2 : y.isRef = true) (hq : decide (x = y) = same) (ho : 0 ≤ (pc : Int) + o) (hp : pc' = if acV cd same = true then ((pc : Int) + o).toNat else pc + 3) (k : G T (mkF m pc' Ls st)) : G T (mkF m pc Ls (y :: x :: st)) := by
  obtain ⟨hG, ⟨c1, c2, -⟩, L, X, -⟩ := X
  exact hG _ _ _ _ (fun t q => Jvm.RoadKit.acmp (g := mkF m pc Ls (y :: x :: st)) X c1 rfl h1 h2 rfl (hb c2 hd) rfl hq ho hp q) k
theorem own_lcY {cd : ClassFile.Cond} {x y : Int64} {P : Prop} [Decidable P] {b : Bool} (h : if_icmp.holds cd (lcmpW x y) 0 = decide P) (q : decide P = b) : if_icmp.holds cd (lcmpW x y) 0 = b := h.trans q
theorem own_lc_eq {x y : Int64} (q : x = y) : if_icmp.holds .eq (lcmpW x y) 0 = true ∧ if_icmp.holds .ne (lcmpW x y) 0 = false := teq ((lw_eq x y).mpr q)
theorem own_lc_ne {x y : Int64} (q : ¬ x = y) : if_icmp.holds .eq (lcmpW x y) 0 = false ∧ if_icmp.holds .ne (lcmpW x y) 0 = true := feq (mt (lw_eq x y).mp q)
theorem own_lc_lt {x y : Int64} (q : x < y) : if_icmp.holds .lt (lcmpW x y) 0 = true ∧ if_icmp.holds .ge (lcmpW x y) 0 = false := by have := tlt ((lw_lt x y).mpr q); exact ⟨this.1, this.2.1⟩
theorem own_lc_nlt {x y : Int64} (q : ¬ x < y) : if_icmp.holds .lt (lcmpW x y) 0 = false ∧ if_icmp.holds .ge (lcmpW x y) 0 = true := by have := flt (mt (lw_lt x y).mp q); exact ⟨this.1, this.2.1⟩
theorem own_lc_gt {x y : Int64} (q : y < x) : if_icmp.holds .gt (lcmpW x y) 0 = true ∧ if_icmp.holds .le (lcmpW x y) 0 = false := by have := tlt ((lw_gt x y).mpr q); exact ⟨this.2.2.1, this.2.2.2⟩
theorem own_lc_ngt {x y : Int64} (q : ¬ y < x) : if_icmp.holds .gt (lcmpW x y) 0 = false ∧ if_icmp.holds .le (lcmpW x y) 0 = true := by have := flt (mt (lw_gt x y).mp q); exact ⟨this.2.2.1, this.2.2.2⟩
theorem own_ldc2 (X : own_At G p l e R s m args below meth c Z n0 own nm bytes maxL ret T h cells slots) {pc pc' : Nat} {Ls : Array Slot} {st : List Value} {i : Nat} {v : Int64} (w : (Cond.constantLong own i v).before a0 Z = true) (hd : decode bytes pc = .ok (.ldc2_w i, 3)) (hp : pc' = pc + 3) (k : G T (mkF m pc' Ls (.long v :: st))) : G T (mkF m pc Ls st) := by
  obtain ⟨hG, ⟨c1, c2, hZ, hown, -⟩, L, X, -⟩ := X
  subst hp
  exact hG _ _ _ _ (X.ldc2Long c1 hown (mvT hZ w) (g := mkF m pc Ls st) rfl (hb c2 hd)) k
theorem own_ldcI (X : own_At G p l e R s m args below meth c Z n0 own nm bytes maxL ret T h cells slots) {pc pc' : Nat} {Ls : Array Slot} {st : List Value} {i : Nat} {v : Int32} (w : (Cond.constant own i v).before a0 Z = true) (hd : decode bytes pc = .ok (.ldc i, 2)) (hp : pc' = pc + 2) (k : G T (mkF m pc' Ls (.int v :: st))) : G T (mkF m pc Ls st) := by
  obtain ⟨hG, ⟨c1, c2, hZ, hown, -⟩, L, X, -⟩ := X
  subst hp
  exact hG _ _ _ _ (X.ldcInt c1 hown (mvT hZ w) (g := mkF m pc Ls st) rfl (hb c2 hd)) k
theorem own_ldcwI (X : own_At G p l e R s m args below meth c Z n0 own nm bytes maxL ret T h cells slots) {pc pc' : Nat} {Ls : Array Slot} {st : List Value} {i : Nat} {v : Int32} (w : (Cond.constant own i v).before a0 Z = true) (hd : decode bytes pc = .ok (.ldc_w i, 3)) (hp : pc' = pc + 3) (k : G T (mkF m pc' Ls (.int v :: st))) : G T (mkF m pc Ls st) := by
  obtain ⟨hG, ⟨c1, c2, hZ, hown, -⟩, L, X, -⟩ := X
  subst hp
  exact hG _ _ _ _ (X.ldcwInt c1 hown (mvT hZ w) (g := mkF m pc Ls st) rfl (hb c2 hd)) k
theorem own_ldcS (X : own_At G p l e R s m args below meth c Z n0 own nm bytes maxL ret T h cells slots) {pc pc' : Nat} {Ls : Array Slot} {st : List Value} {i : Nat} {text : String} {a : Addr} (w : (Cond.stringRef own i text).before a0 Z = true) (F : Lit Z own i a) (hd : decode bytes pc = .ok (.ldc i, 2)) (hp : pc' = pc + 2) (k : G T (mkF m pc' Ls (.ref a :: st))) : G T (mkF m pc Ls st) := by
  obtain ⟨hG, ⟨c1, c2, hZ, hown, -⟩, L, X, -⟩ := X
  subst hp
  exact hG _ _ _ _ (ldcR X c1 hZ hown w F (g := mkF m pc Ls st) rfl (hb c2 hd)) k
theorem own_get (X : own_At G p l e R s m args below meth c Z n0 own nm bytes maxL ret T h cells slots) {pc pc' : Nat} {Ls : Array Slot} {st : List Value} {i : Nat} {R0 O n d host : String} {a : Addr} {v : Value} (w : (Cond.fieldLink own i R0 n d).before a0 Z = true ∨ (Cond.fieldLinkNest own i R0 n d host).before a0 Z = true) (via : Via Z R0 O n d) (F : Fld Z h a O n d v) (hd : decode bytes pc = .ok (.getfield i, 3)) (hp : pc' = pc + 3)
    (k : ∀ T', own_At G p l e R s m args below meth c Z n0 own nm bytes maxL ret T' h cells slots → G T' (mkF m pc' Ls (v :: st))) : G T (mkF m pc Ls (.ref a :: st)) := by
  obtain ⟨hG, ⟨c1, c2, hZ, hown, c5⟩, L, X, N, eT, O⟩ := X
  subst hp
  obtain ⟨T', X', e', st'⟩ := getF X c1 hZ hown w via eT F (g := mkF m pc Ls (.ref a :: st)) rfl rfl (hb c2 hd)
  exact hG _ _ _ _ st' (k _ ⟨hG, ⟨c1, c2, hZ, hown, c5⟩, L, X', N, e', O⟩)
theorem own_getS (X : own_At G p l e R s m args below meth c Z n0 own nm bytes maxL ret T h cells slots) {pc pc' : Nat} {Ls : Array Slot} {st : List Value} {i : Nat} {R0 O n d : String} {v : Value} (w : (Cond.fieldLink own i R0 n d).before a0 Z = true) (via : Via Z R0 O n d) (F : Sta Z h O n d v) (hd : decode bytes pc = .ok (.getstatic i, 3)) (hp : pc' = pc + 3)
    (k : ∀ T', own_At G p l e R s m args below meth c Z n0 own nm bytes maxL ret T' h cells slots → G T' (mkF m pc' Ls (v :: st))) : G T (mkF m pc Ls st) := by
  obtain ⟨hG, ⟨c1, c2, hZ, hown, c5⟩, L, X, N, eT, O⟩ := X
  subst hp
  obtain ⟨T', X', e', st'⟩ := getS (host := "") X c1 hZ hown w via eT F (g := mkF m pc Ls st) rfl (hb c2 hd)
  exact hG _ _ _ _ st' (k _ ⟨hG, ⟨c1, c2, hZ, hown, c5⟩, L, X', N, e', O⟩)
theorem own_put (X : own_At G p l e R s m args below meth c Z n0 own nm bytes maxL ret T h cells slots) {pc pc' : Nat} {Ls : Array Slot} {st : List Value} {i kk : Nat} {R0 O n d host C : String} {a : Addr} {v old : Value} {ty : FieldType} (w : (Cond.fieldLink own i R0 n d).before a0 Z = true ∨ (Cond.fieldLinkNest own i R0 n d host).before a0 Z = true) (via : Via Z R0 O n d) (F : Fld Z h a O n d old) (E : Exa Z h a C)
    (hL : (Cond.lays C O n d).before a0 Z = true ∨ ((Cond.laysFinal C O n d).before a0 Z = true ∧ own = O ∧ nm = "<init>")) (wi : (Cond.instantiable C kk).before a0 Z = true) (hty : parseFieldDescriptor d = some ty) (hn : narrow ty v = v) (hf : fits ty v = true) (ha : n0 ≤ a) (hd : decode bytes pc = .ok (.putfield i, 3)) (hp : pc' = pc + 3)
    (k : ∀ T' h', own_At G p l e R s m args below meth c Z n0 own nm bytes maxL ret T' h' cells slots → Wr h h' a (Jvm.RoadKit.slotOf Z O n d) v → Keep h h' [a] → G T' (mkF m pc' Ls st)) : G T (mkF m pc Ls (v :: .ref a :: st)) := by
  obtain ⟨hG, ⟨c1, c2, hZ, hown, c5, c6, c7⟩, L, X, N, eT, O⟩ := X
  subst hp
  obtain ⟨T', h', X', e', W', st'⟩ := putF X c1 hZ hown w via eT F E (hL.imp id fun q => ⟨q.1, q.2.1, c6.trans q.2.2⟩) wi hty hn hf (g := mkF m pc Ls (v :: .ref a :: st)) rfl rfl (hb c2 hd)
  exact hG _ _ _ _ st' (k _ _ ⟨hG, ⟨c1, c2, hZ, hown, c5, c6, c7⟩, _, X', Fr.snoc X' N ha, e', O.wr W' ha⟩ W' (Keep.of_wr W'))
theorem own_new (X : own_At G p l e R s m args below meth c Z n0 own nm bytes maxL ret T h cells slots) {pc pc' cells' slots' : Nat} {Ls : Array Slot} {st : List Value} {i n : Nat} {C : String} (w : (Cond.classLink own i C).before a0 Z = true) (wi : (Cond.instantiable C n).before a0 Z = true) (wz : (Cond.initialized C).before a0 Z = true) (hd : decode bytes pc = .ok (.new i, 3)) (hp : pc' = pc + 3) (ec : cells' = cells + 1) (es : slots' = slots + n) (hc : cells' ≤ R.cells) (hl : slots' ≤ R.slots)
    (k : ∀ T' h' a, a = h.size → own_At G p l e R s m args below meth c Z n0 own nm bytes maxL ret T' h' cells' slots' → Keep h h' [] → Exa Z h' a C → (∀ {O nm d : String} {ty : FieldType}, Laid Z a0 C O nm d → parseFieldDescriptor d = some ty → Fld Z h' a O nm d (defaultValue ty)) → (∃ cell : Cell, h'[a]? = some cell ∧ cell.vm = .none ∧ cell.monitor = {}) → G T' (mkF m pc' Ls (.ref a :: st))) : G T (mkF m pc Ls st) := by
  obtain ⟨hG, ⟨c1, c2, hZ, hown, c5⟩, L, X, N, eT, O⟩ := X
  subst hp ec es
  obtain ⟨T', h', X', e', E', A', D', U', st'⟩ := newO X c1 hZ hown w wi wz eT (g := mkF m pc Ls st) rfl (hb c2 hd) hc hl
  exact hG _ _ _ _ st' (k _ _ _ rfl ⟨hG, ⟨c1, c2, hZ, hown, c5⟩, _, X', N, e', O.ext E'⟩ ((Keep.refl _ _).ext E') A' D' U')
theorem own_initO (X : own_At G p l e R s m args below meth c Z n0 own nm bytes maxL ret T h cells slots) {pc pc' : Nat} {Ls : Array Slot} {st : List Value} {i : Nat} {a : Addr} {W : Nat} (w1 : (Cond.methodLink own i Lib.objectInit).before a0 Z = true) (w2 : (Cond.instanceMethod Lib.objectInit).before a0 Z = true) (w3 : (Cond.code Lib.objectInit ⟨#[0xb1]⟩ 1 none).before a0 Z = true) (hsz : Ls.size = maxL) (hd : decode bytes pc = .ok (.invokespecial i, 3)) (hp : pc' = pc + 3)
    (hf : 1 ≤ R.frames) (hW : (st.map fun v => v.category).sum = W) (hl : W + 12 ≤ R.locals) (k : ∀ T', own_At G p l e R s m args below meth c Z n0 own nm bytes maxL ret T' h cells slots → G T' (mkF m pc' Ls st)) : G T (mkF m pc Ls (.ref a :: st)) := by
  obtain ⟨hG, ⟨c1, c2, hZ, hown, c5, c6⟩, L, X, N, eT, O⟩ := X
  subst hp
  obtain ⟨T', X', e', st'⟩ := initO X c1 hZ hown w1 w2 w3 eT (g := mkF m pc Ls (.ref a :: st)) rfl (hsz.trans c5.symm) rfl (hb c2 hd) hf (W := W) (by show 2 * 0 + _ ≤ _; rw [hW]; omega) hl
  exact hG _ _ _ _ st' (k _ ⟨hG, ⟨c1, c2, hZ, hown, c5, c6⟩, L, X', N, e', O⟩)
def own_Arr (Z : State) (h : Heap) (a : Addr) (k : ClassId) (ty : FieldType) (vs : List Value) : Prop := ∃ c : Cell, Arr Z h a c ty ∧ c.cls = k ∧ c.slots.toList = vs ∧ vs.length < 2 ^ 31 ∧ ∀ v ∈ vs, fits ty v = true
theorem own_Arr.lt {a : Addr} {k : ClassId} {ty : FieldType} {vs : List Value} (F : own_Arr Z h a k ty vs) : a < h.size := by obtain ⟨c, A, -⟩ := F; exact A.lt
theorem own_Arr.keep {h' : Heap} {a : Addr} {k : ClassId} {ty : FieldType} {vs : List Value} {ws : List Addr} (F : own_Arr Z h a k ty vs) (K : Keep h h' ws) (q : a ∉ ws) : own_Arr Z h' a k ty vs := by
  obtain ⟨c, A, r⟩ := F; exact ⟨c, ⟨K.2.1 a c A.1 q, A.2⟩, r⟩
theorem own_Arr.arv {a : Addr} {k : ClassId} {ty : FieldType} {vs : List Value} {d : Value} {N : Int32} (F : own_Arr Z h a k ty vs) (hN : N = Int32.ofNat vs.length) : Arv Z h a k ty N vs d := by
  obtain ⟨c, A, r1, r2, r3, r4⟩ := F
  have q : N.toInt = vs.length := by rw [hN]; exact len_toInt r3
  have hs : c.slots.size = vs.length := by rw [← r2]; simp
  refine ⟨c, A, r1, by rw [hs]; simp only [Int32.toNatClampNeg, q]; omega, by rw [Int32.lt_iff_toInt_lt, q]; simp, fun i hi => ?_, fun i hi => ?_⟩
  · rw [← Array.getElem?_toList, r2, List.getElem?_eq_getElem (by omega)]; simp [List.getD, List.getElem?_eq_getElem (show i < vs.length by omega)]
  · have hi' : i < vs.length := by omega
    simp only [List.getD, List.getElem?_eq_getElem hi', Option.getD_some]; exact r4 _ (List.getElem_mem hi')
theorem own_Arr.of_arv {a : Addr} {k : ClassId} {ty : FieldType} {vs : List Value} {d : Value} {N : Int32} (F : Arv Z h a k ty N vs d) (hN : N.toNatClampNeg = vs.length) : own_Arr Z h a k ty vs := by
  obtain ⟨c, A, r1, r2, r3, r4, r5⟩ := F
  have hs : c.slots.size = vs.length := by omega
  have e : c.slots.toList = vs := by
    apply List.ext_getElem?
    intro i
    by_cases hi : i < vs.length
    · rw [Array.getElem?_toList, r4 i (by omega)]; simp [List.getD, List.getElem?_eq_getElem hi]
    · rw [List.getElem?_eq_none (by simpa using (by omega : c.slots.size ≤ i)), List.getElem?_eq_none (by omega)]
  refine ⟨c, A, r1, e, by rw [← hN]; exact (back32 r3).2, fun v hv => ?_⟩
  obtain ⟨i, hi, rfl⟩ := List.getElem_of_mem hv
  have := r5 i (by omega)
  simpa [List.getD, List.getElem?_eq_getElem hi] using this
theorem own_idx {n i : Nat} (hi : i < n) (hn : n < 2 ^ 31) {j : Int32} (hj : j.toInt = i) : ¬ (j < 0 ∨ n ≤ j.toNatClampNeg) ∧ j.toNatClampNeg = i := by
  have e : j.toNatClampNeg = i := by simp only [Int32.toNatClampNeg, hj]; omega
  refine ⟨?_, e⟩
  rw [e, Int32.lt_iff_toInt_lt, hj]; simp; omega
theorem own_ld {a : Addr} {k : ClassId} {ty : FieldType} {vs : List Value} {j : Int32} {i : Nat} {v : Value} (F : own_Arr Z h a k ty vs) (hj : j.toInt = i) (hv : vs[i]? = some v) : ∃ c : Cell, Arr Z h a c ty ∧ ¬ (j < 0 ∨ c.slots.size ≤ j.toNatClampNeg) ∧ c.slots[j.toNatClampNeg]? = some v := by
  obtain ⟨c, A, r1, r2, r3, r4⟩ := F
  have hi : i < vs.length := (List.getElem?_eq_some_iff.mp hv).1
  have hs : c.slots.size = vs.length := by rw [← r2]; simp
  obtain ⟨q1, q2⟩ := own_idx hi r3 hj
  exact ⟨c, A, by rw [hs]; exact q1, by rw [q2, ← Array.getElem?_toList, r2]; exact hv⟩
theorem own_iaload (X : own_At G p l e R s m args below meth c Z n0 own nm bytes maxL ret T h cells slots) {pc pc' : Nat} {Ls : Array Slot} {st : List Value} {a : Addr} {kc : ClassId} {vs : List Value} {j : Int32} {i : Nat} {v : Value} (F : own_Arr Z h a kc .int vs) (hj : j.toInt = i) (hv : vs[i]? = some v) (hd : decode bytes pc = .ok (.iaload, 1)) (hp : pc' = pc + 1) (k : G T (mkF m pc' Ls (v :: st))) : G T (mkF m pc Ls (.int j :: .ref a :: st)) := by
  obtain ⟨hG, ⟨c1, c2, hZ, -⟩, L, X, N, eT, O⟩ := X
  subst hp
  obtain ⟨cl, A, q1, q2⟩ := own_ld F hj hv
  exact hG _ _ _ _ (fun t q => X.iaload c1 (by rw [eT]; exact A.1) (State.isArrayOf_alike hZ.alike A.2.1) A.2.2 q1 q2 (g := mkF m pc Ls (.int j :: .ref a :: st)) rfl rfl (hb c2 hd) _ q) k
theorem own_laload (X : own_At G p l e R s m args below meth c Z n0 own nm bytes maxL ret T h cells slots) {pc pc' : Nat} {Ls : Array Slot} {st : List Value} {a : Addr} {kc : ClassId} {vs : List Value} {j : Int32} {i : Nat} {v : Value} (F : own_Arr Z h a kc .long vs) (hj : j.toInt = i) (hv : vs[i]? = some v) (hd : decode bytes pc = .ok (.laload, 1)) (hp : pc' = pc + 1) (k : G T (mkF m pc' Ls (v :: st))) : G T (mkF m pc Ls (.int j :: .ref a :: st)) := by
  obtain ⟨hG, ⟨c1, c2, hZ, -⟩, L, X, N, eT, O⟩ := X
  subst hp
  obtain ⟨cl, A, q1, q2⟩ := own_ld F hj hv
  exact hG _ _ _ _ (fun t q => X.laload c1 (by rw [eT]; exact A.1) (State.isArrayOf_alike hZ.alike A.2.1) A.2.2 q1 q2 (g := mkF m pc Ls (.int j :: .ref a :: st)) rfl rfl (hb c2 hd) _ q) k
theorem own_caload (X : own_At G p l e R s m args below meth c Z n0 own nm bytes maxL ret T h cells slots) {pc pc' : Nat} {Ls : Array Slot} {st : List Value} {a : Addr} {kc : ClassId} {vs : List Value} {j : Int32} {i : Nat} {v : Value} (F : own_Arr Z h a kc .char vs) (hj : j.toInt = i) (hv : vs[i]? = some v) (hd : decode bytes pc = .ok (.caload, 1)) (hp : pc' = pc + 1) (k : G T (mkF m pc' Ls (v :: st))) : G T (mkF m pc Ls (.int j :: .ref a :: st)) := by
  obtain ⟨hG, ⟨c1, c2, hZ, -⟩, L, X, N, eT, O⟩ := X
  subst hp
  obtain ⟨cl, A, q1, q2⟩ := own_ld F hj hv
  exact hG _ _ _ _ (fun t q => X.caload c1 (by rw [eT]; exact A.1) (State.isArrayOf_alike hZ.alike A.2.1) A.2.2 q1 q2 (g := mkF m pc Ls (.int j :: .ref a :: st)) rfl rfl (hb c2 hd) _ q) k
theorem own_baload (X : own_At G p l e R s m args below meth c Z n0 own nm bytes maxL ret T h cells slots) {pc pc' : Nat} {Ls : Array Slot} {st : List Value} {a : Addr} {kc : ClassId} {vs : List Value} {j : Int32} {i : Nat} {v : Value} (F : own_Arr Z h a kc .byte vs) (hj : j.toInt = i) (hv : vs[i]? = some v) (hd : decode bytes pc = .ok (.baload, 1)) (hp : pc' = pc + 1) (k : G T (mkF m pc' Ls (v :: st))) : G T (mkF m pc Ls (.int j :: .ref a :: st)) := by
  obtain ⟨hG, ⟨c1, c2, hZ, -⟩, L, X, N, eT, O⟩ := X
  subst hp
  obtain ⟨cl, A, q1, q2⟩ := own_ld F hj hv
  exact hG _ _ _ _ (fun t q => X.baloadBytes c1 (by rw [eT]; exact A.1) (State.isArrayOf_alike hZ.alike A.2.1) A.2.2 q1 q2 (g := mkF m pc Ls (.int j :: .ref a :: st)) rfl rfl (hb c2 hd) _ q) k
theorem own_aaload (X : own_At G p l e R s m args below meth c Z n0 own nm bytes maxL ret T h cells slots) {pc pc' : Nat} {Ls : Array Slot} {st : List Value} {ty : FieldType} {a : Addr} {kc : ClassId} {vs : List Value} {j : Int32} {i : Nat} {v : Value} (F : own_Arr Z h a kc ty vs) (hty : ty.isReference = true) (hj : j.toInt = i) (hv : vs[i]? = some v) (hd : decode bytes pc = .ok (.aaload, 1)) (hp : pc' = pc + 1) (k : G T (mkF m pc' Ls (v :: st))) : G T (mkF m pc Ls (.int j :: .ref a :: st)) := by
  obtain ⟨hG, ⟨c1, c2, hZ, -⟩, L, X, N, eT, O⟩ := X
  subst hp
  obtain ⟨cl, A, q1, q2⟩ := own_ld F hj hv
  exact hG _ _ _ _ (fun t q => X.aaload c1 (by rw [eT]; exact A.1) (State.isArrayOf_alike hZ.alike A.2.1) hty A.2.2 q1 q2 (g := mkF m pc Ls (.int j :: .ref a :: st)) rfl rfl (hb c2 hd) _ q) k
theorem own_arraylength (X : own_At G p l e R s m args below meth c Z n0 own nm bytes maxL ret T h cells slots) {pc pc' : Nat} {Ls : Array Slot} {st : List Value} {ty : FieldType} {a : Addr} {kc : ClassId} {vs : List Value} {z : Int32} (F : own_Arr Z h a kc ty vs) (hz : Int32.ofNat vs.length = z) (hd : decode bytes pc = .ok (.arraylength, 1)) (hp : pc' = pc + 1) (k : G T (mkF m pc' Ls (.int z :: st))) : G T (mkF m pc Ls (.ref a :: st)) := by
  obtain ⟨hG, ⟨c1, c2, hZ, -⟩, L, X, N, eT, O⟩ := X
  subst hp
  obtain ⟨cl, A, r1, r2, r3, r4⟩ := F
  have hs : cl.slots.size = vs.length := by rw [← r2]; simp
  exact hG _ _ _ _ (fun t q => X.arraylength c1 (by rw [eT]; exact A.1) (State.isArrayOf_alike hZ.alike A.2.1) (g := mkF m pc Ls (.ref a :: st)) rfl rfl (hb c2 hd) _ (by rw [hs, show vs.length.toInt32 = z from hz]; exact q)) k
theorem own_Arr.set {h' : Heap} {a : Addr} {k : ClassId} {ty : FieldType} {vs : List Value} {i : Nat} {v : Value} (F : own_Arr Z h a k ty vs) (W : Wr h h' a i v) (hv : fits ty v = true) : own_Arr Z h' a k ty (vs.set i v) := by
  obtain ⟨c, A, r1, r2, r3, r4⟩ := F
  refine ⟨_, A.same W, r1, ?_, by simpa using r3, fun x hx => ?_⟩
  · simp [Cell.setSlot, r2]
  · rcases List.mem_or_eq_of_mem_set hx with q | q
    · exact r4 _ q
    · rw [q]; exact hv
theorem own_newA (cA : ClassId) (ty : FieldType) (n : Int32) : (newA cA ty n).slots.toList = List.replicate n.toNatClampNeg (defaultValue ty) := by simp [newA]
theorem own_defit (aty : ArrayType) : fits (newarray.typeOf aty) (defaultValue (newarray.typeOf aty)) = true := by cases aty <;> rfl
theorem own_newarray (X : own_At G p l e R s m args below meth c Z n0 own nm bytes maxL ret T h cells slots) {pc pc' cells' slots' : Nat} {Ls : Array Slot} {st : List Value} {aty : ArrayType} {ty : FieldType} {z : Int32} {n : Nat} {dv : Value} (w : (Cond.arrayClass ty).before a0 Z = true) (ht : newarray.typeOf aty = ty) (hdv : defaultValue ty = dv) (hz : z.toInt = n) (hn : n ≤ 60000000) (hd : decode bytes pc = .ok (.newarray aty, 2)) (hp : pc' = pc + 2) (ec : cells' = cells + 1) {cap : Nat} (hcap : n ≤ cap) (hbig : cap ≤ 60000000) (es : slots' = slots + cap) (hc : cells' ≤ R.cells) (hl : slots' ≤ R.slots)
    (k : ∀ T' h' a kc, a = h.size → own_At G p l e R s m args below meth c Z n0 own nm bytes maxL ret T' h' cells' slots' → Keep h h' [] → own_Arr Z h' a kc ty (List.replicate n dv) → G T' (mkF m pc' Ls (.ref a :: st))) : G T (mkF m pc Ls (.int z :: st)) := by
  obtain ⟨hG, ⟨c1, c2, hZ, c5⟩, L, X, N, eT, O⟩ := X
  subst hp ec es ht hdv
  have hz0 : ¬ z < 0 := by rw [Int32.lt_iff_toInt_lt, hz]; simp
  have hzn : z.toNatClampNeg = n := by simp only [Int32.toNatClampNeg, hz]; omega
  obtain ⟨T', h', cA, X', e', E', A', st'⟩ := newP X c1 hZ w eT (g := mkF m pc Ls (.int z :: st)) rfl (hb c2 hd) rfl hz0 (cap := cap) (by omega) (by omega) hc hl
  refine hG _ _ _ _ st' (k _ _ _ cA rfl ⟨hG, ⟨c1, c2, hZ, c5⟩, _, X', N, e', O.ext E'⟩ ((Keep.refl _ _).ext E') ⟨_, A', rfl, by rw [own_newA, hzn], by simp; omega, fun v hv => ?_⟩)
  rw [List.eq_of_mem_replicate hv]; exact own_defit aty
theorem own_iastore (X : own_At G p l e R s m args below meth c Z n0 own nm bytes maxL ret T h cells slots) {pc pc' : Nat} {Ls : Array Slot} {st : List Value} {a : Addr} {kc : ClassId} {vs : List Value} {j : Int32} {i : Nat} {x : Int32} (F : own_Arr Z h a kc .int vs) (hj : j.toInt = i) (hi : i < vs.length) (ha : n0 ≤ a) (hd : decode bytes pc = .ok (.iastore, 1)) (hp : pc' = pc + 1)
    (k : ∀ T' h', own_At G p l e R s m args below meth c Z n0 own nm bytes maxL ret T' h' cells slots → Keep h h' [a] → own_Arr Z h' a kc .int (vs.set i (.int x)) → G T' (mkF m pc' Ls st)) : G T (mkF m pc Ls (.int x :: .int j :: .ref a :: st)) := by
  obtain ⟨hG, ⟨c1, c2, hZ, c5⟩, L, X, N, eT, O⟩ := X
  subst hp 
  have F0 := F
  obtain ⟨cl, A, r1, r2, r3, r4⟩ := F
  have hs : cl.slots.size = vs.length := by rw [← r2]; simp
  obtain ⟨q1, q2⟩ := own_idx hi r3 hj
  obtain ⟨T', h', X', e', W', st'⟩ := stI X c1 hZ eT A (j := j) (by rw [hs]; exact q1) (g := mkF m pc Ls (.int x :: .int j :: .ref a :: st)) rfl rfl (hb c2 hd)
  have K' := Keep.of_wr W'
  have O' := O.wr W' ha
  rw [q2] at W'
  exact hG _ _ _ _ st' (k _ _ ⟨hG, ⟨c1, c2, hZ, c5⟩, _, X', Fr.snoc X' N ha, e', O'⟩ K' (F0.set W' (rfl)))
theorem own_lastore (X : own_At G p l e R s m args below meth c Z n0 own nm bytes maxL ret T h cells slots) {pc pc' : Nat} {Ls : Array Slot} {st : List Value} {a : Addr} {kc : ClassId} {vs : List Value} {j : Int32} {i : Nat} {x : Int64} (F : own_Arr Z h a kc .long vs) (hj : j.toInt = i) (hi : i < vs.length) (ha : n0 ≤ a) (hd : decode bytes pc = .ok (.lastore, 1)) (hp : pc' = pc + 1)
    (k : ∀ T' h', own_At G p l e R s m args below meth c Z n0 own nm bytes maxL ret T' h' cells slots → Keep h h' [a] → own_Arr Z h' a kc .long (vs.set i (.long x)) → G T' (mkF m pc' Ls st)) : G T (mkF m pc Ls (.long x :: .int j :: .ref a :: st)) := by
  obtain ⟨hG, ⟨c1, c2, hZ, c5⟩, L, X, N, eT, O⟩ := X
  subst hp 
  have F0 := F
  obtain ⟨cl, A, r1, r2, r3, r4⟩ := F
  have hs : cl.slots.size = vs.length := by rw [← r2]; simp
  obtain ⟨q1, q2⟩ := own_idx hi r3 hj
  obtain ⟨T', h', X', e', W', st'⟩ := stJ X c1 hZ eT A (j := j) (by rw [hs]; exact q1) (g := mkF m pc Ls (.long x :: .int j :: .ref a :: st)) rfl rfl (hb c2 hd)
  have K' := Keep.of_wr W'
  have O' := O.wr W' ha
  rw [q2] at W'
  exact hG _ _ _ _ st' (k _ _ ⟨hG, ⟨c1, c2, hZ, c5⟩, _, X', Fr.snoc X' N ha, e', O'⟩ K' (F0.set W' (rfl)))
theorem own_castore (X : own_At G p l e R s m args below meth c Z n0 own nm bytes maxL ret T h cells slots) {pc pc' : Nat} {Ls : Array Slot} {st : List Value} {a : Addr} {kc : ClassId} {vs : List Value} {j : Int32} {i : Nat} {x y : Int32} (F : own_Arr Z h a kc .char vs) (hj : j.toInt = i) (hi : i < vs.length) (hy : nar .char x = y) (ha : n0 ≤ a) (hd : decode bytes pc = .ok (.castore, 1)) (hp : pc' = pc + 1)
    (k : ∀ T' h', own_At G p l e R s m args below meth c Z n0 own nm bytes maxL ret T' h' cells slots → Keep h h' [a] → own_Arr Z h' a kc .char (vs.set i (.int y)) → G T' (mkF m pc' Ls st)) : G T (mkF m pc Ls (.int x :: .int j :: .ref a :: st)) := by
  obtain ⟨hG, ⟨c1, c2, hZ, c5⟩, L, X, N, eT, O⟩ := X
  subst hp hy
  have F0 := F
  obtain ⟨cl, A, r1, r2, r3, r4⟩ := F
  have hs : cl.slots.size = vs.length := by rw [← r2]; simp
  obtain ⟨q1, q2⟩ := own_idx hi r3 hj
  obtain ⟨T', h', X', e', W', st'⟩ := stC X c1 hZ eT A (j := j) (by rw [hs]; exact q1) (g := mkF m pc Ls (.int x :: .int j :: .ref a :: st)) rfl rfl (hb c2 hd)
  have K' := Keep.of_wr W'
  have O' := O.wr W' ha
  rw [q2] at W'
  exact hG _ _ _ _ st' (k _ _ ⟨hG, ⟨c1, c2, hZ, c5⟩, _, X', Fr.snoc X' N ha, e', O'⟩ K' (F0.set W' (fits_nar_char _)))
theorem own_bastore (X : own_At G p l e R s m args below meth c Z n0 own nm bytes maxL ret T h cells slots) {pc pc' : Nat} {Ls : Array Slot} {st : List Value} {a : Addr} {kc : ClassId} {vs : List Value} {j : Int32} {i : Nat} {x y : Int32} (F : own_Arr Z h a kc .byte vs) (hj : j.toInt = i) (hi : i < vs.length) (hy : nar .byte x = y) (ha : n0 ≤ a) (hd : decode bytes pc = .ok (.bastore, 1)) (hp : pc' = pc + 1)
    (k : ∀ T' h', own_At G p l e R s m args below meth c Z n0 own nm bytes maxL ret T' h' cells slots → Keep h h' [a] → own_Arr Z h' a kc .byte (vs.set i (.int y)) → G T' (mkF m pc' Ls st)) : G T (mkF m pc Ls (.int x :: .int j :: .ref a :: st)) := by
  obtain ⟨hG, ⟨c1, c2, hZ, c5⟩, L, X, N, eT, O⟩ := X
  subst hp hy
  have F0 := F
  obtain ⟨cl, A, r1, r2, r3, r4⟩ := F
  have hs : cl.slots.size = vs.length := by rw [← r2]; simp
  obtain ⟨q1, q2⟩ := own_idx hi r3 hj
  obtain ⟨T', h', X', e', W', st'⟩ := stB X c1 hZ eT A (j := j) (by rw [hs]; exact q1) (g := mkF m pc Ls (.int x :: .int j :: .ref a :: st)) rfl rfl (hb c2 hd)
  have K' := Keep.of_wr W'
  have O' := O.wr W' ha
  rw [q2] at W'
  exact hG _ _ _ _ st' (k _ _ ⟨hG, ⟨c1, c2, hZ, c5⟩, _, X', Fr.snoc X' N ha, e', O'⟩ K' (F0.set W' (fits_nar_byte _)))
theorem own_back {y : MethodName} {bytes' : ByteArray} {maxL' : Nat} {ret' : Option FieldType} {rm : Room} {as' : Array Value} {Q : Option Value → Heap → Prop} {len W : Nat} (hM : own_Met l Z n0 y bytes' maxL' ret' rm as' h Q) (hZ : Z.Warmed39 s.vm) (wc : (Jvm.Cond.code y bytes' maxL' ret').before a0 Z = true) (wz : (Jvm.Cond.initialized y.cls).before a0 Z = true) (hf : rm.frames + 1 ≤ R.frames) (hl : W + (maxL' + 11) + rm.locals ≤ R.locals) :
    Back l R p e below s args y len W (fun A a => a = as' ∧ A.U.heap = h ∧ A.cells + rm.cells ≤ R.cells ∧ A.slots + rm.slots ≤ R.slots) (fun A _ v B => ∃ L, (Q v B.U.heap ∧ Fr n0 L ∧ Old Z n0 B.U.heap) ∧ B.locs = A.locs ++ L ∧ B.cells = A.cells + rm.cells ∧ B.slots = A.slots + rm.slots) :=
  backOf (Q := fun v h' L => Q v h' ∧ Fr n0 L ∧ Old Z n0 h') (hM []) hZ wc wz hf hl
theorem own_callS (X : own_At G p l e R s m args below meth c Z n0 own nm bytes maxL ret T h cells slots) {pc pc' cells' slots' : Nat} {Ls : Array Slot} {st argsL rest : List Value} {i kc ks W : Nat} {as' : Array Value} {QQ : Option Value → Heap → List Loc → Prop} {Q : Option Value → Heap → Prop} {y : MethodName} {bytes' : ByteArray} {maxL' : Nat} {ret' : Option FieldType} (w1 : (Cond.methodLink own i y).before a0 Z = true) (w2 : (Cond.static y).before a0 Z = true) (w3 : (Cond.initialized y.cls).before a0 Z = true) (w4 : (Cond.code y bytes' maxL' ret').before a0 Z = true) (hy : y.cls ≠ "java/lang/invoke/MethodHandle" ∧ y.cls ≠ "java/lang/invoke/VarHandle") (B : ∀ (hZ : Z.Warmed39 s.vm), Back l R p e below s args y 3 W (fun A a => a = as' ∧ A.U.heap = h ∧ A.cells + kc ≤ R.cells ∧ A.slots + ks ≤ R.slots) (fun A _ v B => ∃ L, QQ v B.U.heap L ∧ B.locs = A.locs ++ L ∧ B.cells = A.cells + kc ∧ B.slots = A.slots + ks)) (hQ : ∀ v h' L, QQ v h' L → Q v h' ∧ Fr n0 L ∧ Old Z n0 h') (hsz : Ls.size = maxL) (hlen : ∀ sig, parseMethodDescriptor y.desc = some sig → argsL.length = sig.parameters.length) (hs : st = argsL.reverse ++ rest) (hW : (rest.map fun v => v.category).sum = W) (hd : decode bytes pc = .ok (.invokestatic i, 3)) (hp : pc' = pc + 3) (ha : argsL.toArray = as') (ec : cells' = cells + kc) (es : slots' = slots + ks) (hc : cells' ≤ R.cells) (hl : slots' ≤ R.slots)
    (k : ∀ v T' h', own_At G p l e R s m args below meth c Z n0 own nm bytes maxL ret T' h' cells' slots' → Q v h' → G T' (mkF m pc' Ls (v.toList ++ rest))) : G T (mkF m pc Ls st) := by
  obtain ⟨hG, ⟨c1, c2, hZ, hown, c5, c6⟩, L, X, N, eT, O⟩ := X
  subst hp ec es ha hs
  obtain ⟨v, vm₁, ⟨T', L', k', n'⟩, -, X', ⟨Lc, hq, l', y', z'⟩, st'⟩ := Jvm.LawKit.callS X c1 hown (mvT hZ w1) (mvT hZ w2) (mvT hZ w3) (mvT hZ w4) hy (B hZ) (g := mkF m pc Ls (argsL.reverse ++ rest)) rfl (hsz.trans c5.symm) hlen rfl (by show 2 * 0 + _ ≤ _; rw [hW]; omega) (hb c2 hd) (fun _ _ => ⟨rfl, eT, hc, hl⟩)
  dsimp only [Pt.U, Pt.locs, Pt.cells, Pt.slots] at X' l' y' z' st' hq
  subst l' y' z'
  obtain ⟨q1, q2, q3⟩ := hQ _ _ _ hq
  exact hG _ _ _ _ st' (k _ _ _ ⟨hG, ⟨c1, c2, hZ, hown, c5, c6⟩, _, X', Fr.app N q2, rfl, q3⟩ q1)
theorem own_callI (X : own_At G p l e R s m args below meth c Z n0 own nm bytes maxL ret T h cells slots) {pc pc' cells' slots' : Nat} {Ls : Array Slot} {st argsL rest : List Value} {i kc ks W : Nat} {as' : Array Value} {QQ : Option Value → Heap → List Loc → Prop} {Q : Option Value → Heap → Prop} {y : MethodName} {bytes' : ByteArray} {maxL' : Nat} {a : Addr} (w1 : (Cond.methodLink own i y).before a0 Z = true) (w2 : (Cond.instanceMethod y).before a0 Z = true) (w4 : (Cond.code y bytes' maxL' none).before a0 Z = true) (hy0 : y.name = "<init>") (hy : y.cls ≠ "java/lang/invoke/MethodHandle" ∧ y.cls ≠ "java/lang/invoke/VarHandle") (B : ∀ (hZ : Z.Warmed39 s.vm), Back l R p e below s args y 3 W (fun A a => a = as' ∧ A.U.heap = h ∧ A.cells + kc ≤ R.cells ∧ A.slots + ks ≤ R.slots) (fun A _ v B => ∃ L, QQ v B.U.heap L ∧ B.locs = A.locs ++ L ∧ B.cells = A.cells + kc ∧ B.slots = A.slots + ks)) (hQ : ∀ v h' L, QQ v h' L → Q v h' ∧ Fr n0 L ∧ Old Z n0 h') (hsz : Ls.size = maxL) (hlen : ∀ sig, parseMethodDescriptor y.desc = some sig → argsL.length = sig.parameters.length) (hs : st = argsL.reverse ++ Value.ref a :: rest) (hW : (rest.map fun v => v.category).sum = W) (hd : decode bytes pc = .ok (.invokespecial i, 3)) (hp : pc' = pc + 3) (ha : (Value.ref a :: argsL).toArray = as') (ec : cells' = cells + kc) (es : slots' = slots + ks) (hc : cells' ≤ R.cells) (hl : slots' ≤ R.slots)
    (k : ∀ v T' h', own_At G p l e R s m args below meth c Z n0 own nm bytes maxL ret T' h' cells' slots' → Q v h' → G T' (mkF m pc' Ls (v.toList ++ rest))) : G T (mkF m pc Ls st) := by
  obtain ⟨hG, ⟨c1, c2, hZ, hown, c5, c6⟩, L, X, N, eT, O⟩ := X
  subst hp ec es ha hs
  obtain ⟨v, vm₁, ⟨T', L', k', n'⟩, -, X', ⟨Lc, hq, l', y', z'⟩, st'⟩ := Jvm.LawKit.callI X c1 hown hy0 (mvT hZ w1) (mvT hZ w2) (mvT hZ w4) hy (B hZ) (g := mkF m pc Ls (argsL.reverse ++ Value.ref a :: rest)) rfl (hsz.trans c5.symm) hlen rfl (by show 2 * 0 + _ ≤ _; rw [hW]; omega) (hb c2 hd) (fun _ _ => ⟨rfl, eT, hc, hl⟩)
  dsimp only [Pt.U, Pt.locs, Pt.cells, Pt.slots] at X' l' y' z' st' hq
  subst l' y' z'
  obtain ⟨q1, q2, q3⟩ := hQ _ _ _ hq
  exact hG _ _ _ _ st' (k _ _ _ ⟨hG, ⟨c1, c2, hZ, hown, c5, c6⟩, _, X', Fr.app N q2, rfl, q3⟩ q1)
theorem own_callV (X : own_At G p l e R s m args below meth c Z n0 own nm bytes maxL ret T h cells slots) {pc pc' cells' slots' : Nat} {Ls : Array Slot} {st argsL rest : List Value} {i kc ks W : Nat} {as' : Array Value} {QQ : Option Value → Heap → List Loc → Prop} {Q : Option Value → Heap → Prop} {y z : MethodName} {C : String} {a : Addr} (w1 : (Cond.methodLink own i y).before a0 Z = true) (w2 : (Cond.declares y).before a0 Z = true) (nf : ∀ s' : State, Z.Warmed39 s'.vm → NotFace s' y) (w3 : (Cond.selects C y z).before a0 Z = true) (w4 : (Cond.instanceMethod z).before a0 Z = true) (hy : y.cls ≠ "java/lang/invoke/MethodHandle" ∧ y.cls ≠ "java/lang/invoke/VarHandle") (E : Exa Z h a C) (B : ∀ (hZ : Z.Warmed39 s.vm), Back l R p e below s args z 3 W (fun A a => a = as' ∧ A.U.heap = h ∧ A.cells + kc ≤ R.cells ∧ A.slots + ks ≤ R.slots) (fun A _ v B => ∃ L, QQ v B.U.heap L ∧ B.locs = A.locs ++ L ∧ B.cells = A.cells + kc ∧ B.slots = A.slots + ks)) (hQ : ∀ v h' L, QQ v h' L → Q v h' ∧ Fr n0 L ∧ Old Z n0 h') (hsz : Ls.size = maxL) (hlen : ∀ sig, parseMethodDescriptor y.desc = some sig → argsL.length = sig.parameters.length) (hs : st = argsL.reverse ++ Value.ref a :: rest) (hW : (rest.map fun v => v.category).sum = W) (hd : decode bytes pc = .ok (.invokevirtual i, 3)) (hp : pc' = pc + 3) (ha : (Value.ref a :: argsL).toArray = as') (ec : cells' = cells + kc) (es : slots' = slots + ks) (hc : cells' ≤ R.cells) (hl : slots' ≤ R.slots)
    (k : ∀ v T' h', own_At G p l e R s m args below meth c Z n0 own nm bytes maxL ret T' h' cells' slots' → Q v h' → G T' (mkF m pc' Ls (v.toList ++ rest))) : G T (mkF m pc Ls st) := by
  obtain ⟨hG, ⟨c1, c2, hZ, hown, c5, c6⟩, L, X, N, eT, O⟩ := X
  subst hp ec es ha hs
  obtain ⟨v, vm₁, ⟨T', L', k', n'⟩, -, X', ⟨Lc, hq, l', y', z'⟩, st'⟩ := (have ⟨_, _, q1, _, q3⟩ := isOf hZ eT E; X.virtualBack c1 hown (mvT hZ w1) (mvT hZ w2) (nf s hZ) (mvT hZ w3) (mvT hZ w4) hy (B hZ) q1 q3 (g := mkF m pc Ls (argsL.reverse ++ Value.ref a :: rest)) rfl (hsz.trans c5.symm) (Steps.refl _) hlen rfl (by show 2 * 0 + _ ≤ _; rw [hW]; omega) (hb c2 hd) (fun _ _ => ⟨rfl, eT, hc, hl⟩))
  dsimp only [Pt.U, Pt.locs, Pt.cells, Pt.slots] at X' l' y' z' st' hq
  subst l' y' z'
  obtain ⟨q1, q2, q3⟩ := hQ _ _ _ hq
  exact hG _ _ _ _ (fun t q => st'.trans q) (k _ _ _ ⟨hG, ⟨c1, c2, hZ, hown, c5, c6⟩, _, X', Fr.app N q2, rfl, q3⟩ q1)
theorem own_callF (X : own_At G p l e R s m args below meth c Z n0 own nm bytes maxL ret T h cells slots) {pc pc' cells' slots' : Nat} {Ls : Array Slot} {st argsL rest : List Value} {i kc ks W : Nat} {as' : Array Value} {QQ : Option Value → Heap → List Loc → Prop} {Q : Option Value → Heap → Prop} {y z : MethodName} {C : String} {a : Addr} {cnt : Nat} (w1 : (Cond.methodLink own i y).before a0 Z = true) (w2 : (Cond.declares y).before a0 Z = true) (wf : ∀ (s' : State) (a' : Array Value), Z.Warmed39 s'.vm → (Cond.interfaceMethod y.cls y.cls y.name y.desc).before a' s' = true) (w3 : (Cond.selects C y z).before a0 Z = true) (w4 : (Cond.instanceMethod z).before a0 Z = true) (w5 : (Cond.publicMethod z).before a0 Z = true) (w6 : (Cond.unhidden C y.name y.desc).before a0 Z = true) (w7 : (Cond.castable C y.cls).before a0 Z = true) (hy : y.cls ≠ "java/lang/invoke/MethodHandle" ∧ y.cls ≠ "java/lang/invoke/VarHandle") (E : Exa Z h a C) (B : ∀ (hZ : Z.Warmed39 s.vm), Back l R p e below s args z 5 W (fun A a => a = as' ∧ A.U.heap = h ∧ A.cells + kc ≤ R.cells ∧ A.slots + ks ≤ R.slots) (fun A _ v B => ∃ L, QQ v B.U.heap L ∧ B.locs = A.locs ++ L ∧ B.cells = A.cells + kc ∧ B.slots = A.slots + ks)) (hQ : ∀ v h' L, QQ v h' L → Q v h' ∧ Fr n0 L ∧ Old Z n0 h') (hsz : Ls.size = maxL) (hlen : ∀ sig, parseMethodDescriptor y.desc = some sig → argsL.length = sig.parameters.length) (hs : st = argsL.reverse ++ Value.ref a :: rest) (hW : (rest.map fun v => v.category).sum = W) (hd : decode bytes pc = .ok (.invokeinterface i cnt, 5)) (hp : pc' = pc + 5) (ha : (Value.ref a :: argsL).toArray = as') (ec : cells' = cells + kc) (es : slots' = slots + ks) (hc : cells' ≤ R.cells) (hl : slots' ≤ R.slots)
    (k : ∀ v T' h', own_At G p l e R s m args below meth c Z n0 own nm bytes maxL ret T' h' cells' slots' → Q v h' → G T' (mkF m pc' Ls (v.toList ++ rest))) : G T (mkF m pc Ls st) := by
  obtain ⟨hG, ⟨c1, c2, hZ, hown, c5, c6⟩, L, X, N, eT, O⟩ := X
  subst hp ec es ha hs
  obtain ⟨v, vm₁, ⟨T', L', k', n'⟩, -, X', ⟨Lc, hq, l', y', z'⟩, st'⟩ := (have ⟨_, _, q1, q2, q3⟩ := isOf hZ eT E; X.interfaceBack c1 hown (mvT hZ w1) (mvT hZ w2) (wf s args hZ) (mvT hZ w3) (mvT hZ w4) (mvT hZ w5) (mvT hZ w6) (mvT hZ w7) hy (B hZ) q1 q2 q3 (g := mkF m pc Ls (argsL.reverse ++ Value.ref a :: rest)) rfl (hsz.trans c5.symm) (Steps.refl _) hlen rfl (by show 2 * 0 + _ ≤ _; rw [hW]; omega) (hb c2 hd) (fun _ _ => ⟨rfl, eT, hc, hl⟩))
  dsimp only [Pt.U, Pt.locs, Pt.cells, Pt.slots] at X' l' y' z' st' hq
  subst l' y' z'
  obtain ⟨q1, q2, q3⟩ := hQ _ _ _ hq
  exact hG _ _ _ _ (fun t q => st'.trans q) (k _ _ _ ⟨hG, ⟨c1, c2, hZ, hown, c5, c6⟩, _, X', Fr.app N q2, rfl, q3⟩ q1)
theorem own_callSM (X : own_At G p l e R s m args below meth c Z n0 own nm bytes maxL ret T h cells slots) {pc pc' cells' slots' : Nat} {Ls : Array Slot} {st argsL rest : List Value} {i W : Nat} {as' : Array Value} {Q : Option Value → Heap → Prop} {rm : Room} {y : MethodName} {bytes' : ByteArray} {maxL' : Nat} {ret' : Option FieldType} (w1 : (Cond.methodLink own i y).before a0 Z = true) (w2 : (Cond.static y).before a0 Z = true) (hy : y.cls ≠ "java/lang/invoke/MethodHandle" ∧ y.cls ≠ "java/lang/invoke/VarHandle") (M : own_Met l Z n0 y bytes' maxL' ret' rm as' h Q) (wc : (Jvm.Cond.code y bytes' maxL' ret').before a0 Z = true) (wz : (Jvm.Cond.initialized y.cls).before a0 Z = true) (hf : rm.frames + 1 ≤ R.frames) (hlo : W + (maxL' + 11) + rm.locals ≤ R.locals) (hsz : Ls.size = maxL) (hlen : ∀ sig, parseMethodDescriptor y.desc = some sig → argsL.length = sig.parameters.length) (hs : st = argsL.reverse ++ rest) (hW : (rest.map fun v => v.category).sum = W) (hd : decode bytes pc = .ok (.invokestatic i, 3)) (hp : pc' = pc + 3) (ha : argsL.toArray = as') (ec : cells' = cells + rm.cells) (es : slots' = slots + rm.slots) (hc : cells' ≤ R.cells) (hl : slots' ≤ R.slots)
    (k : ∀ v T' h', own_At G p l e R s m args below meth c Z n0 own nm bytes maxL ret T' h' cells' slots' → Q v h' → G T' (mkF m pc' Ls (v.toList ++ rest))) : G T (mkF m pc Ls st) :=
  own_callS (QQ := fun v h' L => Q v h' ∧ Fr n0 L ∧ Old Z n0 h') (kc := rm.cells) (ks := rm.slots) X w1 w2 wz wc hy (fun hZ => own_back M hZ wc wz hf hlo) (fun _ _ _ q => q) hsz hlen hs hW hd hp ha ec es hc hl k
theorem own_callIM (X : own_At G p l e R s m args below meth c Z n0 own nm bytes maxL ret T h cells slots) {pc pc' cells' slots' : Nat} {Ls : Array Slot} {st argsL rest : List Value} {i W : Nat} {as' : Array Value} {Q : Option Value → Heap → Prop} {rm : Room} {y : MethodName} {bytes' : ByteArray} {maxL' : Nat} {a : Addr} (w1 : (Cond.methodLink own i y).before a0 Z = true) (w2 : (Cond.instanceMethod y).before a0 Z = true) (hy0 : y.name = "<init>") (hy : y.cls ≠ "java/lang/invoke/MethodHandle" ∧ y.cls ≠ "java/lang/invoke/VarHandle") (M : own_Met l Z n0 y bytes' maxL' none rm as' h Q) (wc : (Jvm.Cond.code y bytes' maxL' none).before a0 Z = true) (wz : (Jvm.Cond.initialized y.cls).before a0 Z = true) (hf : rm.frames + 1 ≤ R.frames) (hlo : W + (maxL' + 11) + rm.locals ≤ R.locals) (hsz : Ls.size = maxL) (hlen : ∀ sig, parseMethodDescriptor y.desc = some sig → argsL.length = sig.parameters.length) (hs : st = argsL.reverse ++ Value.ref a :: rest) (hW : (rest.map fun v => v.category).sum = W) (hd : decode bytes pc = .ok (.invokespecial i, 3)) (hp : pc' = pc + 3) (ha : (Value.ref a :: argsL).toArray = as') (ec : cells' = cells + rm.cells) (es : slots' = slots + rm.slots) (hc : cells' ≤ R.cells) (hl : slots' ≤ R.slots)
    (k : ∀ v T' h', own_At G p l e R s m args below meth c Z n0 own nm bytes maxL ret T' h' cells' slots' → Q v h' → G T' (mkF m pc' Ls (v.toList ++ rest))) : G T (mkF m pc Ls st) :=
  own_callI (QQ := fun v h' L => Q v h' ∧ Fr n0 L ∧ Old Z n0 h') (kc := rm.cells) (ks := rm.slots) X w1 w2 wc hy0 hy (fun hZ => own_back M hZ wc wz hf hlo) (fun _ _ _ q => q) hsz hlen hs hW hd hp ha ec es hc hl k
theorem own_callVM (X : own_At G p l e R s m args below meth c Z n0 own nm bytes maxL ret T h cells slots) {pc pc' cells' slots' : Nat} {Ls : Array Slot} {st argsL rest : List Value} {i W : Nat} {as' : Array Value} {Q : Option Value → Heap → Prop} {rm : Room} {y z : MethodName} {C : String} {a : Addr} {bytes' : ByteArray} {maxL' : Nat} {ret' : Option FieldType} (w1 : (Cond.methodLink own i y).before a0 Z = true) (w2 : (Cond.declares y).before a0 Z = true) (nf : ∀ s' : State, Z.Warmed39 s'.vm → NotFace s' y) (w3 : (Cond.selects C y z).before a0 Z = true) (w4 : (Cond.instanceMethod z).before a0 Z = true) (hy : y.cls ≠ "java/lang/invoke/MethodHandle" ∧ y.cls ≠ "java/lang/invoke/VarHandle") (E : Exa Z h a C) (M : own_Met l Z n0 z bytes' maxL' ret' rm as' h Q) (wc : (Jvm.Cond.code z bytes' maxL' ret').before a0 Z = true) (wz : (Jvm.Cond.initialized z.cls).before a0 Z = true) (hf : rm.frames + 1 ≤ R.frames) (hlo : W + (maxL' + 11) + rm.locals ≤ R.locals) (hsz : Ls.size = maxL) (hlen : ∀ sig, parseMethodDescriptor y.desc = some sig → argsL.length = sig.parameters.length) (hs : st = argsL.reverse ++ Value.ref a :: rest) (hW : (rest.map fun v => v.category).sum = W) (hd : decode bytes pc = .ok (.invokevirtual i, 3)) (hp : pc' = pc + 3) (ha : (Value.ref a :: argsL).toArray = as') (ec : cells' = cells + rm.cells) (es : slots' = slots + rm.slots) (hc : cells' ≤ R.cells) (hl : slots' ≤ R.slots)
    (k : ∀ v T' h', own_At G p l e R s m args below meth c Z n0 own nm bytes maxL ret T' h' cells' slots' → Q v h' → G T' (mkF m pc' Ls (v.toList ++ rest))) : G T (mkF m pc Ls st) :=
  own_callV (QQ := fun v h' L => Q v h' ∧ Fr n0 L ∧ Old Z n0 h') (kc := rm.cells) (ks := rm.slots) X w1 w2 nf w3 w4 hy E (fun hZ => own_back M hZ wc wz hf hlo) (fun _ _ _ q => q) hsz hlen hs hW hd hp ha ec es hc hl k
theorem own_callFM (X : own_At G p l e R s m args below meth c Z n0 own nm bytes maxL ret T h cells slots) {pc pc' cells' slots' : Nat} {Ls : Array Slot} {st argsL rest : List Value} {i W : Nat} {as' : Array Value} {Q : Option Value → Heap → Prop} {rm : Room} {y z : MethodName} {C : String} {a : Addr} {cnt : Nat} {bytes' : ByteArray} {maxL' : Nat} {ret' : Option FieldType} (w1 : (Cond.methodLink own i y).before a0 Z = true) (w2 : (Cond.declares y).before a0 Z = true) (wf : ∀ (s' : State) (a' : Array Value), Z.Warmed39 s'.vm → (Cond.interfaceMethod y.cls y.cls y.name y.desc).before a' s' = true) (w3 : (Cond.selects C y z).before a0 Z = true) (w4 : (Cond.instanceMethod z).before a0 Z = true) (w5 : (Cond.publicMethod z).before a0 Z = true) (w6 : (Cond.unhidden C y.name y.desc).before a0 Z = true) (w7 : (Cond.castable C y.cls).before a0 Z = true) (hy : y.cls ≠ "java/lang/invoke/MethodHandle" ∧ y.cls ≠ "java/lang/invoke/VarHandle") (E : Exa Z h a C) (M : own_Met l Z n0 z bytes' maxL' ret' rm as' h Q) (wc : (Jvm.Cond.code z bytes' maxL' ret').before a0 Z = true) (wz : (Jvm.Cond.initialized z.cls).before a0 Z = true) (hf : rm.frames + 1 ≤ R.frames) (hlo : W + (maxL' + 11) + rm.locals ≤ R.locals) (hsz : Ls.size = maxL) (hlen : ∀ sig, parseMethodDescriptor y.desc = some sig → argsL.length = sig.parameters.length) (hs : st = argsL.reverse ++ Value.ref a :: rest) (hW : (rest.map fun v => v.category).sum = W) (hd : decode bytes pc = .ok (.invokeinterface i cnt, 5)) (hp : pc' = pc + 5) (ha : (Value.ref a :: argsL).toArray = as') (ec : cells' = cells + rm.cells) (es : slots' = slots + rm.slots) (hc : cells' ≤ R.cells) (hl : slots' ≤ R.slots)
    (k : ∀ v T' h', own_At G p l e R s m args below meth c Z n0 own nm bytes maxL ret T' h' cells' slots' → Q v h' → G T' (mkF m pc' Ls (v.toList ++ rest))) : G T (mkF m pc Ls st) :=
  own_callF (QQ := fun v h' L => Q v h' ∧ Fr n0 L ∧ Old Z n0 h') (kc := rm.cells) (ks := rm.slots) X w1 w2 wf w3 w4 w5 w6 w7 hy E (fun hZ => own_back M hZ wc wz hf hlo) (fun _ _ _ q => q) hsz hlen hs hW hd hp ha ec es hc hl k
theorem own_instY (X : own_At G p l e R s m args below meth c Z n0 own nm bytes maxL ret T h cells slots) {pc pc' : Nat} {Ls : Array Slot} {st : List Value} {i : Nat} {K : String} {a : Addr} (w : (Cond.classLink own i K).before a0 Z = true) (F : Ins Z h a K true) (hd : decode bytes pc = .ok (.instanceof i, 3)) (hp : pc' = pc + 3)
    (k : ∀ T', own_At G p l e R s m args below meth c Z n0 own nm bytes maxL ret T' h cells slots → G T' (mkF m pc' Ls (.int 1 :: st))) : G T (mkF m pc Ls (.ref a :: st)) := by
  obtain ⟨hG, ⟨c1, c2, hZ, hown, c5⟩, L, X, N, eT, O⟩ := X
  subst hp
  obtain ⟨T', X', e', st'⟩ := instY X c1 hZ hown w eT F (g := mkF m pc Ls (.ref a :: st)) rfl rfl (hb c2 hd)
  exact hG _ _ _ _ st' (k _ ⟨hG, ⟨c1, c2, hZ, hown, c5⟩, L, X', N, e', O⟩)
theorem own_castY (X : own_At G p l e R s m args below meth c Z n0 own nm bytes maxL ret T h cells slots) {pc pc' : Nat} {Ls : Array Slot} {st : List Value} {i : Nat} {K : String} {a : Addr} (w : (Cond.classLink own i K).before a0 Z = true) (F : Ins Z h a K true) (hd : decode bytes pc = .ok (.checkcast i, 3)) (hp : pc' = pc + 3)
    (k : ∀ T', own_At G p l e R s m args below meth c Z n0 own nm bytes maxL ret T' h cells slots → G T' (mkF m pc' Ls (.ref a :: st))) : G T (mkF m pc Ls (.ref a :: st)) := by
  obtain ⟨hG, ⟨c1, c2, hZ, hown, c5⟩, L, X, N, eT, O⟩ := X
  subst hp
  obtain ⟨T', X', e', st'⟩ := castY X c1 hZ hown w eT F (g := mkF m pc Ls (.ref a :: st)) rfl rfl (hb c2 hd)
  exact hG _ _ _ _ st' (k _ ⟨hG, ⟨c1, c2, hZ, hown, c5⟩, L, X', N, e', O⟩)
theorem own_instN (X : own_At G p l e R s m args below meth c Z n0 own nm bytes maxL ret T h cells slots) {pc pc' : Nat} {Ls : Array Slot} {st : List Value} {i : Nat} {K C : String} {a : Addr} (w : (Cond.classLink own i K).before a0 Z = true) (E : Exa Z h a C) (F : ∃ c t, Z.vm.findClass C = some c ∧ Z.vm.findClass K = some t ∧ Z.vm.assignable c t = false) (hd : decode bytes pc = .ok (.instanceof i, 3)) (hp : pc' = pc + 3)
    (k : ∀ T', own_At G p l e R s m args below meth c Z n0 own nm bytes maxL ret T' h cells slots → G T' (mkF m pc' Ls (.int 0 :: st))) : G T (mkF m pc Ls (.ref a :: st)) := by
  obtain ⟨hG, ⟨c1, c2, hZ, hown, c5⟩, L, X, N, eT, O⟩ := X
  subst hp
  obtain ⟨T', X', e', st'⟩ := instNo X c1 hZ hown w eT E F (g := mkF m pc Ls (.ref a :: st)) rfl rfl (hb c2 hd)
  exact hG _ _ _ _ st' (k _ ⟨hG, ⟨c1, c2, hZ, hown, c5⟩, L, X', N, e', O⟩)
theorem own_instNull (X : own_At G p l e R s m args below meth c Z n0 own nm bytes maxL ret T h cells slots) {pc pc' : Nat} {Ls : Array Slot} {st : List Value} {i : Nat} (hd : decode bytes pc = .ok (.instanceof i, 3)) (hp : pc' = pc + 3)
    (k : G T (mkF m pc' Ls (.int 0 :: st))) : G T (mkF m pc Ls (.null :: st)) := by
  obtain ⟨hG, ⟨c1, c2, hZ, hown, c5⟩, L, X, N, eT, O⟩ := X
  subst hp
  exact hG _ _ _ _ (X.instanceofNull c1 (g := mkF m pc Ls (.null :: st)) rfl rfl (hb c2 hd)) k
theorem own_castNull (X : own_At G p l e R s m args below meth c Z n0 own nm bytes maxL ret T h cells slots) {pc pc' : Nat} {Ls : Array Slot} {st : List Value} {i : Nat} (hd : decode bytes pc = .ok (.checkcast i, 3)) (hp : pc' = pc + 3)
    (k : G T (mkF m pc' Ls (.null :: st))) : G T (mkF m pc Ls (.null :: st)) := by
  obtain ⟨hG, ⟨c1, c2, hZ, hown, c5⟩, L, X, N, eT, O⟩ := X
  subst hp
  exact hG _ _ _ _ (X.checkcastNull c1 (g := mkF m pc Ls (.null :: st)) rfl rfl (hb c2 hd)) k
/-- an object of C, whose superclass S has none, is no K -/
theorem own_no {C S K : String} {n : Nat} (w : (Cond.superclass C S).before a0 Z = true) (wS : (Cond.noSuperclass S).before a0 Z = true) (wi : (Cond.instantiable K n).before a0 Z = true) (hn : C ≠ K) (hS : S ≠ K) : ∃ c t, Z.vm.findClass C = some c ∧ Z.vm.findClass K = some t ∧ Z.vm.assignable c t = false := by
  obtain ⟨t, k', g0, g2, g5, g7, -⟩ := Cond.instantiable_spec wi
  obtain ⟨c, h0⟩ := found_sup w
  obtain ⟨q, k, kp, h1, h2, h3, h4, h5, -, h7⟩ := Cond.superclass_spec h0 w
  obtain ⟨cS, kS, s1, s2, s3, -, -⟩ := Cond.noSuperclass_spec wS
  cases h1.symm.trans s1
  have ne := ids_ne h0 g0 hn
  have neS := ids_ne s1 g0 hS
  have n3 : ∀ fuel, Z.vm.isSubclassAux fuel c t = false := by
    intro fuel
    cases fuel with
    | zero => rfl
    | succ f =>
      cases f with
      | zero => simp [Vm.isSubclassAux, ne, h2, h4]
      | succ f => simp [Vm.isSubclassAux, ne, neS, h2, h4, s2, s3]
  have g7' : k'.isInterface = false := by
    cases hq : k'.isInterface with
    | false => rfl
    | true => rw [hq] at g7; cases g7
  refine ⟨c, t, h0, g0, ?_⟩
  show Z.vm.assignableAux (255 + 1) c t = false
  simp [Vm.assignableAux, ne, h2, g2, h5, g5, g7', Vm.isSubclass, n3]
end OwnKit

section OwnStr
variable {G : State → JFrame → Prop} {p : Program} {l : Launch} {e : Env} {R : Room} {s : State} {m : MethodId} {args : Array Value} {below : List Frame} {meth : Method} {c : Code} {Z : State} {n0 : Nat} {own nm : String} {bytes : ByteArray} {maxL : Nat} {ret : Option FieldType} {T : State} {h : Heap} {cells slots : Nat} {a0 : Array Value}
theorem own_a0 {P : Int32 → Prop} : ∀ x ∈ ([] : List Int32), P x := fun _ q => nomatch q
theorem own_aS {P : Int32 → Prop} {y : Int32} {L : List Int32} (q : P y) (r : ∀ x ∈ L, P x) : ∀ x ∈ y :: L, P x := fun x z => (List.mem_cons.mp z).elim (fun u => u ▸ q) (r x)
def own_CS (Z : State) : Prop := ∃ z : Int32, Sta Z Z.heap "java/lang/String" "COMPACT_STRINGS" "Z" (.int z) ∧ ¬ z = 0
def own_Str (Z : State) (h : Heap) (x t : Addr) (cs : List Int32) : Prop := Exa Z h x "java/lang/String" ∧ Fld Z h x "java/lang/String" "value" "[B" (.ref t) ∧ ∃ (kb : ClassId) (N2 : Int32) (vs : List Value) (cd : Int32), Fld Z h x "java/lang/String" "coder" "B" (.int cd) ∧ Arv Z h t kb .byte N2 vs (.int 0) ∧ StrChars.Road.CodA cs cd N2 vs ∧ (∀ c ∈ cs, ¬ c < 0 ∧ ¬ (65535 : Int32) < c) ∧ cs.length ≤ 4000
theorem own_Str.lt {x t : Addr} {cs : List Int32} (S : own_Str Z h x t cs) : x < h.size := S.1.lt
theorem own_Str.ltt {x t : Addr} {cs : List Int32} (S : own_Str Z h x t cs) : t < h.size := by obtain ⟨-, -, _, _, _, _, -, A, -⟩ := S; exact A.lt
theorem own_Str.keep {h' : Heap} {x t : Addr} {cs : List Int32} {ws : List Addr} (S : own_Str Z h x t cs) (K : Keep h h' ws) (q1 : x ∉ ws) (q2 : t ∉ ws) : own_Str Z h' x t cs := by
  obtain ⟨s1, s2, kb, N2, vs, cd, s3, s4, s5⟩ := S
  exact ⟨s1.keep K, s2.keep K q1, kb, N2, vs, cd, s3.keep K q1, s4.keep K q2, s5⟩
theorem own_nar255 (x : Int32) : nar .char (own_c16 (x &&& 255)) = x &&& 255 := by
  show (own_c16 (x &&& 255)).toUInt32.toUInt16.toUInt32.toInt32 = _
  unfold own_c16; rw [i2c_mask, i2c_mask]
theorem own_255 (x : Int32) : ¬ (x &&& 255) < 0 ∧ ¬ (255 : Int32) < (x &&& 255) := by
  have q := c_and x 255 (by decide)
  have e : (255 : Int32).toInt = 255 := by decide
  rw [Int32.lt_iff_toInt_lt, Int32.lt_iff_toInt_lt]
  rw [e] at q ⊢
  have e0 : (0 : Int32).toInt = 0 := by decide
  rw [e0]; omega
theorem own_up {cs : List Int32} (h : ∀ c ∈ cs, ¬ c < 0 ∧ ¬ (255 : Int32) < c) : ∀ c ∈ cs, ¬ c < 0 ∧ ¬ (65535 : Int32) < c := by
  intro c hc
  refine ⟨(h c hc).1, fun q => (h c hc).2 ?_⟩
  rw [Int32.lt_iff_toInt_lt] at q ⊢
  have e1 : (65535 : Int32).toInt = 65535 := by decide
  have e2 : (255 : Int32).toInt = 255 := by decide
  omega
theorem own_strinit (X : own_At G p l e R s m args below meth c Z n0 own nm bytes maxL ret T h cells slots) {pc pc' cells' slots' : Nat} {Ls : Array Slot} {rest : List Value} {i W n : Nat} {x b : Addr} {kC : ClassId} {cs : List Int32} {v0 c0 : Value} {bytes' : ByteArray} {maxL' : Nat} (hws : ∀ d ∈ StrChars.Road.words, d.before a0 Z = true) (CS : own_CS Z)
    (w1 : (Cond.methodLink own i ⟨"java/lang/String", "<init>", "([C)V"⟩).before a0 Z = true) (w2 : (Cond.instanceMethod ⟨"java/lang/String", "<init>", "([C)V"⟩).before a0 Z = true) (w4 : (Cond.code ⟨"java/lang/String", "<init>", "([C)V"⟩ bytes' maxL' none).before a0 Z = true) (wi : (Cond.instantiable "java/lang/String" 4).before a0 Z = true)
    (E : Exa Z h x "java/lang/String") (V : Fld Z h x "java/lang/String" "value" "[B" v0) (C : Fld Z h x "java/lang/String" "coder" "B" c0) (K : own_Arr Z h b kC .char (cs.map Value.int)) (hx : n0 ≤ x) (hn : cs.length = n) (l0 : 0 < n) (l2 : n ≤ 4000) (hp : ∀ c ∈ cs, ¬ c < 0 ∧ ¬ (255 : Int32) < c) (hfr : 4 ≤ R.frames) (hlo : W + 65 ≤ R.locals)
    (hlen : ∀ sig, parseMethodDescriptor "([C)V" = some sig → 1 = sig.parameters.length) (hsz : Ls.size = maxL) (hW : (rest.map fun v => v.category).sum = W) (hd : decode bytes pc = .ok (.invokespecial i, 3)) (hpc : pc' = pc + 3) (ec : cells' = cells + 1) (es : slots' = slots + n) (hc : cells' ≤ R.cells) (hl : slots' ≤ R.slots)
    (k : ∀ T' h' t, own_At G p l e R s m args below meth c Z n0 own nm bytes maxL ret T' h' cells' slots' → Keep h h' [x] → h.size ≤ t → own_Str Z h' x t cs → G T' (mkF m pc' Ls rest)) : G T (mkF m pc Ls (.ref b :: .ref x :: rest)) := by
  obtain ⟨z, S, hz⟩ := CS
  have hO := own_old X
  have hS := own_sta X S
  have h0 := own_n0 X
  refine own_callI (y := ⟨"java/lang/String", "<init>", "([C)V"⟩) (argsL := [.ref b]) (rest := rest) (a := x) (as' := #[.ref x, .ref b]) (kc := 1) (ks := n) (W := W) (Q := fun v h' => v = none ∧ Keep h h' [x] ∧ ∃ t, h.size ≤ t ∧ own_Str Z h' x t cs) X w1 w2 w4 rfl (by decide)
    (fun hZ => StrChars.Road.backV (W := W) hZ hws (kI := 4) wi (cs := cs) (bs := cs.map (fun c => c.toInt8.toInt32)) (n := n) hx h0 E V C (K.arv (d := .int 0) (N := Int32.ofNat n) (by rw [List.length_map, hn])) hS hz hn rfl l0 l2 hp rfl hfr hlo)
    (fun v h' L q => ?_) hsz hlen rfl hW hd hpc rfl ec es hc hl (fun v T' h' X' q => ?_)
  · obtain ⟨q1, q2, q3, q4, q5, t, kb, q6, q7, q8, q9, q10⟩ := q
    exact ⟨⟨q1, q3, t, q7, q4, q9, kb, _, _, 0, q5, q10, StrChars.Road.codOf hn (fun c hc => (hp c hc).2), own_up hp, by omega⟩, q2, hO.keep q3 (allS hx all0)⟩
  · obtain ⟨rfl, q1, t, q2, q3⟩ := q
    exact k T' h' t X' q1 q2 q3
end OwnStr
section OwnStr2
variable {G : State → JFrame → Prop} {p : Program} {l : Launch} {e : Env} {R : Room} {s : State} {m : MethodId} {args : Array Value} {below : List Frame} {meth : Method} {c : Code} {Z : State} {n0 : Nat} {own nm : String} {bytes : ByteArray} {maxL : Nat} {ret : Option FieldType} {T : State} {h : Heap} {cells slots : Nat} {a0 : Array Value}
def own_SF (Z : State) : Prop := ∃ v : Value, Sta Z Z.heap "jdk/internal/util/Preconditions" "SIOOBE_FORMATTER" "Ljava/util/function/BiFunction;" v ∧ v.isRef = true
end OwnStr2
set_option maxRecDepth 65536 in
theorem own_in_words : ∀ d ∈ StrChars.Road.words, d ∈ tables_1 := by decide +kernel
section OwnArr
variable {G : State → JFrame → Prop} {p : Program} {l : Launch} {e : Env} {R : Room} {s : State} {m : MethodId} {args : Array Value} {below : List Frame} {meth : Method} {c : Code} {Z : State} {n0 : Nat} {own nm : String} {bytes : ByteArray} {maxL : Nat} {ret : Option FieldType} {T : State} {h : Heap} {cells slots : Nat} {a0 : Array Value}
theorem own_newarrayE (X : own_At G p l e R s m args below meth c Z n0 own nm bytes maxL ret T h cells slots) {pc pc' cells' slots' : Nat} {Ls : Array Slot} {st : List Value} {aty : ArrayType} {ty : FieldType} {z : Int32} {n : Nat} {dv : Value} {ad : String} (w : (Cond.arrayClass ty).before a0 Z = true) (ht : newarray.typeOf aty = ty) (had : "[" ++ ty.toString = ad) (hdv : defaultValue ty = dv) (hz : z.toInt = n) (hn : n ≤ 60000000) (hd : decode bytes pc = .ok (.newarray aty, 2)) (hp : pc' = pc + 2) (ec : cells' = cells + 1) {cap : Nat} (hcap : n ≤ cap) (hbig : cap ≤ 60000000) (es : slots' = slots + cap) (hc : cells' ≤ R.cells) (hl : slots' ≤ R.slots)
    (k : ∀ T' h' a kc, a = h.size → own_At G p l e R s m args below meth c Z n0 own nm bytes maxL ret T' h' cells' slots' → Keep h h' [] → own_Arr Z h' a kc ty (List.replicate n dv) → Exa Z h' a ad → G T' (mkF m pc' Ls (.ref a :: st))) : G T (mkF m pc Ls (.int z :: st)) := by
  obtain ⟨hG, ⟨c1, c2, hZ, c5⟩, L, X, N, eT, O⟩ := X
  subst hp ec es ht hdv
  have hz0 : ¬ z < 0 := by rw [Int32.lt_iff_toInt_lt, hz]; simp
  have hzn : z.toNatClampNeg = n := by simp only [Int32.toNatClampNeg, hz]; omega
  obtain ⟨T', h', cA, X', e', E', A', F', st'⟩ := newPE X c1 hZ w eT (g := mkF m pc Ls (.int z :: st)) rfl (hb c2 hd) rfl hz0 (cap := cap) (by omega) (by omega) hc hl had
  refine hG _ _ _ _ st' (k _ _ _ cA rfl ⟨hG, ⟨c1, c2, hZ, c5⟩, _, X', N, e', O.ext E'⟩ ((Keep.refl _ _).ext E') ⟨_, A', rfl, by rw [own_newA, hzn], by simp; omega, fun v hv => ?_⟩ F')
  rw [List.eq_of_mem_replicate hv]; exact own_defit aty
theorem own_anewA (X : own_At G p l e R s m args below meth c Z n0 own nm bytes maxL ret T h cells slots) {pc pc' cells' slots' : Nat} {Ls : Array Slot} {st : List Value} {ty : FieldType} {C ad : String} {i : Nat} {z : Int32} {n : Nat} (hC : (FieldType.array ty).toString = C) (w1 : (Cond.classLink own i C).before a0 Z = true) (w2 : (Cond.arrayOver (.array ty)).before a0 Z = true) (had : "[" ++ C = ad) (hz : z.toInt = n) (hn : n ≤ 60000000) (hd : decode bytes pc = .ok (.anewarray i, 3)) (hp : pc' = pc + 3) (ec : cells' = cells + 1) {cap : Nat} (hcap : n ≤ cap) (hbig : cap ≤ 60000000) (es : slots' = slots + cap) (hc : cells' ≤ R.cells) (hl : slots' ≤ R.slots)
    (k : ∀ T' h' a kc, a = h.size → own_At G p l e R s m args below meth c Z n0 own nm bytes maxL ret T' h' cells' slots' → Keep h h' [] → own_Arr Z h' a kc (.array ty) (List.replicate n .null) → Exa Z h' a ad → OvrA Z kc ty C → G T' (mkF m pc' Ls (.ref a :: st))) : G T (mkF m pc Ls (.int z :: st)) := by
  obtain ⟨hG, ⟨c1, c2, hZ, hown, c5⟩, L, X, N, eT, O⟩ := X
  subst hp ec es
  have hz0 : ¬ z < 0 := by rw [Int32.lt_iff_toInt_lt, hz]; simp
  have hzn : z.toNatClampNeg = n := by simp only [Int32.toNatClampNeg, hz]; omega
  obtain ⟨T', h', cA, X', e', E', A', F', V', st'⟩ := newRA X c1 hZ hown hC w1 w2 eT (g := mkF m pc Ls (.int z :: st)) rfl (hb c2 hd) rfl hz0 (cap := cap) (by omega) (by omega) hc hl had
  refine hG _ _ _ _ st' (k _ _ _ cA rfl ⟨hG, ⟨c1, c2, hZ, hown, c5⟩, _, X', N, e', O.ext E'⟩ ((Keep.refl _ _).ext E') ⟨_, A', rfl, by rw [own_newA, hzn]; rfl, by simp; omega, fun v hv => ?_⟩ F' V')
  rw [List.eq_of_mem_replicate hv]; rfl
theorem own_anewR (X : own_At G p l e R s m args below meth c Z n0 own nm bytes maxL ret T h cells slots) {pc pc' cells' slots' : Nat} {Ls : Array Slot} {st : List Value} {C ad : String} {i : Nat} {z : Int32} {n : Nat} (w1 : (Cond.classLink own i C).before a0 Z = true) (w2 : (Cond.arrayOver (.object C)).before a0 Z = true) (had : "[" ++ (FieldType.object C).toString = ad) (hz : z.toInt = n) (hn : n ≤ 60000000) (hd : decode bytes pc = .ok (.anewarray i, 3)) (hp : pc' = pc + 3) (ec : cells' = cells + 1) {cap : Nat} (hcap : n ≤ cap) (hbig : cap ≤ 60000000) (es : slots' = slots + cap) (hc : cells' ≤ R.cells) (hl : slots' ≤ R.slots)
    (k : ∀ T' h' a kc, a = h.size → own_At G p l e R s m args below meth c Z n0 own nm bytes maxL ret T' h' cells' slots' → Keep h h' [] → own_Arr Z h' a kc (.object C) (List.replicate n .null) → Exa Z h' a ad → Ovr Z kc C → G T' (mkF m pc' Ls (.ref a :: st))) : G T (mkF m pc Ls (.int z :: st)) := by
  obtain ⟨hG, ⟨c1, c2, hZ, hown, c5⟩, L, X, N, eT, O⟩ := X
  subst hp ec es
  have hz0 : ¬ z < 0 := by rw [Int32.lt_iff_toInt_lt, hz]; simp
  have hzn : z.toNatClampNeg = n := by simp only [Int32.toNatClampNeg, hz]; omega
  obtain ⟨T', h', cA, X', e', E', A', F', V', st'⟩ := newRE X c1 hZ hown w1 w2 eT (g := mkF m pc Ls (.int z :: st)) rfl (hb c2 hd) rfl hz0 (cap := cap) (by omega) (by omega) hc hl had
  refine hG _ _ _ _ st' (k _ _ _ cA rfl ⟨hG, ⟨c1, c2, hZ, hown, c5⟩, _, X', N, e', O.ext E'⟩ ((Keep.refl _ _).ext E') ⟨_, A', rfl, by rw [own_newA, hzn]; rfl, by simp; omega, fun v hv => ?_⟩ F' V')
  rw [List.eq_of_mem_replicate hv]; rfl
theorem own_stoA {a y : Addr} {kc : ClassId} {t0 ty : FieldType} {vs : List Value} {C : String} (F : own_Arr Z h a kc t0 vs) (O : OvrA Z kc ty C) (I : Ins Z h y C true) : Sto Z h a (.ref y) := by
  obtain ⟨c, A, q, -⟩ := F; exact Sto.ofVA A q O I
theorem own_stoR {a y : Addr} {kc : ClassId} {t0 : FieldType} {vs : List Value} {C : String} (F : own_Arr Z h a kc t0 vs) (O : Ovr Z kc C) (I : Ins Z h y C true) : Sto Z h a (.ref y) := by
  obtain ⟨c, A, q, -⟩ := F; exact Sto.ofV A q O I
theorem own_aastore (X : own_At G p l e R s m args below meth c Z n0 own nm bytes maxL ret T h cells slots) {pc pc' : Nat} {Ls : Array Slot} {st : List Value} {a : Addr} {kc : ClassId} {ty : FieldType} {vs : List Value} {j : Int32} {i : Nat} {v : Value} (F : own_Arr Z h a kc ty vs) (hty : ty.isReference = true) (hfit : fits ty v = true) (S : Sto Z h a v) (hj : j.toInt = i) (hi : i < vs.length) (ha : n0 ≤ a) (hd : decode bytes pc = .ok (.aastore, 1)) (hp : pc' = pc + 1)
    (k : ∀ T' h', own_At G p l e R s m args below meth c Z n0 own nm bytes maxL ret T' h' cells slots → Keep h h' [a] → own_Arr Z h' a kc ty (vs.set i v) → G T' (mkF m pc' Ls st)) : G T (mkF m pc Ls (v :: .int j :: .ref a :: st)) := by
  obtain ⟨hG, ⟨c1, c2, hZ, c5⟩, L, X, N, eT, O⟩ := X
  subst hp
  have F0 := F
  obtain ⟨cl, A, r1, r2, r3, r4⟩ := F
  have hs : cl.slots.size = vs.length := by rw [← r2]; simp
  obtain ⟨q1, q2⟩ := own_idx hi r3 hj
  obtain ⟨T', h', X', e', W', st'⟩ := stR X c1 hZ eT A (j := j) (by rw [hs]; exact q1) hty S (g := mkF m pc Ls (v :: .int j :: .ref a :: st)) rfl rfl (hb c2 hd)
  have K' := Keep.of_wr W'
  have O' := O.wr W' ha
  rw [q2] at W'
  exact hG _ _ _ _ st' (k _ _ ⟨hG, ⟨c1, c2, hZ, c5⟩, _, X', Fr.snoc X' N ha, e', O'⟩ K' (F0.set W' hfit))
theorem own_range {vs : List Value} {sp n : Nat} {dv : Value} (h : sp + n ≤ vs.length) : ((List.range n).map fun i => vs.getD (sp + i) dv) = (vs.drop sp).take n := by
  apply List.ext_getElem
  · simp; omega
  · intro i h1 h2
    simp only [List.length_map, List.length_range] at h1
    simp [List.getD, List.getElem?_eq_getElem (show sp + i < vs.length by omega)]
theorem own_arraycopy (X : own_At G p l e R s m args below meth c Z n0 own nm bytes maxL ret T h cells slots) {pc pc' : Nat} {Ls : Array Slot} {st : List Value} {a b : Addr} {kc kc' : ClassId} {ty ty' : FieldType} {vs vd : List Value} {js jd jn : Int32} {sp dp n i W : Nat}
    (w1 : (Cond.methodLink own i Jvm.Stand.acN).before a0 Z = true) (w2 : (Cond.native Jvm.Stand.acN).before a0 Z = true) (w3 : (Cond.static Jvm.Stand.acN).before a0 Z = true) (w4 : (Cond.initialized "java/lang/System").before a0 Z = true)
    (A : own_Arr Z h a kc ty vs) (B : own_Arr Z h b kc' ty' vd) (hty : (ty = ty' ∧ refKind ty = false) ∨ (refKind ty = true ∧ refKind ty' = true ∧ StoL Z h b ((vs.drop sp).take n))) (e1 : js.toInt = sp) (e2 : jd.toInt = dp) (e3 : jn.toInt = n) (l1 : sp + n ≤ vs.length) (l2 : dp + n ≤ vd.length) (ha : n0 ≤ b)
    (hsz : Ls.size = maxL) (hW : (st.map fun v => v.category).sum = W) (hd : decode bytes pc = .ok (.invokestatic i, 3)) (hp : pc' = pc + 3) (hf : 1 ≤ R.frames) (hlo : W + (nativeFrameWords "java/lang/System" "arraycopy" 5 + 11) ≤ R.locals)
    (k : ∀ T' h', own_At G p l e R s m args below meth c Z n0 own nm bytes maxL ret T' h' cells slots → Keep h h' [b] → own_Arr Z h' b kc' ty' (vd.take dp ++ (vs.drop sp).take n ++ vd.drop (dp + n)) → G T' (mkF m pc' Ls st)) : G T (mkF m pc Ls (.int jn :: .int jd :: .ref b :: .int js :: .ref a :: st)) := by
  obtain ⟨hG, ⟨c1, c2, hZ, hown, c5, c6⟩, L, X, N, eT, O⟩ := X
  subst hp
  have nn : ∀ {j : Int32} {q : Nat}, j.toInt = q → ¬ j < 0 ∧ j.toNatClampNeg = q := fun {j q} hj => ⟨by rw [Int32.lt_iff_toInt_lt, hj]; simp, by simp only [Int32.toNatClampNeg, hj]; omega⟩
  have la : vs.length < 2 ^ 31 := by obtain ⟨_, -, -, -, q, -⟩ := A; exact q
  have lb : vd.length < 2 ^ 31 := by obtain ⟨_, -, -, -, q, -⟩ := B; exact q
  have za : (Int32.ofNat vs.length).toNatClampNeg = vs.length := (nn (len_toInt la)).2
  have zb : (Int32.ofNat vd.length).toNatClampNeg = vd.length := (nn (len_toInt lb)).2
  obtain ⟨T', h', L', X', e', N', K', B', st'⟩ := cpA X c1 hZ hown w1 w2 w3 w4 eT (A.arv (d := .null) rfl) (B.arv (d := .null) rfl) (us := (vs.drop sp).take n) (hty.imp id fun q => q) (sp := js) (dp := jd) (nn := jn) (nn e1).1 (nn e2).1 (nn e3).1 (by rw [(nn e1).2, (nn e3).2, za]; exact l1) (by rw [(nn e2).2, (nn e3).2, zb]; exact l2) (by rw [(nn e1).2, (nn e3).2]; exact (own_range l1).symm) (by rw [(nn e2).2, (nn e3).2]; exact l2) N ha (g := mkF m pc Ls (.int jn :: .int jd :: .ref b :: .int js :: .ref a :: st)) rfl (hsz.trans c5.symm) rfl (hb c2 hd) hf (W := W) (by show 2 * 0 + _ ≤ _; rw [hW]; omega) hlo
  rw [(nn e2).2, (nn e3).2] at B'
  refine hG _ _ _ _ st' (k _ _ ⟨hG, ⟨c1, c2, hZ, hown, c5, c6⟩, _, X', N', e', O.keep K' (allS ha all0)⟩ K' (own_Arr.of_arv B' ?_))
  rw [zb]; simp; omega
theorem own_mapL {xs : List Int64} {i : Nat} (h : i < xs.length) : (xs.map Value.long)[i]? = some (.long (xs.getD i 0)) := by simp [List.getD, List.getElem?_eq_getElem h]
theorem own_mapI {xs : List Int32} {i : Nat} (h : i < xs.length) : (xs.map Value.int)[i]? = some (.int (xs.getD i 0)) := by simp [List.getD, List.getElem?_eq_getElem h]
theorem own_setL {xs : List Int64} {i : Nat} {x : Int64} : (xs.map Value.long).set i (.long x) = (xs.set i x).map Value.long := List.map_set.symm
theorem own_setI {xs : List Int32} {i : Nat} {x : Int32} : (xs.map Value.int).set i (.int x) = (xs.set i x).map Value.int := List.map_set.symm
theorem own_laloadM (X : own_At G p l e R s m args below meth c Z n0 own nm bytes maxL ret T h cells slots) {pc pc' : Nat} {Ls : Array Slot} {st : List Value} {a : Addr} {kc : ClassId} {xs : List Int64} {j : Int32} {i : Nat} {x : Int64} (F : own_Arr Z h a kc .long (xs.map Value.long)) (hj : j.toInt = i) (hi : i < xs.length) (hx : xs.getD i 0 = x) (hd : decode bytes pc = .ok (.laload, 1)) (hp : pc' = pc + 1) (k : G T (mkF m pc' Ls (.long x :: st))) : G T (mkF m pc Ls (.int j :: .ref a :: st)) :=
  own_laload X F hj (by rw [own_mapL hi, hx]) hd hp k
theorem own_ialoadM (X : own_At G p l e R s m args below meth c Z n0 own nm bytes maxL ret T h cells slots) {pc pc' : Nat} {Ls : Array Slot} {st : List Value} {a : Addr} {kc : ClassId} {xs : List Int32} {j : Int32} {i : Nat} {x : Int32} (F : own_Arr Z h a kc .int (xs.map Value.int)) (hj : j.toInt = i) (hi : i < xs.length) (hx : xs.getD i 0 = x) (hd : decode bytes pc = .ok (.iaload, 1)) (hp : pc' = pc + 1) (k : G T (mkF m pc' Ls (.int x :: st))) : G T (mkF m pc Ls (.int j :: .ref a :: st)) :=
  own_iaload X F hj (by rw [own_mapI hi, hx]) hd hp k
theorem own_lastoreM (X : own_At G p l e R s m args below meth c Z n0 own nm bytes maxL ret T h cells slots) {pc pc' : Nat} {Ls : Array Slot} {st : List Value} {a : Addr} {kc : ClassId} {xs : List Int64} {j : Int32} {i : Nat} {x : Int64} (F : own_Arr Z h a kc .long (xs.map Value.long)) (hj : j.toInt = i) (hi : i < xs.length) (ha : n0 ≤ a) (hd : decode bytes pc = .ok (.lastore, 1)) (hp : pc' = pc + 1)
    (k : ∀ T' h', own_At G p l e R s m args below meth c Z n0 own nm bytes maxL ret T' h' cells slots → Keep h h' [a] → own_Arr Z h' a kc .long ((xs.set i x).map Value.long) → G T' (mkF m pc' Ls st)) : G T (mkF m pc Ls (.long x :: .int j :: .ref a :: st)) :=
  own_lastore X F hj (by simpa using hi) ha hd hp (fun T' h' X' K' A' => k T' h' X' K' (own_setL ▸ A'))
theorem own_iastoreM (X : own_At G p l e R s m args below meth c Z n0 own nm bytes maxL ret T h cells slots) {pc pc' : Nat} {Ls : Array Slot} {st : List Value} {a : Addr} {kc : ClassId} {xs : List Int32} {j : Int32} {i : Nat} {x : Int32} (F : own_Arr Z h a kc .int (xs.map Value.int)) (hj : j.toInt = i) (hi : i < xs.length) (ha : n0 ≤ a) (hd : decode bytes pc = .ok (.iastore, 1)) (hp : pc' = pc + 1)
    (k : ∀ T' h', own_At G p l e R s m args below meth c Z n0 own nm bytes maxL ret T' h' cells slots → Keep h h' [a] → own_Arr Z h' a kc .int ((xs.set i x).map Value.int) → G T' (mkF m pc' Ls st)) : G T (mkF m pc Ls (.int x :: .int j :: .ref a :: st)) :=
  own_iastore X F hj (by simpa using hi) ha hd hp (fun T' h' X' K' A' => k T' h' X' K' (own_setI ▸ A'))
theorem own_neA {a b : Addr} {C : String} {k : Nat} {kc : ClassId} {ty : FieldType} {vs : List Value} (E : Exa Z h a C) (wi : (Cond.instantiable C k).before a0 Z = true) (F : own_Arr Z h b kc ty vs) : a ≠ b := by
  obtain ⟨c, A, -⟩ := F; exact ne_arr E wi A
theorem own_neT {a b : Addr} {kc kc' : ClassId} {ty ty' : FieldType} {vs vs' : List Value} (F : own_Arr Z h a kc ty vs) (F' : own_Arr Z h b kc' ty' vs') (hn : ty ≠ ty') : a ≠ b := fun e => by
  subst e
  obtain ⟨c, A, -⟩ := F
  obtain ⟨c', A', -⟩ := F'
  cases A.1.symm.trans A'.1
  obtain ⟨-, k, h1, comp, h2⟩ := A.2.1
  obtain ⟨-, k', g1, comp', g2⟩ := A'.2.1
  cases h1.symm.trans g1
  rw [h2] at g2; cases g2; exact hn rfl
theorem own_dup_x2 (X : own_At G p l e R s m args below meth c Z n0 own nm bytes maxL ret T h cells slots) {pc pc' : Nat} {Ls : Array Slot} {st : List Value} {x y z : Value} (hd : decode bytes pc = .ok (.dup_x2, 1)) (hp : pc' = pc + 1) (hc : x.category = 1) (hc2 : y.category = 1) (hc3 : z.category = 1) (k : G T (mkF m pc' Ls (x :: y :: z :: x :: st))) : G T (mkF m pc Ls (x :: y :: z :: st)) := by
  obtain ⟨hG, ⟨c1, c2, -⟩, L, X, -⟩ := X
  subst hp
  refine hG _ _ _ _ (fun t q => ?_) k
  jvm_step X.here [X.here.top, c1, hb c2 hd, dup_x2.wp_sem, hc, hc2, hc3]
  exact q
theorem own_dup2 (X : own_At G p l e R s m args below meth c Z n0 own nm bytes maxL ret T h cells slots) {pc pc' : Nat} {Ls : Array Slot} {st : List Value} {x y : Value} (hd : decode bytes pc = .ok (.dup2, 1)) (hp : pc' = pc + 1) (hc : x.category = 1) (hc2 : y.category = 1) (k : G T (mkF m pc' Ls (x :: y :: x :: y :: st))) : G T (mkF m pc Ls (x :: y :: st)) := by
  obtain ⟨hG, ⟨c1, c2, -⟩, L, X, -⟩ := X
  subst hp
  exact hG _ _ _ _ (fun t q => Jvm.Free.XT.dup2 X.here c1 rfl (hb c2 hd) rfl hc hc2 q) k
end OwnArr
section OwnObj
variable {G : State → JFrame → Prop} {p : Program} {l : Launch} {e : Env} {R : Room} {s : State} {m : MethodId} {args : Array Value} {below : List Frame} {meth : Method} {c : Code} {Z : State} {n0 : Nat} {own nm : String} {bytes : ByteArray} {maxL : Nat} {ret : Option FieldType} {T : State} {h : Heap} {cells slots : Nat} {a0 : Array Value}
theorem own_tsw (X : own_At G p l e R s m args below meth c Z n0 own nm bytes maxL ret T h cells slots) {pc pc' : Nat} {Ls : Array Slot} {st : List Value} {dflt low high o : Int} {offs : Array Int} {len : Nat} {i : Int32} (hd : decode bytes pc = .ok (.tableswitch dflt low high offs, len)) (hin : ¬ (i.toInt < low ∨ i.toInt > high)) (hoff : offs[(i.toInt - low).toNat]? = some o) (ho : 0 ≤ (pc : Int) + o) (hp : ((pc : Int) + o).toNat = pc') (k : G T (mkF m pc' Ls st)) : G T (mkF m pc Ls (.int i :: st)) := by
  obtain ⟨hG, ⟨c1, c2, -⟩, L, X, -⟩ := X
  exact hG _ _ _ _ (fun t q => XS.tswIn X.here c1 rfl rfl (hb c2 hd) rfl hin hoff ho hp q) k
theorem own_tswD (X : own_At G p l e R s m args below meth c Z n0 own nm bytes maxL ret T h cells slots) {pc pc' : Nat} {Ls : Array Slot} {st : List Value} {dflt low high : Int} {offs : Array Int} {len : Nat} {i : Int32} (hd : decode bytes pc = .ok (.tableswitch dflt low high offs, len)) (hout : i.toInt < low ∨ i.toInt > high) (ho : 0 ≤ (pc : Int) + dflt) (hp : ((pc : Int) + dflt).toNat = pc') (k : G T (mkF m pc' Ls st)) : G T (mkF m pc Ls (.int i :: st)) := by
  obtain ⟨hG, ⟨c1, c2, -⟩, L, X, -⟩ := X
  exact hG _ _ _ _ (fun t q => XS.tswOut X.here c1 rfl rfl (hb c2 hd) rfl hout ho hp q) k
def own_Mir (Z : State) (C : String) (mr : Addr) : Prop := ∃ (c : ClassId) (k : Class), Z.vm.findClass C = some c ∧ Z.vm.classes[c]? = some k ∧ k.mirror = some mr
theorem own_gcls (X : own_At G p l e R s m args below meth c Z n0 own nm bytes maxL ret T h cells slots) {pc pc' W i : Nat} {Ls : Array Slot} {st : List Value} {C : String} {a mr : Addr} (w1 : (Cond.methodLink own i ⟨"java/lang/Object", "getClass", "()Ljava/lang/Class;"⟩).before a0 Z = true) (w2 : (Cond.declares ⟨"java/lang/Object", "getClass", "()Ljava/lang/Class;"⟩).before a0 Z = true) (w3 : (Cond.noSuperclass "java/lang/Object").before a0 Z = true) (w4 : (Cond.selects C ⟨"java/lang/Object", "getClass", "()Ljava/lang/Class;"⟩ ⟨"java/lang/Object", "getClass", "()Ljava/lang/Class;"⟩).before a0 Z = true) (w5 : (Cond.instanceMethod ⟨"java/lang/Object", "getClass", "()Ljava/lang/Class;"⟩).before a0 Z = true) (w6 : (Cond.native ⟨"java/lang/Object", "getClass", "()Ljava/lang/Class;"⟩).before a0 Z = true) (E : Exa Z h a C) (M : own_Mir Z C mr) (hsz : Ls.size = maxL) (hd : decode bytes pc = .ok (.invokevirtual i, 3)) (hp : pc' = pc + 3) (hf : 1 ≤ R.frames) (hW : (st.map fun v => v.category).sum = W) (hl : W + (nativeFrameWords "java/lang/Object" "getClass" 1 + 11) ≤ R.locals)
    (k : ∀ T', own_At G p l e R s m args below meth c Z n0 own nm bytes maxL ret T' h cells slots → G T' (mkF m pc' Ls (.ref mr :: st))) : G T (mkF m pc Ls (.ref a :: st)) := by
  obtain ⟨hG, ⟨c1, c2, hZ, hown, c5, c6⟩, L, X, N, eT, O⟩ := X
  subst hp
  obtain ⟨cB, kB, i1, i2, i3⟩ := isOf hZ eT E
  obtain ⟨cc, kc, m1, m2, m3⟩ := M
  rw [hZ.alike.findClass] at i1
  cases i1.symm.trans m1
  obtain ⟨k', q, ek⟩ := hZ.alike.2.2 _ _ m2
  obtain ⟨vm', X', st'⟩ := X.getClassOf c1 hown (mvT hZ w1) (mvT hZ w2) (nf_top (args := #[]) (mvT hZ w3)) (mvT hZ w4) (mvT hZ w5) (mvT hZ w6) (by rw [hZ.alike.findClass]; exact m1) i3 q (by rw [ek]; exact m3) (g := mkF m pc Ls (.ref a :: st)) rfl (hsz.trans c5.symm) rfl (hb c2 hd) hf (by show 2 * 0 + _ + _ ≤ _; rw [hW]; omega)
  exact hG _ _ _ _ st' (k _ ⟨hG, ⟨c1, c2, hZ, hown, c5, c6⟩, L, X', N, eT, O⟩)
theorem own_mvFO {r o n d : String} (hZ : Z.Warmed39 s.vm) (h : (Cond.interfaceMethod r o n d).before a0 Z = true) : (Cond.interfaceMethod r o n d).before args s = true := by
  have h1 : (Cond.interfaceMethod r o n d).before a0 (Z.setVm s.vm) = true := by
    simp only [Cond.before, Cond.holds, Cond.value, State.vm_setVm, hZ.alike.findClass, State.methodFound?_setVm hZ.alike, State.methodNamed?_setVm hZ.alike, arm_isInterface_setVm hZ.alike] at h ⊢; exact h
  exact h1
theorem own_gclsI (X : own_At G p l e R s m args below meth c Z n0 own nm bytes maxL ret T h cells slots) {pc pc' W i cnt : Nat} {Ls : Array Slot} {st : List Value} {C : String} {a mr : Addr} {xi : MethodName} (w1 : (Cond.methodLink own i xi).before a0 Z = true) (w2 : (Cond.declares ⟨"java/lang/Object", "getClass", "()Ljava/lang/Class;"⟩).before a0 Z = true) (wf : ∀ (s' : State) (a' : Array Value), Z.Warmed39 s'.vm → (Cond.interfaceMethod xi.cls "java/lang/Object" xi.name xi.desc).before a' s' = true) (w4 : (Cond.selects C xi ⟨"java/lang/Object", "getClass", "()Ljava/lang/Class;"⟩).before a0 Z = true) (w5 : (Cond.instanceMethod ⟨"java/lang/Object", "getClass", "()Ljava/lang/Class;"⟩).before a0 Z = true) (w6 : (Cond.publicMethod ⟨"java/lang/Object", "getClass", "()Ljava/lang/Class;"⟩).before a0 Z = true) (w7 : (Cond.unhidden C xi.name xi.desc).before a0 Z = true) (w8 : (Cond.castable C xi.cls).before a0 Z = true) (w9 : (Cond.native ⟨"java/lang/Object", "getClass", "()Ljava/lang/Class;"⟩).before a0 Z = true) (hx : xi.cls ≠ "java/lang/invoke/MethodHandle" ∧ xi.cls ≠ "java/lang/invoke/VarHandle") (hxo : xi.cls ≠ "java/lang/Object") (hn : xi.name = "getClass") (hde : xi.desc = "()Ljava/lang/Class;") (E : Exa Z h a C) (M : own_Mir Z C mr) (hsz : Ls.size = maxL) (hd : decode bytes pc = .ok (.invokeinterface i cnt, 5)) (hp : pc' = pc + 5) (hf : 1 ≤ R.frames) (hW : (st.map fun v => v.category).sum = W) (hl : W + (nativeFrameWords "java/lang/Object" "getClass" 1 + 11) ≤ R.locals)
    (k : ∀ T', own_At G p l e R s m args below meth c Z n0 own nm bytes maxL ret T' h cells slots → G T' (mkF m pc' Ls (.ref mr :: st))) : G T (mkF m pc Ls (.ref a :: st)) := by
  obtain ⟨hG, ⟨c1, c2, hZ, hown, c5, c6⟩, L, X, N, eT, O⟩ := X
  subst hp
  obtain ⟨cB, kB, i1, i2, i3⟩ := isOf hZ eT E
  obtain ⟨cc, kc, m1, m2, m3⟩ := M
  have i1' := i1
  rw [hZ.alike.findClass] at i1'
  cases i1'.symm.trans m1
  obtain ⟨k', q, ek⟩ := hZ.alike.2.2 _ _ m2
  cases i2.symm.trans q
  obtain ⟨vm', X', st'⟩ := X.getClassOfI c1 hown (mvT hZ w1) (mvT hZ w2) (wf s args hZ) (mvT hZ w4) (mvT hZ w5) (mvT hZ w6) (mvT hZ w7) (mvT hZ w8) (mvT hZ w9) hx hxo hn hde i1 i2 i3 (mir := mr) (by rw [ek]; exact m3) (g := mkF m pc Ls (.ref a :: st)) rfl (hsz.trans c5.symm) rfl (hb c2 hd) hf (by show 2 * 0 + _ + _ ≤ _; rw [hW]; omega)
  exact hG _ _ _ _ st' (k _ ⟨hG, ⟨c1, c2, hZ, hown, c5, c6⟩, L, X', N, eT, O⟩)
theorem own_ldcC (X : own_At G p l e R s m args below meth c Z n0 own nm bytes maxL ret T h cells slots) {pc pc' i : Nat} {Ls : Array Slot} {st : List Value} {C : String} {mr : Addr} (w : (Cond.classLink own i C).before a0 Z = true) (M : own_Mir Z C mr) (hd : decode bytes pc = .ok (.ldc i, 2)) (hp : pc' = pc + 2)
    (k : ∀ T', own_At G p l e R s m args below meth c Z n0 own nm bytes maxL ret T' h cells slots → G T' (mkF m pc' Ls (.ref mr :: st))) : G T (mkF m pc Ls st) := by
  obtain ⟨hG, ⟨c1, c2, hZ, hown, c5, c6⟩, L, X, N, eT, O⟩ := X
  subst hp
  obtain ⟨cc, kc, m1, m2, m3⟩ := M
  obtain ⟨k', q, ek⟩ := hZ.alike.2.2 _ _ m2
  have f1 : s.vm.findClass C = some cc := by rw [hZ.alike.findClass]; exact m1
  have f3 : k'.mirror = some mr := by rw [ek]; exact m3
  obtain ⟨vm', X', st'⟩ := X.ldcMirror c1 hown (mv hZ w) (a := mr) (by simp only [Term.eval, f1, q, f3, Option.bind_eq_bind, Option.bind_some, Option.pure_def]) (g := mkF m pc Ls st) rfl (hb c2 hd)
  exact hG _ _ _ _ st' (k _ ⟨hG, ⟨c1, c2, hZ, hown, c5, c6⟩, L, X', N, eT, O⟩)
/-- the classes above C, up to the top -/
def own_Up (Z : State) (C : String) (L : List String) : Prop := ∃ c, Z.vm.findClass C = some c ∧ ∀ (K : String) (t : ClassId), Z.vm.findClass K = some t → C ≠ K → K ∉ L → ∀ fuel, Z.vm.isSubclassAux fuel c t = false
theorem own_Up.top {C : String} (w : (Cond.noSuperclass C).before a0 Z = true) : own_Up Z C [] := by
  obtain ⟨cS, kS, s1, s2, s3, -, -⟩ := Cond.noSuperclass_spec w
  refine ⟨cS, s1, fun K t hK hn _ fuel => ?_⟩
  have ne := ids_ne s1 hK hn
  cases fuel with
  | zero => rfl
  | succ f => simp [Vm.isSubclassAux, ne, s2, s3]
theorem own_Up.step {C S : String} {L : List String} (w : (Cond.superclass C S).before a0 Z = true) (U : own_Up Z S L) : own_Up Z C (S :: L) := by
  obtain ⟨q, hq, hU⟩ := U
  obtain ⟨c, h0⟩ := found_sup w
  obtain ⟨q', k, kp, h1, h2, h3, h4, h5, -, h7⟩ := Cond.superclass_spec h0 w
  cases h1.symm.trans hq
  refine ⟨c, h0, fun K t hK hn hL fuel => ?_⟩
  have ne := ids_ne h0 hK hn
  cases fuel with
  | zero => rfl
  | succ f =>
    have := hU K t hK (fun e => hL (by rw [← e]; exact List.mem_cons_self ..)) (fun e => hL (List.mem_cons_of_mem _ e)) f
    simp [Vm.isSubclassAux, ne, h2, h4, this]
theorem own_Up.no {C K S : String} {L : List String} {n : Nat} (U : own_Up Z C L) (w : (Cond.superclass C S).before a0 Z = true) (wi : (Cond.instantiable K n).before a0 Z = true) (hn : C ≠ K) (hL : K ∉ L) : ∃ c t, Z.vm.findClass C = some c ∧ Z.vm.findClass K = some t ∧ Z.vm.assignable c t = false := by
  obtain ⟨c, h0, hU⟩ := U
  obtain ⟨t, k', g0, g2, g5, g7, -⟩ := Cond.instantiable_spec wi
  obtain ⟨q, k, kp, h1, h2, h3, h4, h5, -, h7⟩ := Cond.superclass_spec h0 w
  have ne := ids_ne h0 g0 hn
  have n3 := hU K t g0 hn hL
  have g7' : k'.isInterface = false := by
    cases hq : k'.isInterface with
    | false => rfl
    | true => rw [hq] at g7; cases g7
  refine ⟨c, t, h0, g0, ?_⟩
  show Z.vm.assignableAux (255 + 1) c t = false
  simp [Vm.assignableAux, ne, h2, g2, h5, g5, g7', Vm.isSubclass, n3]
theorem own_oldK (O : Old Z n0 h) : Keep Z.heap h [] := (Keep.refl _ _).ext O.2
theorem own_callPM (X : own_At G p l e R s m args below meth c Z n0 own nm bytes maxL ret T h cells slots) {pc pc' cells' slots' : Nat} {Ls : Array Slot} {st argsL rest : List Value} {i W : Nat} {as' : Array Value} {Q : Option Value → Heap → Prop} {rm : Room} {y : MethodName} {a : Addr} {C : String} {ki : Nat} {bytes' : ByteArray} {maxL' : Nat} {ret' : Option FieldType} (w1 : (Cond.methodLink own i y).before a0 Z = true) (w2 : (Cond.instanceMethod y).before a0 Z = true) (w3 : (Cond.privateMethod y).before a0 Z = true) (wi : (Cond.instantiable y.cls ki).before a0 Z = true) (hy : y.cls ≠ "java/lang/invoke/MethodHandle" ∧ y.cls ≠ "java/lang/invoke/VarHandle") (E : Exa Z h a C) (M : own_Met l Z n0 y bytes' maxL' ret' rm as' h Q) (wc : (Jvm.Cond.code y bytes' maxL' ret').before a0 Z = true) (wz : (Jvm.Cond.initialized y.cls).before a0 Z = true) (hf : rm.frames + 1 ≤ R.frames) (hlo : W + (maxL' + 11) + rm.locals ≤ R.locals) (hsz : Ls.size = maxL) (hlen : ∀ sig, parseMethodDescriptor y.desc = some sig → argsL.length = sig.parameters.length) (hs : st = argsL.reverse ++ Value.ref a :: rest) (hW : (rest.map fun v => v.category).sum = W) (hd : decode bytes pc = .ok (.invokevirtual i, 3)) (hp : pc' = pc + 3) (ha : (Value.ref a :: argsL).toArray = as') (ec : cells' = cells + rm.cells) (es : slots' = slots + rm.slots) (hc : cells' ≤ R.cells) (hl : slots' ≤ R.slots)
    (k : ∀ v T' h', own_At G p l e R s m args below meth c Z n0 own nm bytes maxL ret T' h' cells' slots' → Q v h' → G T' (mkF m pc' Ls (v.toList ++ rest))) : G T (mkF m pc Ls st) := by
  obtain ⟨hG, ⟨c1, c2, hZ, hown, c5, c6⟩, L, X, N, eT, O⟩ := X
  subst hp ec es ha hs
  obtain ⟨cell, hcell, hobj⟩ := E.cell
  obtain ⟨mk, methM, hnamed, hmethM, hstM, habM⟩ := Cond.instanceMethod_spec (mvT (args := args) hZ w2)
  obtain ⟨methM', cM, hmethM', -, -, -, -, -, -, hsigM⟩ := Cond.code_spec hnamed (mvT (args := args) hZ wc)
  cases hmethM.symm.trans hmethM'
  obtain ⟨ci, kP, hfI, hkP, -, hflag, -⟩ := Cond.instantiable_spec (mvT (args := args) hZ wi)
  cases (findClass_of_methodNamed hnamed).symm.trans hfI
  have hkPi : kP.isInterface = false := by
    cases hq : kP.isInterface with
    | false => rfl
    | true => rw [hq] at hflag; cases hflag
  have hselP : selectMethod e.platform s.vm cell.cls mk = .method mk := selectMethod_private hmethM (Cond.privateMethod_at (mvP (args := args) hZ w3) mk methM hnamed hmethM)
  obtain ⟨vm₁, X₁, hstep₁⟩ := X.invokevirtual c1 hown (mvT hZ w1) hnamed hmethM hstM hkP hkPi hy (a := a) (cell := cell) (by rw [eT]; exact hcell) hobj hselP hmethM habM hkP hkPi (g := mkF m pc Ls (argsL.reverse ++ Value.ref a :: rest)) rfl (argsL := argsL) (rest := rest) (hlen _ hsigM) rfl (hb c2 hd)
  obtain ⟨v, ⟨T', L', k', n'⟩, X', ⟨Lc, hq, l', y', z'⟩, hsteps⟩ := own_back M hZ wc wz hf hlo m meth c ⟨T.setVm vm₁, L, cells, slots⟩ { mkF m pc Ls (argsL.reverse ++ Value.ref a :: rest) with stack := rest } (.invokevirtual i) mk (.ref a :: argsL).toArray X₁ rfl (hsz.trans c5.symm) (hb c2 hd) (by show 2 * 0 + _ ≤ _; rw [hW]; omega) (X₁.named hnamed) ⟨rfl, eT, hc, hl⟩
  dsimp only [Pt.U, Pt.locs, Pt.cells, Pt.slots] at X' l' y' z' hsteps hq
  subst l' y' z'
  obtain ⟨q1, q2, q3⟩ := hq
  exact hG _ _ _ _ (fun t q => hstep₁ _ fun acts => by rw [doInvoke_state]; exact hsteps.trans q) (k _ _ _ ⟨hG, ⟨c1, c2, hZ, hown, c5, c6⟩, _, X', Fr.app N q2, rfl, q3⟩ q1)
theorem own_getSN (X : own_At G p l e R s m args below meth c Z n0 own nm bytes maxL ret T h cells slots) {pc pc' : Nat} {Ls : Array Slot} {st : List Value} {i : Nat} {R0 n d host : String} {v : Value} (w : (Cond.fieldLinkNest own i R0 n d host).before a0 Z = true) (F : Sta Z h R0 n d v) (hd : decode bytes pc = .ok (.getstatic i, 3)) (hp : pc' = pc + 3)
    (k : ∀ T', own_At G p l e R s m args below meth c Z n0 own nm bytes maxL ret T' h cells slots → G T' (mkF m pc' Ls (v :: st))) : G T (mkF m pc Ls st) := by
  obtain ⟨hG, ⟨c1, c2, hZ, hown, c5⟩, L, X, N, eT, O⟩ := X
  subst hp
  obtain ⟨cf, i', kk, f, sa, cell, h1, h2, h3, h4, h5, h6, h7⟩ := F
  obtain ⟨k', hi, ek⟩ := State.fieldFound?_setVm (s := Z) hZ.alike h1
  obtain ⟨vm', X', stp⟩ := X.getstaticNest c1 hown (mvN hZ w) hi h2 (by rw [ek]; exact h3) (a₁ := sa) (by rw [ek]; exact h4) (by rw [eT]; exact h5) (fun q => by rw [q] at h6; cases h6) h7 (g := mkF m pc Ls st) rfl (hb c2 hd)
  exact hG _ _ _ _ stp (k _ ⟨hG, ⟨c1, c2, hZ, hown, c5⟩, L, X', N, eT, O⟩)
theorem own_mvMN {y : MethodName} {host : String} {i : Nat} (hZ : Z.Warmed39 s.vm) (w : (Cond.methodLinkNest own i y host).before a0 Z = true) : (Cond.methodLinkNest own i y host).before args s = true := (Cond.methodLinkNest_wide hZ w :)
theorem own_callINM (X : own_At G p l e R s m args below meth c Z n0 own nm bytes maxL ret T h cells slots) {pc pc' cells' slots' : Nat} {Ls : Array Slot} {st argsL rest : List Value} {i W : Nat} {as' : Array Value} {Q : Option Value → Heap → Prop} {rm : Room}  {y : MethodName} {host : String} {a : Addr} {bytes' : ByteArray} {maxL' : Nat} (w1 : (Cond.methodLinkNest own i y host).before a0 Z = true) (w2 : (Cond.instanceMethod y).before a0 Z = true) (hy0 : y.name = "<init>") (hy : y.cls ≠ "java/lang/invoke/MethodHandle" ∧ y.cls ≠ "java/lang/invoke/VarHandle") (M : own_Met l Z  n0 y bytes' maxL' none rm as' h Q)  (wc : (Jvm.Cond.code y bytes' maxL' none).before a0 Z = true) (wz : (Jvm.Cond.initialized y.cls).before a0 Z = true) (hf : rm.frames + 1 ≤ R.frames) (hlo : W + (maxL' + 11) + rm.locals ≤ R.locals) (hsz : Ls.size = maxL) (hlen : ∀ sig, parseMethodDescriptor y.desc = some sig → argsL.length = sig.parameters.length) (hs : st = argsL.reverse ++ Value.ref a :: rest) (hW : (rest.map fun v => v.category).sum = W) (hd : decode bytes pc = .ok (.invokespecial i, 3)) (hp : pc' = pc + 3) (ha : (Value.ref a :: argsL).toArray = as') (ec : cells' = cells + rm.cells) (es : slots' = slots + rm.slots) (hc : cells' ≤ R.cells) (hl : slots' ≤ R.slots)
    (k : ∀ v T' h', own_At G p l e R s m args below meth c Z n0 own nm bytes maxL ret T' h' cells' slots' → Q v h' → G T' (mkF m pc' Ls (v.toList ++ rest))) : G T (mkF m pc Ls st) := by
  obtain ⟨hG, ⟨c1, c2, hZ, hown, c5, c6⟩, L, X, N, eT, O⟩ := X
  subst hp ec es ha hs
  obtain ⟨v, vm₁, ⟨T', L', k', n'⟩, -, X', ⟨Lc, hq, l', y', z'⟩, st'⟩ := X.specialBackNest c1 hy0 hown (own_mvMN hZ w1) (mvT hZ w2) (mvT hZ wc) hy (own_back M hZ wc wz hf hlo) (g := mkF m pc Ls (argsL.reverse ++ Value.ref a :: rest)) rfl (hsz.trans c5.symm) (Steps.refl _) hlen rfl (by show 2 * 0 + _ ≤ _; rw [hW]; omega) (hb c2 hd) (fun _ _ => ⟨rfl, eT, hc, hl⟩)
  dsimp only [Pt.U, Pt.locs, Pt.cells, Pt.slots] at X' l' y' z' st' hq
  subst l' y' z'
  obtain ⟨q1, q2, q3⟩ := hq
  exact hG _ _ _ _ (fun t q => st'.trans q) (k _ _ _ ⟨hG, ⟨c1, c2, hZ, hown, c5, c6⟩, _, X', Fr.app N q2, rfl, q3⟩ q1)
end OwnObj
section OwnIL
variable {G : State → JFrame → Prop} {p : Program} {l : Launch} {e : Env} {R : Room} {s : State} {m : MethodId} {args : Array Value} {below : List Frame} {meth : Method} {c : Code} {Z : State} {n0 : Nat} {own nm : String} {bytes : ByteArray} {maxL : Nat} {ret : Option FieldType} {T : State} {h : Heap} {cells slots : Nat} {a0 : Array Value}
def own_IC (l : Launch) (Z : State) (a0 : Array Value) (n0 : Nat) (y : MethodName) (a : Addr) (argsL : List Value) (h : Heap) (mx : Nat) (rm : Room) (Q : Option Value → Heap → Prop) : Prop := ∃ (z : MethodName) (C : String) (b : ByteArray) (ml : Nat) (r : Option FieldType) (rm' : Room), (Cond.selects C y z).before a0 Z = true ∧ (Cond.instanceMethod z).before a0 Z = true ∧ (Cond.publicMethod z).before a0 Z = true ∧ (Cond.unhidden C y.name y.desc).before a0 Z = true ∧ (Cond.castable C y.cls).before a0 Z = true ∧ Exa Z h a C ∧ own_Met l Z n0 z b ml r rm' (Value.ref a :: argsL).toArray h Q ∧ (Cond.code z b ml r).before a0 Z = true ∧ (Cond.initialized z.cls).before a0 Z = true ∧ ml ≤ mx ∧ rm'.frames ≤ rm.frames ∧ rm'.cells ≤ rm.cells ∧ rm'.slots ≤ rm.slots ∧ rm'.locals ≤ rm.locals
theorem own_IC.mono {y : MethodName} {a : Addr} {argsL : List Value} {mx mx' : Nat} {rm rm' : Room} {Q : Option Value → Heap → Prop} (I : own_IC l Z a0 n0 y a argsL h mx rm Q) (h0 : mx ≤ mx') (h1 : rm.frames ≤ rm'.frames) (h2 : rm.cells ≤ rm'.cells) (h3 : rm.slots ≤ rm'.slots) (h4 : rm.locals ≤ rm'.locals) : own_IC l Z a0 n0 y a argsL h mx' rm' Q := by
  obtain ⟨z, C, b, ml, r, ra, s1, s2, s3, s4, s5, E, M, wc, wz, hm, q1, q2, q3, q4⟩ := I
  exact ⟨z, C, b, ml, r, ra, s1, s2, s3, s4, s5, E, M, wc, wz, by omega, by omega, by omega, by omega, by omega⟩
theorem own_callIC (X : own_At G p l e R s m args below meth c Z n0 own nm bytes maxL ret T h cells slots) {pc pc' cells' slots' : Nat} {Ls : Array Slot} {st argsL rest : List Value} {i W mx : Nat} {as' : Array Value} {Q : Option Value → Heap → Prop} {rm : Room} {y : MethodName} {a : Addr} {cnt : Nat} (w1 : (Cond.methodLink own i y).before a0 Z = true) (w2 : (Cond.declares y).before a0 Z = true) (wf : ∀ (s' : State) (a' : Array Value), Z.Warmed39 s'.vm → (Cond.interfaceMethod y.cls y.cls y.name y.desc).before a' s' = true) (hy : y.cls ≠ "java/lang/invoke/MethodHandle" ∧ y.cls ≠ "java/lang/invoke/VarHandle") (I : own_IC l Z a0 n0 y a argsL h mx rm Q) (hf : rm.frames + 1 ≤ R.frames) (hlo : W + (mx + 11) + rm.locals ≤ R.locals) (hsz : Ls.size = maxL) (hlen : ∀ sig, parseMethodDescriptor y.desc = some sig → argsL.length = sig.parameters.length) (hs : st = argsL.reverse ++ Value.ref a :: rest) (hW : (rest.map fun v => v.category).sum = W) (hd : decode bytes pc = .ok (.invokeinterface i cnt, 5)) (hp : pc' = pc + 5) (ha : (Value.ref a :: argsL).toArray = as') (ec : cells' = cells + rm.cells) (es : slots' = slots + rm.slots) (hc : cells' ≤ R.cells) (hl : slots' ≤ R.slots)
    (k : ∀ v T' h', own_At G p l e R s m args below meth c Z n0 own nm bytes maxL ret T' h' cells' slots' → Q v h' → G T' (mkF m pc' Ls (v.toList ++ rest))) : G T (mkF m pc Ls st) := by
  obtain ⟨z, C, b, ml, r, ra, s1, s2, s3, s4, s5, E, M, wc, wz, hm, q1, q2, q3, q4⟩ := I
  subst ha
  exact own_callFM (cells' := cells + ra.cells) (slots' := slots + ra.slots) X w1 w2 wf s1 s2 s3 s4 s5 hy E M wc wz (by omega) (by omega) hsz hlen hs hW hd hp rfl rfl rfl (by omega) (by omega) (fun v T' h' X' q => k v T' h' (own_mono X' (by omega) (by omega)) q)
def own_Ob (a0 : Array Value) (Z : State) (h : Heap) (x : Addr) : Prop := ∃ C : String, Exa Z h x C ∧ (Cond.castable C "java/lang/Object").before a0 Z = true
theorem own_Ob.keep {h' : Heap} {ws : List Addr} {x : Addr} (F : own_Ob a0 Z h x) (K : Keep h h' ws) : own_Ob a0 Z h' x := by obtain ⟨C, a, b⟩ := F; exact ⟨C, a.keep K, b⟩
theorem own_Ob.ins {x : Addr} (F : own_Ob a0 Z h x) : Ins Z h x "java/lang/Object" true := by obtain ⟨C, a, b⟩ := F; exact Ins.of_exa a b
theorem own_Ob.lt {x : Addr} (F : own_Ob a0 Z h x) : x < h.size := by obtain ⟨C, a, b⟩ := F; exact a.lt
def own_NV (Z : State) (h : Heap) (v : Value) : Prop := v = .null ∨ ∃ x : Addr, v = .ref x ∧ Exa Z h x "java/lang/String"
theorem own_NV.keep {h' : Heap} {ws : List Addr} {v : Value} (F : own_NV Z h v) (K : Keep h h' ws) : own_NV Z h' v := F.imp id fun ⟨x, a, b⟩ => ⟨x, a, b.keep K⟩
theorem own_NV.ref {v : Value} (F : own_NV Z h v) : v.isRef = true := by rcases F with rfl | ⟨x, rfl, _⟩ <;> rfl
theorem own_narR {v : Value} {C : String} (F : v.isRef = true) : narrow (.object C) v = v := by cases v <;> first | rfl | cases F
def own_or (v w : Value) : Value := match v with | .null => w | v => v
def own_LI : List String := ["java/util/ImmutableCollections$List12", "java/util/ImmutableCollections$ListN", "[Ljava/lang/Object;", "java/util/ArrayList"]
def own_LA : List String := "com/example/topf/topf/core/AppendedList" :: own_LI
def own_far (Ls : List String) (Z : State) (h : Heap) (w : Addr) : Prop := ∃ K : String, Exa Z h w K ∧ Ls.contains K = false
theorem own_far_mk {Ls : List String} {w : Addr} {K : String} (E : Exa Z h w K) (q : Ls.contains K = false) : own_far Ls Z h w := ⟨K, E, q⟩
theorem own_farA {ws : List Addr} (H : ∀ w ∈ ws, own_far own_LA Z h w) : ∀ w ∈ ws, own_far own_LI Z h w := fun w m => by
  obtain ⟨K, E, q⟩ := H w m
  exact ⟨K, E, by simp only [own_LA, List.contains_cons, Bool.or_eq_false_iff] at q; exact q.2⟩
theorem own_farN {Ls : List String} {ws : List Addr} {a : Addr} {K : String} (H : ∀ w ∈ ws, own_far Ls Z h w) (E : Exa Z h a K) (q : Ls.contains K = true) : a ∉ ws := fun m => by
  obtain ⟨K', E', q'⟩ := H a m
  exact Exa.ne E E' (fun e => by rw [e, q'] at q; cases q) rfl
def own_IL (Z : State) (h : Heap) (em ey ct : Addr) (xs : List Addr) : Prop := match xs with
  | [] => em = ct
  | [x0] => Exa Z h ct "java/util/ImmutableCollections$List12" ∧ Fld Z h ct "java/util/ImmutableCollections$List12" "e0" "Ljava/lang/Object;" (.ref x0) ∧ Fld Z h ct "java/util/ImmutableCollections$List12" "e1" "Ljava/lang/Object;" (.ref ey)
  | [x0, x1] => (Exa Z h ct "java/util/ImmutableCollections$List12" ∧ Fld Z h ct "java/util/ImmutableCollections$List12" "e0" "Ljava/lang/Object;" (.ref x0) ∧ Fld Z h ct "java/util/ImmutableCollections$List12" "e1" "Ljava/lang/Object;" (.ref x1)) ∧ x1 ≠ ey
  | [x0, x1, x2] => ∃ (q : Addr) (kq : ClassId), (Exa Z h ct "java/util/ImmutableCollections$ListN" ∧ Fld Z h ct "java/util/ImmutableCollections$ListN" "elements" "[Ljava/lang/Object;" (.ref q) ∧ Fld Z h ct "java/util/ImmutableCollections$ListN" "allowNulls" "Z" (.int 0)) ∧ own_Arr Z h q kq (.object "java/lang/Object") [.ref x0, .ref x1, .ref x2] ∧ Exa Z h q "[Ljava/lang/Object;"
  | _ => False
theorem own_IL0 {em ey : Addr} : own_IL Z h em ey em [] := rfl
theorem own_IL1 {em ey ct x0 : Addr} (a : Exa Z h ct "java/util/ImmutableCollections$List12" ∧ Fld Z h ct "java/util/ImmutableCollections$List12" "e0" "Ljava/lang/Object;" (.ref x0) ∧ Fld Z h ct "java/util/ImmutableCollections$List12" "e1" "Ljava/lang/Object;" (.ref ey)) : own_IL Z h em ey ct [x0] := a
theorem own_IL2 {em ey ct x0 x1 : Addr} (a : Exa Z h ct "java/util/ImmutableCollections$List12" ∧ Fld Z h ct "java/util/ImmutableCollections$List12" "e0" "Ljava/lang/Object;" (.ref x0) ∧ Fld Z h ct "java/util/ImmutableCollections$List12" "e1" "Ljava/lang/Object;" (.ref x1)) (b : x1 ≠ ey) : own_IL Z h em ey ct [x0, x1] := ⟨a, b⟩
theorem own_IL3 {em ey ct x0 x1 x2 q : Addr} {kq : ClassId} (a : Exa Z h ct "java/util/ImmutableCollections$ListN" ∧ Fld Z h ct "java/util/ImmutableCollections$ListN" "elements" "[Ljava/lang/Object;" (.ref q) ∧ Fld Z h ct "java/util/ImmutableCollections$ListN" "allowNulls" "Z" (.int 0)) (b : own_Arr Z h q kq (.object "java/lang/Object") [.ref x0, .ref x1, .ref x2]) (d : Exa Z h q "[Ljava/lang/Object;") : own_IL Z h em ey ct [x0, x1, x2] := ⟨q, kq, a, b, d⟩
theorem own_l3 {xs : List Addr} (h : xs.length ≤ 3) : xs = [] ∨ (∃ x0, xs = [x0]) ∨ (∃ x0 x1, xs = [x0, x1]) ∨ ∃ x0 x1 x2, xs = [x0, x1, x2] := by
  match xs, h with
  | [], _ => exact Or.inl rfl
  | [x0], _ => exact Or.inr (Or.inl ⟨x0, rfl⟩)
  | [x0, x1], _ => exact Or.inr (Or.inr (Or.inl ⟨x0, x1, rfl⟩))
  | [x0, x1, x2], _ => exact Or.inr (Or.inr (Or.inr ⟨x0, x1, x2, rfl⟩))
  | _ :: _ :: _ :: _ :: _, h => exact absurd h (by simp)
theorem own_IL.len {em ey ct : Addr} {xs : List Addr} (I : own_IL Z h em ey ct xs) : xs.length ≤ 3 := by
  match xs, I with
  | [], _ => decide
  | [x0], _ => simp
  | [x0, x1], _ => simp
  | [x0, x1, x2], _ => simp
  | _ :: _ :: _ :: _ :: _, I => exact I.elim
theorem own_IL.keep {h' : Heap} {ws : List Addr} {em ey ct : Addr} {xs : List Addr} (I : own_IL Z h em ey ct xs) (K : Keep h h' ws) (H : ∀ w ∈ ws, own_far own_LI Z h w) : own_IL Z h' em ey ct xs := by
  match xs, I with
  | [], I => exact I
  | [x0], ⟨a1, a2, a3⟩ => exact ⟨a1.keep K, a2.keep K (own_farN H a1 (by decide)), a3.keep K (own_farN H a1 (by decide))⟩
  | [x0, x1], ⟨⟨a1, a2, a3⟩, b⟩ => exact ⟨⟨a1.keep K, a2.keep K (own_farN H a1 (by decide)), a3.keep K (own_farN H a1 (by decide))⟩, b⟩
  | [x0, x1, x2], ⟨q, kq, ⟨a1, a2, a3⟩, b, d⟩ => exact ⟨q, kq, ⟨a1.keep K, a2.keep K (own_farN H a1 (by decide)), a3.keep K (own_farN H a1 (by decide))⟩, b.keep K (own_farN H d (by decide)), d.keep K⟩
  | _ :: _ :: _ :: _ :: _, I => exact I.elim
def own_AT (Z : State) (h : Heap) (a : Addr) (xs : List Addr) : Prop := ∃ (ar : Addr) (kr : ClassId), Exa Z h a "java/util/ArrayList" ∧ Fld Z h a "java/util/ArrayList" "elementData" "[Ljava/lang/Object;" (.ref ar) ∧ Fld Z h a "java/util/ArrayList" "size" "I" (.int (Int32.ofNat xs.length)) ∧ (xs = [] ∨ (own_Arr Z h ar kr (.object "java/lang/Object") (xs.map Value.ref ++ List.replicate (10 - xs.length) .null) ∧ Exa Z h ar "[Ljava/lang/Object;"))
theorem own_AT.keep {h' : Heap} {ws : List Addr} {a : Addr} {xs : List Addr} (I : own_AT Z h a xs) (K : Keep h h' ws) (H : ∀ w ∈ ws, own_far own_LI Z h w) : own_AT Z h' a xs := by
  obtain ⟨ar, kr, a1, a2, a3, a4⟩ := I
  have n := own_farN H a1 (by decide)
  exact ⟨ar, kr, a1.keep K, a2.keep K n, a3.keep K n, a4.imp id fun q => ⟨q.1.keep K (own_farN H q.2 (by decide)), q.2.keep K⟩⟩
def own_AG (Z : State) (h : Heap) (a : Addr) (xs : List Addr) : Prop := ∃ (ar : Addr) (kr : ClassId), Exa Z h a "java/util/ArrayList" ∧ Fld Z h a "java/util/ArrayList" "elementData" "[Ljava/lang/Object;" (.ref ar) ∧ Fld Z h a "java/util/ArrayList" "size" "I" (.int (Int32.ofNat xs.length)) ∧ own_Arr Z h ar kr (.object "java/lang/Object") (xs.map Value.ref)
def own_A1 (Z : State) (h : Heap) (em ey a : Addr) (xs : List Addr) : Prop := ∃ ct : Addr, (Exa Z h a "com/example/topf/topf/core/AppendedList" ∧ Fld Z h a "com/example/topf/topf/core/AppendedList" "first" "Lcom/example/topf/topf/core/AppendedList;" .null ∧ Fld Z h a "com/example/topf/topf/core/AppendedList" "last" "Ljava/util/List;" (.ref ct)) ∧ own_IL Z h em ey ct xs
theorem own_A1.keep {h' : Heap} {ws : List Addr} {em ey a : Addr} {xs : List Addr} (I : own_A1 Z h em ey a xs) (K : Keep h h' ws) (H : ∀ w ∈ ws, own_far own_LA Z h w) : own_A1 Z h' em ey a xs := by
  obtain ⟨ct, ⟨a1, a2, a3⟩, b⟩ := I
  have n := own_farN H a1 (by decide)
  exact ⟨ct, ⟨a1.keep K, a2.keep K n, a3.keep K n⟩, b.keep K (own_farA H)⟩
theorem own_A1.exa {em ey a : Addr} {xs : List Addr} (I : own_A1 Z h em ey a xs) : Exa Z h a "com/example/topf/topf/core/AppendedList" := by obtain ⟨ct, ⟨a1, a2, a3⟩, b⟩ := I; exact a1
def own_A2 (Z : State) (h : Heap) (em ey a : Addr) (zs ys : List Addr) : Prop := (ys = [] ∧ own_A1 Z h em ey a zs) ∨ ∃ pp ct : Addr, ys.length ≠ 0 ∧ (Exa Z h a "com/example/topf/topf/core/AppendedList" ∧ Fld Z h a "com/example/topf/topf/core/AppendedList" "first" "Lcom/example/topf/topf/core/AppendedList;" (.ref pp) ∧ Fld Z h a "com/example/topf/topf/core/AppendedList" "last" "Ljava/util/List;" (.ref ct)) ∧ own_A1 Z h em ey pp zs ∧ own_IL Z h em ey ct ys
theorem own_A2.keep {h' : Heap} {ws : List Addr} {em ey a : Addr} {zs ys : List Addr} (I : own_A2 Z h em ey a zs ys) (K : Keep h h' ws) (H : ∀ w ∈ ws, own_far own_LA Z h w) : own_A2 Z h' em ey a zs ys := by
  rcases I with ⟨e, b⟩ | ⟨pp, ct, e, ⟨a1, a2, a3⟩, b, d⟩
  · exact Or.inl ⟨e, b.keep K H⟩
  · have n := own_farN H a1 (by decide)
    exact Or.inr ⟨pp, ct, e, ⟨a1.keep K, a2.keep K n, a3.keep K n⟩, b.keep K H, d.keep K (own_farA H)⟩
theorem own_A2.exa {em ey a : Addr} {zs ys : List Addr} (I : own_A2 Z h em ey a zs ys) : Exa Z h a "com/example/topf/topf/core/AppendedList" := by
  rcases I with ⟨e, b⟩ | ⟨pp, ct, e, ⟨a1, a2, a3⟩, b, d⟩
  · exact b.exa
  · exact a1
def own_GL (Z : State) (h : Heap) (em ey a : Addr) (xs : List Addr) : Prop := own_IL Z h em ey a xs ∨ own_AG Z h a xs ∨ ∃ g : Addr, (Exa Z h a "java/util/Collections$UnmodifiableRandomAccessList" ∧ Fld Z h a "java/util/Collections$UnmodifiableCollection" "c" "Ljava/util/Collection;" (.ref g) ∧ Fld Z h a "java/util/Collections$UnmodifiableList" "list" "Ljava/util/List;" (.ref g)) ∧ own_AG Z h g xs
theorem own_i32sub {a b : Nat} (h : b ≤ a) (ha : a < 2 ^ 31) : Int32.ofNat a - Int32.ofNat b = Int32.ofNat (a - b) := by
  apply Int32.toInt_inj.mp
  rw [Int32.toInt_sub, own_i32 ha, own_i32 (by omega), own_i32 (by omega), Int.bmod_def]
  omega
theorem own_i32add {a b : Nat} (h : a + b < 2 ^ 31) : Int32.ofNat a + Int32.ofNat b = Int32.ofNat (a + b) := by
  apply Int32.toInt_inj.mp
  rw [Int32.toInt_add, own_i32 (by omega), own_i32 (by omega), own_i32 h, Int.bmod_def]
  omega
theorem own_i32z {a : Nat} (h : a < 2 ^ 31) : Int32.ofNat a = 0 ↔ a = 0 := by
  constructor
  · intro q
    have z := congrArg Int32.toInt q
    rw [own_i32 h] at z
    exact Int.ofNat_inj.mp (z.trans (by decide))
  · rintro rfl; rfl
theorem own_stoL {b : Addr} {kc : ClassId} {t0 : FieldType} {vs : List Value} (F : own_Arr Z h b kc t0 vs) (O : Ovr Z kc "java/lang/Object") : ∀ xs : List Addr, (∀ x ∈ xs, own_Ob a0 Z h x) → StoL Z h b (xs.map Value.ref)
  | [], _ => trivial
  | x :: r, H => ⟨own_stoR F O (H x (List.mem_cons_self ..)).ins, own_stoL F O r fun y q => H y (List.mem_cons_of_mem _ q)⟩
theorem own_cat (zs ys : List Addr) : (((List.replicate (ys.length + zs.length) Value.null).take 0 ++ zs.map Value.ref ++ (List.replicate (ys.length + zs.length) Value.null).drop (0 + zs.length)).take (0 + zs.length) ++ ys.map Value.ref ++ ((List.replicate (ys.length + zs.length) Value.null).take 0 ++ zs.map Value.ref ++ (List.replicate (ys.length + zs.length) Value.null).drop (0 + zs.length)).drop (0 + zs.length + ys.length)) = (zs ++ ys).map Value.ref := by
  have h1 : (List.replicate (ys.length + zs.length) Value.null).take 0 ++ zs.map Value.ref ++ (List.replicate (ys.length + zs.length) Value.null).drop (0 + zs.length) = zs.map Value.ref ++ List.replicate ys.length Value.null := by simp
  rw [h1, Nat.zero_add, List.take_append_of_le_length (by simp), List.take_of_length_le (by simp), List.drop_eq_nil_of_le (by simp), List.append_nil, List.map_append]
theorem own_cka {zs ys : List Addr} {x : Addr} {n k i : Nat} (h : zs[i]? = some x) (hk : i < k) : (zs.take k ++ ys.take n)[i]? = some x := by
  have q : (zs.take k)[i]? = some x := by rw [List.getElem?_take, if_pos hk]; exact h
  rw [List.getElem?_append_left (by obtain ⟨q, -⟩ := List.getElem?_eq_some_iff.mp q; exact q)]; exact q
theorem own_ckb {zs ys : List Addr} {x : Addr} {n k i : Nat} (hz : k ≤ zs.length) (h : ys[i - k]? = some x) (hk : k ≤ i) (hn : i < k + n) : (zs.take k ++ ys.take n)[i]? = some x := by
  have e : (zs.take k).length = k := by rw [List.length_take]; omega
  rw [List.getElem?_append_right (by omega), e, List.getElem?_take, if_pos (by omega)]; exact h
end OwnIL
theorem own_eqv {args : Array Value} {s : State} {tm : Term} {k : Int32} (h : (Jvm.Cond.eq tm (Jvm.Term.int k)).value args s none s [] = some true) : tm.eval args s none [] s = some (.int k) := Cond.eq_int (Cond.before_iff.mpr h) rfl
theorem own_exa {args : Array Value} {s : State} {tm : Term} {K : String} (h : (Jvm.Cond.exactly tm K).before args s = true) : ∃ a, tm.eval args s none [] s = some (.ref a) ∧ Exa s s.heap a K := by
  obtain ⟨a, c, cell, k, h1, h2, h3, h4, h5, h6, h7⟩ := Cond.exactly_spec h
  exact ⟨a, h1, cell, k, h3, h6 ▸ h2, h6 ▸ h4, h5, h7⟩
theorem own_arrT {args : Array Value} {s : State} {tm : Term} {ty : FieldType} (w1 : (Jvm.Cond.arrayOf tm ty).before args s = true) (w2 : (Jvm.Cond.eq (Jvm.Term.length tm) (Jvm.Term.int (0 : Int32))).before args s = true) : ∃ (ea : Addr) (k : ClassId), tm.eval args s none [] s = some (.ref ea) ∧ own_Arr s s.heap ea k ty [] := by
  have hlen := Cond.eq_int w2 rfl
  obtain ⟨sd, SA, hev, harr, -⟩ := Term.length_spec hlen
  have h31 := Jvm.Free.SBG.length_lt hev harr hlen
  have hsz : SA.slots.size = 0 := by
    have e1 : (Jvm.Term.length tm).eval args s none [] s = some (.int (Int32.ofNat SA.slots.size)) := by simp [Term.eval] at hev ⊢; simp [hev, harr, h31]
    have h2 : Int32.ofNat SA.slots.size = Int32.ofNat 0 := by simpa using Option.some.inj (e1.symm.trans hlen)
    have := congrArg Int32.toInt h2
    rw [own_i32 h31, own_i32 (by decide)] at this; omega
  obtain ⟨cl, A⟩ := Arr.start hev (Cond.before_iff.mp w1)
  have hc : s.heap[sd]? = some SA := by
    simp only [State.arrayAt?, Option.bind_eq_bind] at harr
    cases q : s.heap[sd]? with
    | none => simp [q] at harr
    | some x => simp only [q, Option.bind_some] at harr; grind
  cases hc.symm.trans A.1
  refine ⟨sd, _, hev, SA, A, rfl, ?_, by decide, fun v hv => nomatch hv⟩
  exact List.eq_nil_of_length_eq_zero (by simpa using hsz)
theorem own_fldT {args : Array Value} {s : State} {tm : Term} {a : Addr} {K f d : String} {v : Value} (ev : tm.eval args s none [] s = some (.ref a)) (h : (Jvm.Term.field tm K f d).eval args s none [] s = some v) : Fld s s.heap a K f d v := Fld.start (by simpa [Term.eval, ev] using h)
def own_DEF (Z : State) (dd : Addr) : Prop := Sta Z Z.heap "java/util/ArrayList" "DEFAULTCAPACITY_EMPTY_ELEMENTDATA" "[Ljava/lang/Object;" (.ref dd) ∧ Exa Z Z.heap dd "[Ljava/lang/Object;" ∧ ∃ k, own_Arr Z Z.heap dd k (.object "java/lang/Object") []
theorem dd_jdk_22_method_1_0 : decode jdk_22_method_1_code 0 = .ok (.aload_n 0, 1) := by decide +kernel
theorem dd_jdk_22_method_1_1 : decode jdk_22_method_1_code 1 = .ok (.invokespecial 1, 3) := by decide +kernel
theorem dd_jdk_22_method_1_4 : decode jdk_22_method_1_code 4 = .ok (.return_, 1) := by decide +kernel
theorem pn_0 : plainName "java/util/AbstractCollection" = true := by first | (simp [plainName, overriddenIn]; done) | decide +kernel
theorem ef_own_aci (m : MethodId) (x0 : Addr) : entryFrame m #[(.ref x0)] 1 = mkF m 0 #[.val (.ref x0)] [] := by first | (simp [entryFrame, mkF, argsToLocals, Value.category]; done) | rfl
set_option maxRecDepth 65536 in
set_option maxHeartbeats 40000000 in
theorem own_aci (l : Launch) (Z : State) (a0 : Array Value) (hw : ∀ d ∈ tables_1, d.before a0 Z = true) (n0 : Nat) (a : Addr) (h0 : Heap) (O0 : Old Z n0 h0)  :
    own_Met l Z n0 (⟨"java/util/AbstractCollection", "<init>", "()V"⟩ : MethodName) jdk_22_method_1_code 1 none ({ frames := 1, cells := 0, slots := 0, locals := 12 } : Room) #[(.ref a)] h0 (fun v h => v = none ∧ h0 = h) := by
  refine own_enter (own := "java/util/AbstractCollection") (nm := "<init>") (plainFor_of_name pn_0) rfl rfl O0 ?_
  have W : ∀ (k : Nat) {d : Jvm.Cond}, tables_1[k]? = some d → d.before a0 Z = true := fun k d q => hw d (List.mem_of_getElem? q)
  intro G p e s m below meth c T0 hGe X0
  rw [ef_own_aci m a]
  refine own_aload_n (pc' := 1) X0 dd_jdk_22_method_1_0 rfl rfl rfl ?_
  refine own_initO (pc' := 4) (W := 0) X0 (W 46 rfl) (W 15 rfl) (W 16 rfl) rfl dd_jdk_22_method_1_1 rfl (by decide) rfl (by decide) ?_
  intro T1 X1
  exact own_retV X1 hGe rfl dd_jdk_22_method_1_4 (by decide) (by decide) ⟨rfl, rfl⟩
theorem dd_jdk_39_method_1_0 : decode jdk_39_method_1_code 0 = .ok (.aload_n 0, 1) := by decide +kernel
theorem dd_jdk_39_method_1_1 : decode jdk_39_method_1_code 1 = .ok (.invokespecial 1, 3) := by decide +kernel
theorem pd_0 : parseMethodDescriptor "()V" = some ⟨[], none⟩ := by decide +kernel
theorem dd_jdk_39_method_1_4 : decode jdk_39_method_1_code 4 = .ok (.aload_n 0, 1) := by decide +kernel
theorem dd_jdk_39_method_1_5 : decode jdk_39_method_1_code 5 = .ok (.iconst 0, 1) := by decide +kernel
theorem dd_jdk_39_method_1_6 : decode jdk_39_method_1_code 6 = .ok (.putfield 7, 3) := by decide +kernel
theorem dd_jdk_39_method_1_9 : decode jdk_39_method_1_code 9 = .ok (.return_, 1) := by decide +kernel
theorem pn_1 : plainName "java/util/AbstractList" = true := by first | (simp [plainName, overriddenIn]; done) | decide +kernel
theorem ef_own_abi (m : MethodId) (x0 : Addr) : entryFrame m #[(.ref x0)] 1 = mkF m 0 #[.val (.ref x0)] [] := by first | (simp [entryFrame, mkF, argsToLocals, Value.category]; done) | rfl
set_option maxRecDepth 65536 in
set_option maxHeartbeats 40000000 in
theorem own_abi (l : Launch) (Z : State) (a0 : Array Value) (hw : ∀ d ∈ tables_1, d.before a0 Z = true) (n0 : Nat) (a : Addr) (h0 : Heap) (O0 : Old Z n0 h0) (n_a : n0 ≤ a) (p_L : (Exa Z h0 a "java/util/ArrayList" ∧ Fld Z h0 a "java/util/ArrayList" "elementData" "[Ljava/lang/Object;" .null ∧ Fld Z h0 a "java/util/ArrayList" "size" "I" (.int 0) ∧ Fld Z h0 a "java/util/AbstractList" "modCount" "I" (.int 0))) :
    own_Met l Z n0 (⟨"java/util/AbstractList", "<init>", "()V"⟩ : MethodName) jdk_39_method_1_code 1 none ({ frames := 2, cells := 0, slots := 0, locals := 24 } : Room) #[(.ref a)] h0 (fun v h => v = none ∧ Keep h0 h [a] ∧ (Exa Z h a "java/util/ArrayList" ∧ Fld Z h a "java/util/ArrayList" "elementData" "[Ljava/lang/Object;" .null ∧ Fld Z h a "java/util/ArrayList" "size" "I" (.int 0) ∧ Fld Z h a "java/util/AbstractList" "modCount" "I" (.int 0))) := by
  refine own_enter (own := "java/util/AbstractList") (nm := "<init>") (plainFor_of_name pn_1) rfl rfl O0 ?_
  have W : ∀ (k : Nat) {d : Jvm.Cond}, tables_1[k]? = some d → d.before a0 Z = true := fun k d q => hw d (List.mem_of_getElem? q)
  intro G p e s m below meth c T0 hGe X0
  rw [ef_own_abi m a]
  refine own_aload_n (pc' := 1) X0 dd_jdk_39_method_1_0 rfl rfl rfl ?_
  refine own_callIM (pc' := 4) (cells' := 0) (slots' := 0) (argsL := []) (rest := []) (W := 0) (y := (⟨"java/util/AbstractCollection", "<init>", "()V"⟩ : MethodName)) (a := a) X0 (W 40 rfl) (W 41 rfl) rfl (by decide) (own_aci l Z a0 hw n0 a h0 (own_old X0) ) (W 45 rfl) (W 44 rfl) (by decide) (by decide) rfl (lenOf pd_0 rfl) rfl rfl dd_jdk_39_method_1_1 rfl rfl rfl rfl (by decide) (by decide) ?_
  intro v1 T1 h1 X1 q1
  obtain ⟨rfl, rfl⟩ := q1
  show G T1 (mkF m 4 #[.val (.ref a)] [])
  refine own_aload_n (pc' := 5) X1 dd_jdk_39_method_1_4 rfl rfl rfl ?_
  refine own_iconst (pc' := 6) X1 dd_jdk_39_method_1_5 rfl (z := (0 : Int32)) (by decide) ?_
  refine own_put (pc' := 9) X1 (host := "") (Or.inl (W 47 rfl)) Via.refl p_L.2.2.2 p_L.1 (Or.inl (W 48 rfl)) (W 29 rfl) (ty := .int) (by decide) rfl rfl n_a dd_jdk_39_method_1_6 rfl ?_
  intro T2 h2 X2 W2 K2
  have f2_ := p_L.2.2.2.same W2
  have f3 := (p_L.1.keep K2)
  have f4 := (p_L.2.1.other W2 (Or.inr (slot_ne (Or.inl (W 51 rfl)) (Or.inl (W 48 rfl)) (by decide) (t := (.array (.object "java/lang/Object"))) (t' := .int) (by decide) (by decide))))
  have f5 := (p_L.2.2.1.other W2 (Or.inr (slot_ne (Or.inl (W 64 rfl)) (Or.inl (W 48 rfl)) (by decide) (t := .int) (t' := .int) (by decide) (by decide))))
  exact own_retV X2 hGe rfl dd_jdk_39_method_1_9 (by decide) (by decide) ⟨rfl, ((Keep.refl h0 [a]).trans K2 (allS (Or.inl (List.mem_of_getElem? (i := 0) rfl)) all0)), ⟨f3, f4, f5, f2_⟩⟩
theorem dd_jdk_38_method_2_0 : decode jdk_38_method_2_code 0 = .ok (.aload_n 0, 1) := by decide +kernel
theorem dd_jdk_38_method_2_1 : decode jdk_38_method_2_code 1 = .ok (.invokespecial 1, 3) := by decide +kernel
theorem dd_jdk_38_method_2_4 : decode jdk_38_method_2_code 4 = .ok (.aload_n 0, 1) := by decide +kernel
theorem dd_jdk_38_method_2_5 : decode jdk_38_method_2_code 5 = .ok (.getstatic 39, 3) := by decide +kernel
theorem dd_jdk_38_method_2_8 : decode jdk_38_method_2_code 8 = .ok (.putfield 9, 3) := by decide +kernel
theorem dd_jdk_38_method_2_11 : decode jdk_38_method_2_code 11 = .ok (.return_, 1) := by decide +kernel
theorem pn_2 : plainName "java/util/ArrayList" = true := by first | (simp [plainName, overriddenIn]; done) | decide +kernel
theorem ef_own_ali (m : MethodId) (x0 : Addr) : entryFrame m #[(.ref x0)] 1 = mkF m 0 #[.val (.ref x0)] [] := by first | (simp [entryFrame, mkF, argsToLocals, Value.category]; done) | rfl
set_option maxRecDepth 65536 in
set_option maxHeartbeats 40000000 in
theorem own_ali (l : Launch) (Z : State) (a0 : Array Value) (hw : ∀ d ∈ tables_1, d.before a0 Z = true) (n0 : Nat) (a dd : Addr) (h0 : Heap) (O0 : Old Z n0 h0) (n_a : n0 ≤ a) (p_L : (Exa Z h0 a "java/util/ArrayList" ∧ Fld Z h0 a "java/util/ArrayList" "elementData" "[Ljava/lang/Object;" .null ∧ Fld Z h0 a "java/util/ArrayList" "size" "I" (.int 0) ∧ Fld Z h0 a "java/util/AbstractList" "modCount" "I" (.int 0))) (DE : own_DEF Z dd) :
    own_Met l Z n0 (⟨"java/util/ArrayList", "<init>", "()V"⟩ : MethodName) jdk_38_method_2_code 1 none ({ frames := 3, cells := 0, slots := 0, locals := 36 } : Room) #[(.ref a)] h0 (fun v h => v = none ∧ Keep h0 h [a] ∧ (Exa Z h a "java/util/ArrayList" ∧ Fld Z h a "java/util/ArrayList" "elementData" "[Ljava/lang/Object;" (.ref dd) ∧ Fld Z h a "java/util/ArrayList" "size" "I" (.int 0) ∧ Fld Z h a "java/util/AbstractList" "modCount" "I" (.int 0))) := by
  refine own_enter (own := "java/util/ArrayList") (nm := "<init>") (plainFor_of_name pn_2) rfl rfl O0 ?_
  have W : ∀ (k : Nat) {d : Jvm.Cond}, tables_1[k]? = some d → d.before a0 Z = true := fun k d q => hw d (List.mem_of_getElem? q)
  intro G p e s m below meth c T0 hGe X0
  rw [ef_own_ali m a]
  refine own_aload_n (pc' := 1) X0 dd_jdk_38_method_2_0 rfl rfl rfl ?_
  refine own_callIM (pc' := 4) (cells' := 0) (slots' := 0) (argsL := []) (rest := []) (W := 0) (y := (⟨"java/util/AbstractList", "<init>", "()V"⟩ : MethodName)) (a := a) X0 (W 34 rfl) (W 35 rfl) rfl (by decide) (own_abi l Z a0 hw n0 a h0 (own_old X0) n_a p_L) (W 39 rfl) (W 38 rfl) (by decide) (by decide) rfl (lenOf pd_0 rfl) rfl rfl dd_jdk_38_method_2_1 rfl rfl rfl rfl (by decide) (by decide) ?_
  intro v1 T1 h1 X1 q1
  obtain ⟨rfl, K1, P1⟩ := q1
  show G T1 (mkF m 4 #[.val (.ref a)] [])
  refine own_aload_n (pc' := 5) X1 dd_jdk_38_method_2_4 rfl rfl rfl ?_
  refine own_getS (pc' := 8) X1 (W 49 rfl) Via.refl (own_sta X1 DE.1) dd_jdk_38_method_2_5 rfl ?_
  intro T2 X2
  refine own_put (pc' := 11) X2 (host := "") (Or.inl (W 50 rfl)) Via.refl P1.2.1 P1.1 (Or.inl (W 51 rfl)) (W 29 rfl) (ty := (.array (.object "java/lang/Object"))) (by decide) rfl rfl n_a dd_jdk_38_method_2_8 rfl ?_
  intro T3 h3 X3 W3 K3
  have f3_ := P1.2.1.same W3
  have f4 := (P1.1.keep K3)
  have f5 := (P1.2.2.1.other W3 (Or.inr (slot_ne (Or.inl (W 64 rfl)) (Or.inl (W 51 rfl)) (by decide) (t := .int) (t' := (.array (.object "java/lang/Object"))) (by decide) (by decide))))
  have f6 := (P1.2.2.2.other W3 (Or.inr (slot_ne (Or.inl (W 48 rfl)) (Or.inl (W 51 rfl)) (by decide) (t := .int) (t' := (.array (.object "java/lang/Object"))) (by decide) (by decide))))
  exact own_retV X3 hGe rfl dd_jdk_38_method_2_11 (by decide) (by decide) ⟨rfl, (((Keep.refl h0 [a]).trans K1 (allS (Or.inl (List.mem_of_getElem? (i := 0) rfl)) all0)).trans K3 (allS (Or.inl (List.mem_of_getElem? (i := 0) rfl)) all0)), ⟨f4, f3_, f5, f6⟩⟩
theorem dd_jdk_29_method_65_0 : decode jdk_29_method_65_code 0 = .ok (.iload_n 0, 1) := by decide +kernel
theorem dd_jdk_29_method_65_1 : decode jdk_29_method_65_code 1 = .ok (.iload_n 1, 1) := by decide +kernel
theorem dd_jdk_29_method_65_2 : decode jdk_29_method_65_code 2 = .ok (.if_icmp .lt 7, 3) := by decide +kernel
theorem dd_jdk_29_method_65_5 : decode jdk_29_method_65_code 5 = .ok (.iload_n 0, 1) := by decide +kernel
theorem dd_jdk_29_method_65_6 : decode jdk_29_method_65_code 6 = .ok (.goto 4, 3) := by decide +kernel
theorem dd_jdk_29_method_65_10 : decode jdk_29_method_65_code 10 = .ok (.ireturn, 1) := by decide +kernel
theorem pf_3 : plainFor (⟨"java/lang/Math", "max", "(II)I"⟩ : MethodName) = true := by decide +kernel
theorem ef_own_max10 (m : MethodId) (x0 : Int32) (x1 : Int32) : entryFrame m #[(.int x0), (.int x1)] 2 = mkF m 0 #[.val (.int x0), .val (.int x1)] [] := by first | (simp [entryFrame, mkF, argsToLocals, Value.category]; done) | rfl
set_option maxRecDepth 65536 in
set_option maxHeartbeats 40000000 in
theorem own_max10 (l : Launch) (Z : State) (a0 : Array Value) (hw : ∀ d ∈ tables_1, d.before a0 Z = true) (n0 : Nat)  (h0 : Heap) (O0 : Old Z n0 h0)  :
    own_Met l Z n0 (⟨"java/lang/Math", "max", "(II)I"⟩ : MethodName) jdk_29_method_65_code 2 (some .int) ({ frames := 0, cells := 0, slots := 0, locals := 0 } : Room) #[(.int (10 : Int32)), (.int (1 : Int32))] h0 (fun v h => v = some (.int 10) ∧ h0 = h) := by
  refine own_enter (own := "java/lang/Math") (nm := "max") pf_3 rfl rfl O0 ?_
  have W : ∀ (k : Nat) {d : Jvm.Cond}, tables_1[k]? = some d → d.before a0 Z = true := fun k d q => hw d (List.mem_of_getElem? q)
  intro G p e s m below meth c T0 hGe X0
  rw [ef_own_max10 m ((10 : Int32)) ((1 : Int32))]
  refine own_iload_n (pc' := 1) X0 dd_jdk_29_method_65_0 rfl rfl ?_
  refine own_iload_n (pc' := 2) X0 dd_jdk_29_method_65_1 rfl rfl ?_
  refine own_icmpN (pc' := 5) X0 dd_jdk_29_method_65_2 rfl ((flt (by decide)).1) ?_
  refine own_iload_n (pc' := 6) X0 dd_jdk_29_method_65_5 rfl rfl ?_
  refine own_goto (pc' := 10) X0 dd_jdk_29_method_65_6 (by decide) (by decide) ?_
  exact own_ret X0 hGe (t := .int) rfl rfl (Or.inl ⟨rfl, by simp, _, rfl⟩) dd_jdk_29_method_65_10 (by decide) (by decide) ⟨rfl, rfl⟩
theorem dd_jdk_38_method_6_0 : decode jdk_38_method_6_code 0 = .ok (.aload_n 0, 1) := by decide +kernel
theorem dd_jdk_38_method_6_1 : decode jdk_38_method_6_code 1 = .ok (.getfield 9, 3) := by decide +kernel
theorem dd_jdk_38_method_6_4 : decode jdk_38_method_6_code 4 = .ok (.arraylength, 1) := by decide +kernel
theorem dd_jdk_38_method_6_5 : decode jdk_38_method_6_code 5 = .ok (.istore_n 2, 1) := by decide +kernel
theorem dd_jdk_38_method_6_6 : decode jdk_38_method_6_code 6 = .ok (.iload_n 2, 1) := by decide +kernel
theorem dd_jdk_38_method_6_7 : decode jdk_38_method_6_code 7 = .ok (.ifCond .gt 13, 3) := by decide +kernel
theorem dd_jdk_38_method_6_10 : decode jdk_38_method_6_code 10 = .ok (.aload_n 0, 1) := by decide +kernel
theorem dd_jdk_38_method_6_11 : decode jdk_38_method_6_code 11 = .ok (.getfield 9, 3) := by decide +kernel
theorem dd_jdk_38_method_6_14 : decode jdk_38_method_6_code 14 = .ok (.getstatic 39, 3) := by decide +kernel
theorem dd_jdk_38_method_6_17 : decode jdk_38_method_6_code 17 = .ok (.if_acmp .eq 28, 3) := by decide +kernel
theorem dd_jdk_38_method_6_45 : decode jdk_38_method_6_code 45 = .ok (.aload_n 0, 1) := by decide +kernel
theorem dd_jdk_38_method_6_46 : decode jdk_38_method_6_code 46 = .ok (.bipush 10, 2) := by decide +kernel
theorem dd_jdk_38_method_6_48 : decode jdk_38_method_6_code 48 = .ok (.iload_n 1, 1) := by decide +kernel
theorem dd_jdk_38_method_6_49 : decode jdk_38_method_6_code 49 = .ok (.invokestatic 79, 3) := by decide +kernel
theorem pd_1 : parseMethodDescriptor "(II)I" = some ⟨[.int, .int], some .int⟩ := by decide +kernel
theorem dd_jdk_38_method_6_52 : decode jdk_38_method_6_code 52 = .ok (.anewarray 7, 3) := by decide +kernel
theorem dd_jdk_38_method_6_55 : decode jdk_38_method_6_code 55 = .ok (.dup_x1, 1) := by decide +kernel
theorem dd_jdk_38_method_6_56 : decode jdk_38_method_6_code 56 = .ok (.putfield 9, 3) := by decide +kernel
theorem dd_jdk_38_method_6_59 : decode jdk_38_method_6_code 59 = .ok (.areturn, 1) := by decide +kernel
theorem ef_own_grow1 (m : MethodId) (x0 : Addr) (x1 : Int32) : entryFrame m #[(.ref x0), (.int x1)] 4 = mkF m 0 #[.val (.ref x0), .val (.int x1), .unset, .unset] [] := by first | (simp [entryFrame, mkF, argsToLocals, Value.category]; done) | rfl
set_option maxRecDepth 65536 in
set_option maxHeartbeats 40000000 in
theorem own_grow1 (l : Launch) (Z : State) (a0 : Array Value) (hw : ∀ d ∈ tables_1, d.before a0 Z = true) (n0 : Nat) (a dd : Addr) (mc : Int32) (h0 : Heap) (O0 : Old Z n0 h0) (n_a : n0 ≤ a) (p_L : (Exa Z h0 a "java/util/ArrayList" ∧ Fld Z h0 a "java/util/ArrayList" "elementData" "[Ljava/lang/Object;" (.ref dd) ∧ Fld Z h0 a "java/util/ArrayList" "size" "I" (.int 0) ∧ Fld Z h0 a "java/util/AbstractList" "modCount" "I" (.int mc))) (DE : own_DEF Z dd) :
    own_Met l Z n0 (⟨"java/util/ArrayList", "grow", "(I)[Ljava/lang/Object;"⟩ : MethodName) jdk_38_method_6_code 4 (some (.array (.object "java/lang/Object"))) ({ frames := 1, cells := 1, slots := 10, locals := 14 } : Room) #[(.ref a), (.int (1 : Int32))] h0 (fun v h => ∃ (e : Addr) (k : ClassId), v = some (.ref e) ∧ Keep h0 h [a] ∧ h0.size ≤ e ∧ (Exa Z h a "java/util/ArrayList" ∧ Fld Z h a "java/util/ArrayList" "elementData" "[Ljava/lang/Object;" (.ref e) ∧ Fld Z h a "java/util/ArrayList" "size" "I" (.int 0) ∧ Fld Z h a "java/util/AbstractList" "modCount" "I" (.int mc)) ∧ own_Arr Z h e k (.object "java/lang/Object") [.null, .null, .null, .null, .null, .null, .null, .null, .null, .null] ∧ Exa Z h e "[Ljava/lang/Object;" ∧ Ovr Z k "java/lang/Object") := by
  refine own_enter (own := "java/util/ArrayList") (nm := "grow") (plainFor_of_name pn_2) rfl rfl O0 ?_
  have W : ∀ (k : Nat) {d : Jvm.Cond}, tables_1[k]? = some d → d.before a0 Z = true := fun k d q => hw d (List.mem_of_getElem? q)
  intro G p e s m below meth c T0 hGe X0
  rw [ef_own_grow1 m a ((1 : Int32))]
  obtain ⟨kD, AD⟩ := DE.2.2
  refine own_aload_n (pc' := 1) X0 dd_jdk_38_method_6_0 rfl rfl rfl ?_
  refine own_get (pc' := 4) X0 (host := "") (Or.inl (W 50 rfl)) Via.refl p_L.2.1 dd_jdk_38_method_6_1 rfl ?_
  intro T1 X1
  refine own_arraylength (pc' := 5) (z := (0 : Int32)) X1 (AD.keep (own_oldK (own_old X0)) nin0) rfl dd_jdk_38_method_6_4 rfl ?_
  refine own_istore_n (pc' := 6) X1 dd_jdk_38_method_6_5 rfl (Ls' := #[.val (.ref a), .val (.int (1 : Int32)), .val (.int (0 : Int32)), .unset]) rfl ?_
  refine own_iload_n (pc' := 7) X1 dd_jdk_38_method_6_6 rfl rfl ?_
  refine own_ifN (pc' := 10) X1 dd_jdk_38_method_6_7 rfl ((flt (by decide)).2.2.1) ?_
  refine own_aload_n (pc' := 11) X1 dd_jdk_38_method_6_10 rfl rfl rfl ?_
  refine own_get (pc' := 14) X1 (host := "") (Or.inl (W 50 rfl)) Via.refl p_L.2.1 dd_jdk_38_method_6_11 rfl ?_
  intro T2 X2
  refine own_getS (pc' := 17) X2 (W 49 rfl) Via.refl (own_sta X2 DE.1) dd_jdk_38_method_6_14 rfl ?_
  intro T3 X3
  refine own_acmp (pc' := 45) (same := true) X3 dd_jdk_38_method_6_17 rfl rfl (by simp) (by decide) (by decide) ?_
  refine own_aload_n (pc' := 46) X3 dd_jdk_38_method_6_45 rfl rfl rfl ?_
  refine own_bipush (pc' := 48) X3 dd_jdk_38_method_6_46 rfl (z := (10 : Int32)) (by decide) ?_
  refine own_iload_n (pc' := 49) X3 dd_jdk_38_method_6_48 rfl rfl ?_
  refine own_callSM (pc' := 52) (cells' := 0) (slots' := 0) (argsL := [(.int (10 : Int32)), (.int (1 : Int32))]) (rest := [(.ref a)]) (W := 1) (y := (⟨"java/lang/Math", "max", "(II)I"⟩ : MethodName)) X3 (W 80 rfl) (W 81 rfl) (by decide) (own_max10 l Z a0 hw n0  h0 (own_old X3) ) (W 83 rfl) (W 82 rfl) (by decide) (by decide) rfl (lenOf pd_1 rfl) rfl rfl dd_jdk_38_method_6_49 rfl rfl rfl rfl (by decide) (by decide) ?_
  intro v4 T4 h4 X4 q4
  obtain ⟨rfl, rfl⟩ := q4
  show G T4 (mkF m 52 #[.val (.ref a), .val (.int (1 : Int32)), .val (.int (0 : Int32)), .unset] [(.int (10 : Int32)), (.ref a)])
  refine own_anewR (pc' := 55) (cells' := 1) (slots' := 10) (n := 10) (cap := 10) (ad := "[Ljava/lang/Object;") X4 (W 84 rfl) (W 26 rfl) (by decide) (by decide) (by decide) dd_jdk_38_method_6_52 rfl rfl (by decide) (by decide) rfl (by decide) (by decide) ?_
  intro T5 h5 a5 k5 g5 X5 K5 A5 E5 V5
  have n_a5 : n0 ≤ a5 := by rw [g5]; exact own_n0 X4
  have A5' : own_Arr Z h5 a5 k5 (.object "java/lang/Object") [.null, .null, .null, .null, .null, .null, .null, .null, .null, .null] := A5
  refine own_dup_x1 (pc' := 56) X5 dd_jdk_38_method_6_55 rfl rfl rfl ?_
  have f6 := (p_L.2.1.keep K5 nin0)
  have f7 := (p_L.1.keep K5)
  refine own_put (pc' := 59) X5 (host := "") (Or.inl (W 50 rfl)) Via.refl f6 f7 (Or.inl (W 51 rfl)) (W 29 rfl) (ty := (.array (.object "java/lang/Object"))) (by decide) rfl rfl n_a dd_jdk_38_method_6_56 rfl ?_
  intro T8 h8 X8 W8 K8
  have f8_ := f6.same W8
  have age_a5 : h0.size ≤ a5 := Nat.le_trans (Nat.le_refl _) (Nat.le_of_eq (Eq.symm g5))
  have f9 := (f7.keep K8)
  have f10 := ((p_L.2.2.1.keep K5 nin0).other W8 (Or.inr (slot_ne (Or.inl (W 64 rfl)) (Or.inl (W 51 rfl)) (by decide) (t := .int) (t' := (.array (.object "java/lang/Object"))) (by decide) (by decide))))
  have f11 := ((p_L.2.2.2.keep K5 nin0).other W8 (Or.inr (slot_ne (Or.inl (W 48 rfl)) (Or.inl (W 51 rfl)) (by decide) (t := .int) (t' := (.array (.object "java/lang/Object"))) (by decide) (by decide))))
  have ne_a_a5 : a ≠ a5 := own_ne p_L.1.lt (Nat.le_refl _) (Nat.le_of_eq (Eq.symm g5))
  have f12 := (A5'.keep K8 (ninS (Ne.symm ne_a_a5) nin0))
  have f13 := (E5.keep K8)
  exact own_ret X8 hGe (t := (.array (.object "java/lang/Object"))) rfl rfl (Or.inr (Or.inr (Or.inr (Or.inr ⟨rfl, rfl, rfl⟩)))) dd_jdk_38_method_6_59 (by decide) (by decide) ⟨a5, _, rfl, (((Keep.refl h0 [a]).trans K5 all0).trans K8 (allS (Or.inl (List.mem_of_getElem? (i := 0) rfl)) all0)), age_a5, ⟨f9, f8_, f10, f11⟩, f12, f13, V5⟩
theorem dd_jdk_38_method_7_0 : decode jdk_38_method_7_code 0 = .ok (.aload_n 0, 1) := by decide +kernel
theorem dd_jdk_38_method_7_1 : decode jdk_38_method_7_code 1 = .ok (.aload_n 0, 1) := by decide +kernel
theorem dd_jdk_38_method_7_2 : decode jdk_38_method_7_code 2 = .ok (.getfield 48, 3) := by decide +kernel
theorem dd_jdk_38_method_7_5 : decode jdk_38_method_7_code 5 = .ok (.iconst 1, 1) := by decide +kernel
theorem dd_jdk_38_method_7_6 : decode jdk_38_method_7_code 6 = .ok (.iadd, 1) := by decide +kernel
theorem dd_jdk_38_method_7_7 : decode jdk_38_method_7_code 7 = .ok (.invokevirtual 69, 3) := by decide +kernel
theorem pd_2 : parseMethodDescriptor "(I)[Ljava/lang/Object;" = some ⟨[.int], some (.array (.object "java/lang/Object"))⟩ := by decide +kernel
theorem dd_jdk_38_method_7_10 : decode jdk_38_method_7_code 10 = .ok (.areturn, 1) := by decide +kernel
theorem ef_own_grow0 (m : MethodId) (x0 : Addr) : entryFrame m #[(.ref x0)] 1 = mkF m 0 #[.val (.ref x0)] [] := by first | (simp [entryFrame, mkF, argsToLocals, Value.category]; done) | rfl
set_option maxRecDepth 65536 in
set_option maxHeartbeats 40000000 in
theorem own_grow0 (l : Launch) (Z : State) (a0 : Array Value) (hw : ∀ d ∈ tables_1, d.before a0 Z = true) (n0 : Nat) (a dd : Addr) (mc : Int32) (h0 : Heap) (O0 : Old Z n0 h0) (n_a : n0 ≤ a) (p_L : (Exa Z h0 a "java/util/ArrayList" ∧ Fld Z h0 a "java/util/ArrayList" "elementData" "[Ljava/lang/Object;" (.ref dd) ∧ Fld Z h0 a "java/util/ArrayList" "size" "I" (.int 0) ∧ Fld Z h0 a "java/util/AbstractList" "modCount" "I" (.int mc))) (DE : own_DEF Z dd) :
    own_Met l Z n0 (⟨"java/util/ArrayList", "grow", "()[Ljava/lang/Object;"⟩ : MethodName) jdk_38_method_7_code 1 (some (.array (.object "java/lang/Object"))) ({ frames := 2, cells := 1, slots := 10, locals := 29 } : Room) #[(.ref a)] h0 (fun v h => ∃ (e : Addr) (k : ClassId), v = some (.ref e) ∧ Keep h0 h [a] ∧ h0.size ≤ e ∧ (Exa Z h a "java/util/ArrayList" ∧ Fld Z h a "java/util/ArrayList" "elementData" "[Ljava/lang/Object;" (.ref e) ∧ Fld Z h a "java/util/ArrayList" "size" "I" (.int 0) ∧ Fld Z h a "java/util/AbstractList" "modCount" "I" (.int mc)) ∧ own_Arr Z h e k (.object "java/lang/Object") [.null, .null, .null, .null, .null, .null, .null, .null, .null, .null] ∧ Exa Z h e "[Ljava/lang/Object;" ∧ Ovr Z k "java/lang/Object") := by
  refine own_enter (own := "java/util/ArrayList") (nm := "grow") (plainFor_of_name pn_2) rfl rfl O0 ?_
  have W : ∀ (k : Nat) {d : Jvm.Cond}, tables_1[k]? = some d → d.before a0 Z = true := fun k d q => hw d (List.mem_of_getElem? q)
  intro G p e s m below meth c T0 hGe X0
  rw [ef_own_grow0 m a]
  obtain ⟨kD, AD⟩ := DE.2.2
  refine own_aload_n (pc' := 1) X0 dd_jdk_38_method_7_0 rfl rfl rfl ?_
  refine own_aload_n (pc' := 2) X0 dd_jdk_38_method_7_1 rfl rfl rfl ?_
  refine own_get (pc' := 5) X0 (host := "") (Or.inl (W 63 rfl)) Via.refl p_L.2.2.1 dd_jdk_38_method_7_2 rfl ?_
  intro T1 X1
  refine own_iconst (pc' := 6) X1 dd_jdk_38_method_7_5 rfl (z := (1 : Int32)) (by decide) ?_
  refine own_iadd (pc' := 7) X1 dd_jdk_38_method_7_6 rfl (r := (1 : Int32)) (by decide) ?_
  refine own_callPM (pc' := 10) (cells' := 1) (slots' := 10) (argsL := [(.int (1 : Int32))]) (rest := []) (W := 0) (y := (⟨"java/util/ArrayList", "grow", "(I)[Ljava/lang/Object;"⟩ : MethodName)) (a := a) X1 (W 75 rfl) (W 76 rfl) (W 77 rfl) (W 29 rfl) (by decide) p_L.1 (own_grow1 l Z a0 hw n0 a dd mc h0 (own_old X1) n_a ⟨p_L.1, p_L.2.1, p_L.2.2.1, p_L.2.2.2⟩ DE) (W 79 rfl) (W 30 rfl) (by decide) (by decide) rfl (lenOf pd_2 rfl) rfl rfl dd_jdk_38_method_7_7 rfl rfl rfl rfl (by decide) (by decide) ?_
  intro v2 T2 h2 X2 q2
  obtain ⟨e2, k2, rfl, K2, z2, P2, A2, E2, V2⟩ := q2
  have age_e2 : h0.size ≤ e2 := Nat.le_trans (Nat.le_refl _) z2
  have n_e2 : n0 ≤ e2 := Nat.le_trans (own_n0 X0) age_e2
  show G T2 (mkF m 10 #[.val (.ref a)] [(.ref e2)])
  exact own_ret X2 hGe (t := (.array (.object "java/lang/Object"))) rfl rfl (Or.inr (Or.inr (Or.inr (Or.inr ⟨rfl, rfl, rfl⟩)))) dd_jdk_38_method_7_10 (by decide) (by decide) ⟨e2, _, rfl, ((Keep.refl h0 [a]).trans K2 (allS (Or.inl (List.mem_of_getElem? (i := 0) rfl)) all0)), age_e2, ⟨P2.1, P2.2.1, P2.2.2.1, P2.2.2.2⟩, A2, E2, V2⟩
def own_EMP (Z : State) (em ea : Addr) : Prop := Sta Z Z.heap "java/util/ImmutableCollections" "EMPTY_LIST" "Ljava/util/ImmutableCollections$ListN;" (.ref em) ∧ Exa Z Z.heap em "java/util/ImmutableCollections$ListN" ∧ Fld Z Z.heap em "java/util/ImmutableCollections$ListN" "elements" "[Ljava/lang/Object;" (.ref ea) ∧ Fld Z Z.heap em "java/util/ImmutableCollections$ListN" "allowNulls" "Z" (.int 0) ∧ ∃ k, own_Arr Z Z.heap ea k (.object "java/lang/Object") []
def own_MTY (Z : State) (ey : Addr) : Prop := Sta Z Z.heap "java/util/ImmutableCollections" "EMPTY" "Ljava/lang/Object;" (.ref ey) ∧ ey < Z.heap.size
theorem dd_jdk_31_method_10_0 : decode jdk_31_method_10_code 0 = .ok (.aload_n 0, 1) := by decide +kernel
theorem dd_jdk_31_method_10_1 : decode jdk_31_method_10_code 1 = .ok (.ifnonnull 11, 3) := by decide +kernel
theorem dd_jdk_31_method_10_12 : decode jdk_31_method_10_code 12 = .ok (.aload_n 0, 1) := by decide +kernel
theorem dd_jdk_31_method_10_13 : decode jdk_31_method_10_code 13 = .ok (.areturn, 1) := by decide +kernel
theorem pn_4 : plainName "java/util/Objects" = true := by first | (simp [plainName, overriddenIn]; done) | decide +kernel
theorem ef_own_rnn (m : MethodId) (x0 : Addr) : entryFrame m #[(.ref x0)] 1 = mkF m 0 #[.val (.ref x0)] [] := by first | (simp [entryFrame, mkF, argsToLocals, Value.category]; done) | rfl
set_option maxRecDepth 65536 in
set_option maxHeartbeats 40000000 in
theorem own_rnn (l : Launch) (Z : State) (a0 : Array Value) (hw : ∀ d ∈ tables_1, d.before a0 Z = true) (n0 : Nat) (x : Addr) (h0 : Heap) (O0 : Old Z n0 h0)  :
    own_Met l Z n0 (⟨"java/util/Objects", "requireNonNull", "(Ljava/lang/Object;)Ljava/lang/Object;"⟩ : MethodName) jdk_31_method_10_code 1 (some (.object "java/lang/Object")) ({ frames := 0, cells := 0, slots := 0, locals := 0 } : Room) #[(.ref x)] h0 (fun v h => v = some (.ref x) ∧ h0 = h) := by
  refine own_enter (own := "java/util/Objects") (nm := "requireNonNull") (plainFor_of_name pn_4) rfl rfl O0 ?_
  have W : ∀ (k : Nat) {d : Jvm.Cond}, tables_1[k]? = some d → d.before a0 Z = true := fun k d q => hw d (List.mem_of_getElem? q)
  intro G p e s m below meth c T0 hGe X0
  rw [ef_own_rnn m x]
  refine own_aload_n (pc' := 1) X0 dd_jdk_31_method_10_0 rfl rfl rfl ?_
  refine own_ifnonnullY (pc' := 12) X0 dd_jdk_31_method_10_1 (by decide) (by decide) ?_
  refine own_aload_n (pc' := 13) X0 dd_jdk_31_method_10_12 rfl rfl rfl ?_
  exact own_ret X0 hGe (t := (.object "java/lang/Object")) rfl rfl (Or.inr (Or.inr (Or.inr (Or.inr ⟨rfl, rfl, rfl⟩)))) dd_jdk_31_method_10_13 (by decide) (by decide) ⟨rfl, rfl⟩
theorem dd_jdk_47_method_1_0 : decode jdk_47_method_1_code 0 = .ok (.aload_n 0, 1) := by decide +kernel
theorem dd_jdk_47_method_1_1 : decode jdk_47_method_1_code 1 = .ok (.invokespecial 1, 3) := by decide +kernel
theorem dd_jdk_47_method_1_4 : decode jdk_47_method_1_code 4 = .ok (.return_, 1) := by decide +kernel
theorem pn_5 : plainName "java/util/ImmutableCollections$AbstractImmutableCollection" = true := by first | (simp [plainName, overriddenIn]; done) | decide +kernel
theorem ef_own_aici (m : MethodId) (x0 : Addr) : entryFrame m #[(.ref x0)] 1 = mkF m 0 #[.val (.ref x0)] [] := by first | (simp [entryFrame, mkF, argsToLocals, Value.category]; done) | rfl
set_option maxRecDepth 65536 in
set_option maxHeartbeats 40000000 in
theorem own_aici (l : Launch) (Z : State) (a0 : Array Value) (hw : ∀ d ∈ tables_1, d.before a0 Z = true) (n0 : Nat) (a : Addr) (h0 : Heap) (O0 : Old Z n0 h0)  :
    own_Met l Z n0 (⟨"java/util/ImmutableCollections$AbstractImmutableCollection", "<init>", "()V"⟩ : MethodName) jdk_47_method_1_code 1 none ({ frames := 2, cells := 0, slots := 0, locals := 24 } : Room) #[(.ref a)] h0 (fun v h => v = none ∧ h0 = h) := by
  refine own_enter (own := "java/util/ImmutableCollections$AbstractImmutableCollection") (nm := "<init>") (plainFor_of_name pn_5) rfl rfl O0 ?_
  have W : ∀ (k : Nat) {d : Jvm.Cond}, tables_1[k]? = some d → d.before a0 Z = true := fun k d q => hw d (List.mem_of_getElem? q)
  intro G p e s m below meth c T0 hGe X0
  rw [ef_own_aici m a]
  refine own_aload_n (pc' := 1) X0 dd_jdk_47_method_1_0 rfl rfl rfl ?_
  refine own_callIM (pc' := 4) (cells' := 0) (slots' := 0) (argsL := []) (rest := []) (W := 0) (y := (⟨"java/util/AbstractCollection", "<init>", "()V"⟩ : MethodName)) (a := a) X0 (W 230 rfl) (W 41 rfl) rfl (by decide) (own_aci l Z a0 hw n0 a h0 (own_old X0) ) (W 45 rfl) (W 44 rfl) (by decide) (by decide) rfl (lenOf pd_0 rfl) rfl rfl dd_jdk_47_method_1_1 rfl rfl rfl rfl (by decide) (by decide) ?_
  intro v1 T1 h1 X1 q1
  obtain ⟨rfl, rfl⟩ := q1
  show G T1 (mkF m 4 #[.val (.ref a)] [])
  exact own_retV X1 hGe rfl dd_jdk_47_method_1_4 (by decide) (by decide) ⟨rfl, rfl⟩
theorem dd_jdk_46_method_1_0 : decode jdk_46_method_1_code 0 = .ok (.aload_n 0, 1) := by decide +kernel
theorem dd_jdk_46_method_1_1 : decode jdk_46_method_1_code 1 = .ok (.invokespecial 1, 3) := by decide +kernel
theorem dd_jdk_46_method_1_4 : decode jdk_46_method_1_code 4 = .ok (.return_, 1) := by decide +kernel
theorem pn_6 : plainName "java/util/ImmutableCollections$AbstractImmutableList" = true := by first | (simp [plainName, overriddenIn]; done) | decide +kernel
theorem ef_own_aili (m : MethodId) (x0 : Addr) : entryFrame m #[(.ref x0)] 1 = mkF m 0 #[.val (.ref x0)] [] := by first | (simp [entryFrame, mkF, argsToLocals, Value.category]; done) | rfl
set_option maxRecDepth 65536 in
set_option maxHeartbeats 40000000 in
theorem own_aili (l : Launch) (Z : State) (a0 : Array Value) (hw : ∀ d ∈ tables_1, d.before a0 Z = true) (n0 : Nat) (a : Addr) (h0 : Heap) (O0 : Old Z n0 h0)  :
    own_Met l Z n0 (⟨"java/util/ImmutableCollections$AbstractImmutableList", "<init>", "()V"⟩ : MethodName) jdk_46_method_1_code 1 none ({ frames := 3, cells := 0, slots := 0, locals := 36 } : Room) #[(.ref a)] h0 (fun v h => v = none ∧ h0 = h) := by
  refine own_enter (own := "java/util/ImmutableCollections$AbstractImmutableList") (nm := "<init>") (plainFor_of_name pn_6) rfl rfl O0 ?_
  have W : ∀ (k : Nat) {d : Jvm.Cond}, tables_1[k]? = some d → d.before a0 Z = true := fun k d q => hw d (List.mem_of_getElem? q)
  intro G p e s m below meth c T0 hGe X0
  rw [ef_own_aili m a]
  refine own_aload_n (pc' := 1) X0 dd_jdk_46_method_1_0 rfl rfl rfl ?_
  refine own_callIM (pc' := 4) (cells' := 0) (slots' := 0) (argsL := []) (rest := []) (W := 0) (y := (⟨"java/util/ImmutableCollections$AbstractImmutableCollection", "<init>", "()V"⟩ : MethodName)) (a := a) X0 (W 224 rfl) (W 225 rfl) rfl (by decide) (own_aici l Z a0 hw n0 a h0 (own_old X0) ) (W 229 rfl) (W 228 rfl) (by decide) (by decide) rfl (lenOf pd_0 rfl) rfl rfl dd_jdk_46_method_1_1 rfl rfl rfl rfl (by decide) (by decide) ?_
  intro v1 T1 h1 X1 q1
  obtain ⟨rfl, rfl⟩ := q1
  show G T1 (mkF m 4 #[.val (.ref a)] [])
  exact own_retV X1 hGe rfl dd_jdk_46_method_1_4 (by decide) (by decide) ⟨rfl, rfl⟩
theorem dd_jdk_44_method_1_0 : decode jdk_44_method_1_code 0 = .ok (.aload_n 0, 1) := by decide +kernel
theorem dd_jdk_44_method_1_1 : decode jdk_44_method_1_code 1 = .ok (.invokespecial 1, 3) := by decide +kernel
theorem dd_jdk_44_method_1_4 : decode jdk_44_method_1_code 4 = .ok (.aload_n 0, 1) := by decide +kernel
theorem dd_jdk_44_method_1_5 : decode jdk_44_method_1_code 5 = .ok (.aload_n 1, 1) := by decide +kernel
theorem dd_jdk_44_method_1_6 : decode jdk_44_method_1_code 6 = .ok (.invokestatic 7, 3) := by decide +kernel
theorem pd_3 : parseMethodDescriptor "(Ljava/lang/Object;)Ljava/lang/Object;" = some ⟨[(.object "java/lang/Object")], some (.object "java/lang/Object")⟩ := by decide +kernel
theorem dd_jdk_44_method_1_9 : decode jdk_44_method_1_code 9 = .ok (.putfield 13, 3) := by decide +kernel
theorem dd_jdk_44_method_1_12 : decode jdk_44_method_1_code 12 = .ok (.aload_n 0, 1) := by decide +kernel
theorem dd_jdk_44_method_1_13 : decode jdk_44_method_1_code 13 = .ok (.getstatic 19, 3) := by decide +kernel
theorem dd_jdk_44_method_1_16 : decode jdk_44_method_1_code 16 = .ok (.putfield 24, 3) := by decide +kernel
theorem dd_jdk_44_method_1_19 : decode jdk_44_method_1_code 19 = .ok (.return_, 1) := by decide +kernel
theorem pn_7 : plainName "java/util/ImmutableCollections$List12" = true := by first | (simp [plainName, overriddenIn]; done) | decide +kernel
theorem ef_own_L1i (m : MethodId) (x0 : Addr) (x1 : Addr) : entryFrame m #[(.ref x0), (.ref x1)] 2 = mkF m 0 #[.val (.ref x0), .val (.ref x1)] [] := by first | (simp [entryFrame, mkF, argsToLocals, Value.category]; done) | rfl
set_option maxRecDepth 65536 in
set_option maxHeartbeats 40000000 in
theorem own_L1i (l : Launch) (Z : State) (a0 : Array Value) (hw : ∀ d ∈ tables_1, d.before a0 Z = true) (n0 : Nat) (a x0 ey : Addr) (h0 : Heap) (O0 : Old Z n0 h0) (n_a : n0 ≤ a) (p_L : (Exa Z h0 a "java/util/ImmutableCollections$List12" ∧ Fld Z h0 a "java/util/ImmutableCollections$List12" "e0" "Ljava/lang/Object;" .null ∧ Fld Z h0 a "java/util/ImmutableCollections$List12" "e1" "Ljava/lang/Object;" .null)) (EY : own_MTY Z ey) :
    own_Met l Z n0 (⟨"java/util/ImmutableCollections$List12", "<init>", "(Ljava/lang/Object;)V"⟩ : MethodName) jdk_44_method_1_code 2 none ({ frames := 4, cells := 0, slots := 0, locals := 48 } : Room) #[(.ref a), (.ref x0)] h0 (fun v h => v = none ∧ Keep h0 h [a] ∧ (Exa Z h a "java/util/ImmutableCollections$List12" ∧ Fld Z h a "java/util/ImmutableCollections$List12" "e0" "Ljava/lang/Object;" (.ref x0) ∧ Fld Z h a "java/util/ImmutableCollections$List12" "e1" "Ljava/lang/Object;" (.ref ey))) := by
  refine own_enter (own := "java/util/ImmutableCollections$List12") (nm := "<init>") (plainFor_of_name pn_7) rfl rfl O0 ?_
  have W : ∀ (k : Nat) {d : Jvm.Cond}, tables_1[k]? = some d → d.before a0 Z = true := fun k d q => hw d (List.mem_of_getElem? q)
  intro G p e s m below meth c T0 hGe X0
  rw [ef_own_L1i m a x0]
  refine own_aload_n (pc' := 1) X0 dd_jdk_44_method_1_0 rfl rfl rfl ?_
  refine own_callIM (pc' := 4) (cells' := 0) (slots' := 0) (argsL := []) (rest := []) (W := 0) (y := (⟨"java/util/ImmutableCollections$AbstractImmutableList", "<init>", "()V"⟩ : MethodName)) (a := a) X0 (W 425 rfl) (W 219 rfl) rfl (by decide) (own_aili l Z a0 hw n0 a h0 (own_old X0) ) (W 223 rfl) (W 222 rfl) (by decide) (by decide) rfl (lenOf pd_0 rfl) rfl rfl dd_jdk_44_method_1_1 rfl rfl rfl rfl (by decide) (by decide) ?_
  intro v1 T1 h1 X1 q1
  obtain ⟨rfl, rfl⟩ := q1
  show G T1 (mkF m 4 #[.val (.ref a), .val (.ref x0)] [])
  refine own_aload_n (pc' := 5) X1 dd_jdk_44_method_1_4 rfl rfl rfl ?_
  refine own_aload_n (pc' := 6) X1 dd_jdk_44_method_1_5 rfl rfl rfl ?_
  refine own_callSM (pc' := 9) (cells' := 0) (slots' := 0) (argsL := [(.ref x0)]) (rest := [(.ref a)]) (W := 1) (y := (⟨"java/util/Objects", "requireNonNull", "(Ljava/lang/Object;)Ljava/lang/Object;"⟩ : MethodName)) X1 (W 429 rfl) (W 18 rfl) (by decide) (own_rnn l Z a0 hw n0 x0 h0 (own_old X1) ) (W 20 rfl) (W 19 rfl) (by decide) (by decide) rfl (lenOf pd_3 rfl) rfl rfl dd_jdk_44_method_1_6 rfl rfl rfl rfl (by decide) (by decide) ?_
  intro v2 T2 h2 X2 q2
  obtain ⟨rfl, rfl⟩ := q2
  show G T2 (mkF m 9 #[.val (.ref a), .val (.ref x0)] [(.ref x0), (.ref a)])
  refine own_put (pc' := 12) X2 (host := "") (Or.inl (W 430 rfl)) Via.refl p_L.2.1 p_L.1 (Or.inr ⟨(W 431 rfl), rfl, rfl⟩) (W 419 rfl) (ty := (.object "java/lang/Object")) (by decide) rfl rfl n_a dd_jdk_44_method_1_9 rfl ?_
  intro T3 h3 X3 W3 K3
  have f3_ := p_L.2.1.same W3
  refine own_aload_n (pc' := 13) X3 dd_jdk_44_method_1_12 rfl rfl rfl ?_
  refine own_getSN (pc' := 16) X3 (W 446 rfl) (own_sta X3 EY.1) dd_jdk_44_method_1_13 rfl ?_
  intro T4 X4
  have f5 := (p_L.2.2.other W3 (Or.inr (slot_ne (Or.inr (W 433 rfl)) (Or.inr (W 431 rfl)) (by decide) (t := (.object "java/lang/Object")) (t' := (.object "java/lang/Object")) (by decide) (by decide))))
  have f6 := (p_L.1.keep K3)
  refine own_put (pc' := 19) X4 (host := "") (Or.inl (W 432 rfl)) Via.refl f5 f6 (Or.inr ⟨(W 433 rfl), rfl, rfl⟩) (W 419 rfl) (ty := (.object "java/lang/Object")) (by decide) rfl rfl n_a dd_jdk_44_method_1_16 rfl ?_
  intro T7 h7 X7 W7 K7
  have f7_ := f5.same W7
  have f8 := (f6.keep K7)
  have f9 := (f3_.other W7 (Or.inr (slot_ne (Or.inr (W 431 rfl)) (Or.inr (W 433 rfl)) (by decide) (t := (.object "java/lang/Object")) (t' := (.object "java/lang/Object")) (by decide) (by decide))))
  exact own_retV X7 hGe rfl dd_jdk_44_method_1_19 (by decide) (by decide) ⟨rfl, (((Keep.refl h0 [a]).trans K3 (allS (Or.inl (List.mem_of_getElem? (i := 0) rfl)) all0)).trans K7 (allS (Or.inl (List.mem_of_getElem? (i := 0) rfl)) all0)), ⟨f8, f9, f7_⟩⟩
theorem dd_jdk_44_method_2_0 : decode jdk_44_method_2_code 0 = .ok (.aload_n 0, 1) := by decide +kernel
theorem dd_jdk_44_method_2_1 : decode jdk_44_method_2_code 1 = .ok (.invokespecial 1, 3) := by decide +kernel
theorem dd_jdk_44_method_2_4 : decode jdk_44_method_2_code 4 = .ok (.aload_n 0, 1) := by decide +kernel
theorem dd_jdk_44_method_2_5 : decode jdk_44_method_2_code 5 = .ok (.aload_n 1, 1) := by decide +kernel
theorem dd_jdk_44_method_2_6 : decode jdk_44_method_2_code 6 = .ok (.invokestatic 7, 3) := by decide +kernel
theorem dd_jdk_44_method_2_9 : decode jdk_44_method_2_code 9 = .ok (.putfield 13, 3) := by decide +kernel
theorem dd_jdk_44_method_2_12 : decode jdk_44_method_2_code 12 = .ok (.aload_n 0, 1) := by decide +kernel
theorem dd_jdk_44_method_2_13 : decode jdk_44_method_2_code 13 = .ok (.aload_n 2, 1) := by decide +kernel
theorem dd_jdk_44_method_2_14 : decode jdk_44_method_2_code 14 = .ok (.invokestatic 7, 3) := by decide +kernel
theorem dd_jdk_44_method_2_17 : decode jdk_44_method_2_code 17 = .ok (.putfield 24, 3) := by decide +kernel
theorem dd_jdk_44_method_2_20 : decode jdk_44_method_2_code 20 = .ok (.return_, 1) := by decide +kernel
theorem ef_own_L2i (m : MethodId) (x0 : Addr) (x1 : Addr) (x2 : Addr) : entryFrame m #[(.ref x0), (.ref x1), (.ref x2)] 3 = mkF m 0 #[.val (.ref x0), .val (.ref x1), .val (.ref x2)] [] := by first | (simp [entryFrame, mkF, argsToLocals, Value.category]; done) | rfl
set_option maxRecDepth 65536 in
set_option maxHeartbeats 40000000 in
theorem own_L2i (l : Launch) (Z : State) (a0 : Array Value) (hw : ∀ d ∈ tables_1, d.before a0 Z = true) (n0 : Nat) (a x0 x1 : Addr) (h0 : Heap) (O0 : Old Z n0 h0) (n_a : n0 ≤ a) (p_L : (Exa Z h0 a "java/util/ImmutableCollections$List12" ∧ Fld Z h0 a "java/util/ImmutableCollections$List12" "e0" "Ljava/lang/Object;" .null ∧ Fld Z h0 a "java/util/ImmutableCollections$List12" "e1" "Ljava/lang/Object;" .null)) :
    own_Met l Z n0 (⟨"java/util/ImmutableCollections$List12", "<init>", "(Ljava/lang/Object;Ljava/lang/Object;)V"⟩ : MethodName) jdk_44_method_2_code 3 none ({ frames := 4, cells := 0, slots := 0, locals := 48 } : Room) #[(.ref a), (.ref x0), (.ref x1)] h0 (fun v h => v = none ∧ Keep h0 h [a] ∧ (Exa Z h a "java/util/ImmutableCollections$List12" ∧ Fld Z h a "java/util/ImmutableCollections$List12" "e0" "Ljava/lang/Object;" (.ref x0) ∧ Fld Z h a "java/util/ImmutableCollections$List12" "e1" "Ljava/lang/Object;" (.ref x1))) := by
  refine own_enter (own := "java/util/ImmutableCollections$List12") (nm := "<init>") (plainFor_of_name pn_7) rfl rfl O0 ?_
  have W : ∀ (k : Nat) {d : Jvm.Cond}, tables_1[k]? = some d → d.before a0 Z = true := fun k d q => hw d (List.mem_of_getElem? q)
  intro G p e s m below meth c T0 hGe X0
  rw [ef_own_L2i m a x0 x1]
  refine own_aload_n (pc' := 1) X0 dd_jdk_44_method_2_0 rfl rfl rfl ?_
  refine own_callIM (pc' := 4) (cells' := 0) (slots' := 0) (argsL := []) (rest := []) (W := 0) (y := (⟨"java/util/ImmutableCollections$AbstractImmutableList", "<init>", "()V"⟩ : MethodName)) (a := a) X0 (W 425 rfl) (W 219 rfl) rfl (by decide) (own_aili l Z a0 hw n0 a h0 (own_old X0) ) (W 223 rfl) (W 222 rfl) (by decide) (by decide) rfl (lenOf pd_0 rfl) rfl rfl dd_jdk_44_method_2_1 rfl rfl rfl rfl (by decide) (by decide) ?_
  intro v1 T1 h1 X1 q1
  obtain ⟨rfl, rfl⟩ := q1
  show G T1 (mkF m 4 #[.val (.ref a), .val (.ref x0), .val (.ref x1)] [])
  refine own_aload_n (pc' := 5) X1 dd_jdk_44_method_2_4 rfl rfl rfl ?_
  refine own_aload_n (pc' := 6) X1 dd_jdk_44_method_2_5 rfl rfl rfl ?_
  refine own_callSM (pc' := 9) (cells' := 0) (slots' := 0) (argsL := [(.ref x0)]) (rest := [(.ref a)]) (W := 1) (y := (⟨"java/util/Objects", "requireNonNull", "(Ljava/lang/Object;)Ljava/lang/Object;"⟩ : MethodName)) X1 (W 429 rfl) (W 18 rfl) (by decide) (own_rnn l Z a0 hw n0 x0 h0 (own_old X1) ) (W 20 rfl) (W 19 rfl) (by decide) (by decide) rfl (lenOf pd_3 rfl) rfl rfl dd_jdk_44_method_2_6 rfl rfl rfl rfl (by decide) (by decide) ?_
  intro v2 T2 h2 X2 q2
  obtain ⟨rfl, rfl⟩ := q2
  show G T2 (mkF m 9 #[.val (.ref a), .val (.ref x0), .val (.ref x1)] [(.ref x0), (.ref a)])
  refine own_put (pc' := 12) X2 (host := "") (Or.inl (W 430 rfl)) Via.refl p_L.2.1 p_L.1 (Or.inr ⟨(W 431 rfl), rfl, rfl⟩) (W 419 rfl) (ty := (.object "java/lang/Object")) (by decide) rfl rfl n_a dd_jdk_44_method_2_9 rfl ?_
  intro T3 h3 X3 W3 K3
  have f3_ := p_L.2.1.same W3
  refine own_aload_n (pc' := 13) X3 dd_jdk_44_method_2_12 rfl rfl rfl ?_
  refine own_aload_n (pc' := 14) X3 dd_jdk_44_method_2_13 rfl rfl rfl ?_
  refine own_callSM (pc' := 17) (cells' := 0) (slots' := 0) (argsL := [(.ref x1)]) (rest := [(.ref a)]) (W := 1) (y := (⟨"java/util/Objects", "requireNonNull", "(Ljava/lang/Object;)Ljava/lang/Object;"⟩ : MethodName)) X3 (W 429 rfl) (W 18 rfl) (by decide) (own_rnn l Z a0 hw n0 x1 h3 (own_old X3) ) (W 20 rfl) (W 19 rfl) (by decide) (by decide) rfl (lenOf pd_3 rfl) rfl rfl dd_jdk_44_method_2_14 rfl rfl rfl rfl (by decide) (by decide) ?_
  intro v4 T4 h4 X4 q4
  obtain ⟨rfl, rfl⟩ := q4
  show G T4 (mkF m 17 #[.val (.ref a), .val (.ref x0), .val (.ref x1)] [(.ref x1), (.ref a)])
  have f5 := (p_L.2.2.other W3 (Or.inr (slot_ne (Or.inr (W 433 rfl)) (Or.inr (W 431 rfl)) (by decide) (t := (.object "java/lang/Object")) (t' := (.object "java/lang/Object")) (by decide) (by decide))))
  have f6 := (p_L.1.keep K3)
  refine own_put (pc' := 20) X4 (host := "") (Or.inl (W 432 rfl)) Via.refl f5 f6 (Or.inr ⟨(W 433 rfl), rfl, rfl⟩) (W 419 rfl) (ty := (.object "java/lang/Object")) (by decide) rfl rfl n_a dd_jdk_44_method_2_17 rfl ?_
  intro T7 h7 X7 W7 K7
  have f7_ := f5.same W7
  have f8 := (f6.keep K7)
  have f9 := (f3_.other W7 (Or.inr (slot_ne (Or.inr (W 431 rfl)) (Or.inr (W 433 rfl)) (by decide) (t := (.object "java/lang/Object")) (t' := (.object "java/lang/Object")) (by decide) (by decide))))
  exact own_retV X7 hGe rfl dd_jdk_44_method_2_20 (by decide) (by decide) ⟨rfl, (((Keep.refl h0 [a]).trans K3 (allS (Or.inl (List.mem_of_getElem? (i := 0) rfl)) all0)).trans K7 (allS (Or.inl (List.mem_of_getElem? (i := 0) rfl)) all0)), ⟨f8, f9, f7_⟩⟩
theorem dd_jdk_45_method_1_0 : decode jdk_45_method_1_code 0 = .ok (.aload_n 0, 1) := by decide +kernel
theorem dd_jdk_45_method_1_1 : decode jdk_45_method_1_code 1 = .ok (.invokespecial 1, 3) := by decide +kernel
theorem dd_jdk_45_method_1_4 : decode jdk_45_method_1_code 4 = .ok (.aload_n 0, 1) := by decide +kernel
theorem dd_jdk_45_method_1_5 : decode jdk_45_method_1_code 5 = .ok (.aload_n 1, 1) := by decide +kernel
theorem dd_jdk_45_method_1_6 : decode jdk_45_method_1_code 6 = .ok (.putfield 7, 3) := by decide +kernel
theorem dd_jdk_45_method_1_9 : decode jdk_45_method_1_code 9 = .ok (.aload_n 0, 1) := by decide +kernel
theorem dd_jdk_45_method_1_10 : decode jdk_45_method_1_code 10 = .ok (.iload_n 2, 1) := by decide +kernel
theorem dd_jdk_45_method_1_11 : decode jdk_45_method_1_code 11 = .ok (.putfield 13, 3) := by decide +kernel
theorem dd_jdk_45_method_1_14 : decode jdk_45_method_1_code 14 = .ok (.return_, 1) := by decide +kernel
theorem pn_8 : plainName "java/util/ImmutableCollections$ListN" = true := by first | (simp [plainName, overriddenIn]; done) | decide +kernel
theorem ef_own_lni (m : MethodId) (x0 : Addr) (x1 : Addr) (x2 : Int32) : entryFrame m #[(.ref x0), (.ref x1), (.int x2)] 3 = mkF m 0 #[.val (.ref x0), .val (.ref x1), .val (.int x2)] [] := by first | (simp [entryFrame, mkF, argsToLocals, Value.category]; done) | rfl
set_option maxRecDepth 65536 in
set_option maxHeartbeats 40000000 in
theorem own_lni (l : Launch) (Z : State) (a0 : Array Value) (hw : ∀ d ∈ tables_1, d.before a0 Z = true) (n0 : Nat) (a q : Addr) (h0 : Heap) (O0 : Old Z n0 h0) (n_a : n0 ≤ a) (p_L : (Exa Z h0 a "java/util/ImmutableCollections$ListN" ∧ Fld Z h0 a "java/util/ImmutableCollections$ListN" "elements" "[Ljava/lang/Object;" .null ∧ Fld Z h0 a "java/util/ImmutableCollections$ListN" "allowNulls" "Z" (.int 0))) :
    own_Met l Z n0 (⟨"java/util/ImmutableCollections$ListN", "<init>", "([Ljava/lang/Object;Z)V"⟩ : MethodName) jdk_45_method_1_code 3 none ({ frames := 4, cells := 0, slots := 0, locals := 48 } : Room) #[(.ref a), (.ref q), (.int (0 : Int32))] h0 (fun v h => v = none ∧ Keep h0 h [a] ∧ (Exa Z h a "java/util/ImmutableCollections$ListN" ∧ Fld Z h a "java/util/ImmutableCollections$ListN" "elements" "[Ljava/lang/Object;" (.ref q) ∧ Fld Z h a "java/util/ImmutableCollections$ListN" "allowNulls" "Z" (.int 0))) := by
  refine own_enter (own := "java/util/ImmutableCollections$ListN") (nm := "<init>") (plainFor_of_name pn_8) rfl rfl O0 ?_
  have W : ∀ (k : Nat) {d : Jvm.Cond}, tables_1[k]? = some d → d.before a0 Z = true := fun k d q => hw d (List.mem_of_getElem? q)
  intro G p e s m below meth c T0 hGe X0
  rw [ef_own_lni m a q ((0 : Int32))]
  refine own_aload_n (pc' := 1) X0 dd_jdk_45_method_1_0 rfl rfl rfl ?_
  refine own_callIM (pc' := 4) (cells' := 0) (slots' := 0) (argsL := []) (rest := []) (W := 0) (y := (⟨"java/util/ImmutableCollections$AbstractImmutableList", "<init>", "()V"⟩ : MethodName)) (a := a) X0 (W 218 rfl) (W 219 rfl) rfl (by decide) (own_aili l Z a0 hw n0 a h0 (own_old X0) ) (W 223 rfl) (W 222 rfl) (by decide) (by decide) rfl (lenOf pd_0 rfl) rfl rfl dd_jdk_45_method_1_1 rfl rfl rfl rfl (by decide) (by decide) ?_
  intro v1 T1 h1 X1 q1
  obtain ⟨rfl, rfl⟩ := q1
  show G T1 (mkF m 4 #[.val (.ref a), .val (.ref q), .val (.int (0 : Int32))] [])
  refine own_aload_n (pc' := 5) X1 dd_jdk_45_method_1_4 rfl rfl rfl ?_
  refine own_aload_n (pc' := 6) X1 dd_jdk_45_method_1_5 rfl rfl rfl ?_
  refine own_put (pc' := 9) X1 (host := "") (Or.inl (W 232 rfl)) Via.refl p_L.2.1 p_L.1 (Or.inr ⟨(W 233 rfl), rfl, rfl⟩) (W 212 rfl) (ty := (.array (.object "java/lang/Object"))) (by decide) rfl rfl n_a dd_jdk_45_method_1_6 rfl ?_
  intro T2 h2 X2 W2 K2
  have f2_ := p_L.2.1.same W2
  refine own_aload_n (pc' := 10) X2 dd_jdk_45_method_1_9 rfl rfl rfl ?_
  refine own_iload_n (pc' := 11) X2 dd_jdk_45_method_1_10 rfl rfl ?_
  have f3 := (p_L.2.2.other W2 (Or.inr (slot_ne (Or.inr (W 235 rfl)) (Or.inr (W 233 rfl)) (by decide) (t := .boolean) (t' := (.array (.object "java/lang/Object"))) (by decide) (by decide))))
  have f4 := (p_L.1.keep K2)
  refine own_put (pc' := 14) X2 (host := "") (Or.inl (W 234 rfl)) Via.refl f3 f4 (Or.inr ⟨(W 235 rfl), rfl, rfl⟩) (W 212 rfl) (ty := .boolean) (by decide) rfl rfl n_a dd_jdk_45_method_1_11 rfl ?_
  intro T5 h5 X5 W5 K5
  have f5_ := f3.same W5
  have f6 := (f4.keep K5)
  have f7 := (f2_.other W5 (Or.inr (slot_ne (Or.inr (W 233 rfl)) (Or.inr (W 235 rfl)) (by decide) (t := (.array (.object "java/lang/Object"))) (t' := .boolean) (by decide) (by decide))))
  exact own_retV X5 hGe rfl dd_jdk_45_method_1_14 (by decide) (by decide) ⟨rfl, (((Keep.refl h0 [a]).trans K2 (allS (Or.inl (List.mem_of_getElem? (i := 0) rfl)) all0)).trans K5 (allS (Or.inl (List.mem_of_getElem? (i := 0) rfl)) all0)), ⟨f6, f7, f5_⟩⟩
theorem dd_jdk_56_method_4_0 : decode jdk_56_method_4_code 0 = .ok (.aload_n 0, 1) := by decide +kernel
theorem dd_jdk_56_method_4_1 : decode jdk_56_method_4_code 1 = .ok (.arraylength, 1) := by decide +kernel
theorem dd_jdk_56_method_4_2 : decode jdk_56_method_4_code 2 = .ok (.anewarray 2, 3) := by decide +kernel
theorem dd_jdk_56_method_4_5 : decode jdk_56_method_4_code 5 = .ok (.astore_n 1, 1) := by decide +kernel
theorem dd_jdk_56_method_4_6 : decode jdk_56_method_4_code 6 = .ok (.iconst 0, 1) := by decide +kernel
theorem dd_jdk_56_method_4_7 : decode jdk_56_method_4_code 7 = .ok (.istore_n 2, 1) := by decide +kernel
theorem dd_jdk_56_method_4_8 : decode jdk_56_method_4_code 8 = .ok (.iload_n 2, 1) := by decide +kernel
theorem dd_jdk_56_method_4_9 : decode jdk_56_method_4_code 9 = .ok (.aload_n 0, 1) := by decide +kernel
theorem dd_jdk_56_method_4_10 : decode jdk_56_method_4_code 10 = .ok (.arraylength, 1) := by decide +kernel
theorem dd_jdk_56_method_4_11 : decode jdk_56_method_4_code 11 = .ok (.if_icmp .ge 18, 3) := by decide +kernel
theorem dd_jdk_56_method_4_14 : decode jdk_56_method_4_code 14 = .ok (.aload_n 1, 1) := by decide +kernel
theorem dd_jdk_56_method_4_15 : decode jdk_56_method_4_code 15 = .ok (.iload_n 2, 1) := by decide +kernel
theorem dd_jdk_56_method_4_16 : decode jdk_56_method_4_code 16 = .ok (.aload_n 0, 1) := by decide +kernel
theorem dd_jdk_56_method_4_17 : decode jdk_56_method_4_code 17 = .ok (.iload_n 2, 1) := by decide +kernel
theorem dd_jdk_56_method_4_18 : decode jdk_56_method_4_code 18 = .ok (.aaload, 1) := by decide +kernel
theorem dd_jdk_56_method_4_19 : decode jdk_56_method_4_code 19 = .ok (.invokestatic 37, 3) := by decide +kernel
theorem dd_jdk_56_method_4_22 : decode jdk_56_method_4_code 22 = .ok (.aastore, 1) := by decide +kernel
theorem dd_jdk_56_method_4_23 : decode jdk_56_method_4_code 23 = .ok (.iinc 2 1, 3) := by decide +kernel
theorem dd_jdk_56_method_4_26 : decode jdk_56_method_4_code 26 = .ok (.goto (-18), 3) := by decide +kernel
theorem dd_jdk_56_method_4_29 : decode jdk_56_method_4_code 29 = .ok (.new 12, 3) := by decide +kernel
theorem dd_jdk_56_method_4_32 : decode jdk_56_method_4_code 32 = .ok (.dup, 1) := by decide +kernel
theorem dd_jdk_56_method_4_33 : decode jdk_56_method_4_code 33 = .ok (.aload_n 1, 1) := by decide +kernel
theorem dd_jdk_56_method_4_34 : decode jdk_56_method_4_code 34 = .ok (.iconst 0, 1) := by decide +kernel
theorem dd_jdk_56_method_4_35 : decode jdk_56_method_4_code 35 = .ok (.invokespecial 43, 3) := by decide +kernel
theorem pd_4 : parseMethodDescriptor "([Ljava/lang/Object;Z)V" = some ⟨[(.array (.object "java/lang/Object")), .boolean], none⟩ := by decide +kernel
theorem dd_jdk_56_method_4_38 : decode jdk_56_method_4_code 38 = .ok (.areturn, 1) := by decide +kernel
theorem pn_9 : plainName "java/util/ImmutableCollections" = true := by first | (simp [plainName, overriddenIn]; done) | decide +kernel
theorem ef_own_lfa (m : MethodId) (x0 : Addr) : entryFrame m #[(.ref x0)] 3 = mkF m 0 #[.val (.ref x0), .unset, .unset] [] := by first | (simp [entryFrame, mkF, argsToLocals, Value.category]; done) | rfl
set_option maxRecDepth 65536 in
set_option maxHeartbeats 40000000 in
theorem own_lfa (l : Launch) (Z : State) (a0 : Array Value) (hw : ∀ d ∈ tables_1, d.before a0 Z = true) (n0 : Nat) (a em ey : Addr) (ka : ClassId) (x0 x1 x2 : Addr) (h0 : Heap) (O0 : Old Z n0 h0) (p_A : own_Arr Z h0 a ka (.object "java/lang/Object") [(.ref x0), (.ref x1), (.ref x2)]) (p_x0 : Exa Z h0 x0 "java/util/KeyValueHolder") (p_x1 : Exa Z h0 x1 "java/util/KeyValueHolder") (p_x2 : Exa Z h0 x2 "java/util/KeyValueHolder") :
    own_Met l Z n0 (⟨"java/util/ImmutableCollections", "listFromArray", "([Ljava/lang/Object;)Ljava/util/List;"⟩ : MethodName) jdk_56_method_4_code 3 (some (.object "java/util/List")) ({ frames := 5, cells := 2, slots := 5, locals := 63 } : Room) #[(.ref a)] h0 (fun v h => ∃ c : Addr, v = some (.ref c) ∧ Keep h0 h [] ∧ own_IL Z h em ey c [x0, x1, x2]) := by
  refine own_enter (own := "java/util/ImmutableCollections") (nm := "listFromArray") (plainFor_of_name pn_9) rfl rfl O0 ?_
  have W : ∀ (k : Nat) {d : Jvm.Cond}, tables_1[k]? = some d → d.before a0 Z = true := fun k d q => hw d (List.mem_of_getElem? q)
  intro G p e s m below meth c T0 hGe X0
  rw [ef_own_lfa m a]
  refine own_aload_n (pc' := 1) X0 dd_jdk_56_method_4_0 rfl rfl rfl ?_
  refine own_arraylength (pc' := 2) (z := (3 : Int32)) X0 p_A rfl dd_jdk_56_method_4_1 rfl ?_
  refine own_anewR (pc' := 5) (cells' := 1) (slots' := 3) (n := 3) (cap := 3) (ad := "[Ljava/lang/Object;") X0 (W 210 rfl) (W 26 rfl) (by decide) (by decide) (by decide) dd_jdk_56_method_4_2 rfl rfl (by decide) (by decide) rfl (by decide) (by decide) ?_
  intro T1 h1 a1 k1 g1 X1 K1 A1 E1 V1
  have n_a1 : n0 ≤ a1 := by rw [g1]; exact own_n0 X0
  have A1' : own_Arr Z h1 a1 k1 (.object "java/lang/Object") [.null, .null, .null] := A1
  refine own_astore_n (pc' := 6) X1 dd_jdk_56_method_4_5 rfl rfl (Ls' := #[.val (.ref a), .val (.ref a1), .unset]) rfl ?_
  refine own_iconst (pc' := 7) X1 dd_jdk_56_method_4_6 rfl (z := (0 : Int32)) (by decide) ?_
  refine own_istore_n (pc' := 8) X1 dd_jdk_56_method_4_7 rfl (Ls' := #[.val (.ref a), .val (.ref a1), .val (.int (0 : Int32))]) rfl ?_
  refine own_iload_n (pc' := 9) X1 dd_jdk_56_method_4_8 rfl rfl ?_
  refine own_aload_n (pc' := 10) X1 dd_jdk_56_method_4_9 rfl rfl rfl ?_
  have f2 := (p_A.keep K1 nin0)
  refine own_arraylength (pc' := 11) (z := (3 : Int32)) X1 f2 rfl dd_jdk_56_method_4_10 rfl ?_
  refine own_icmpN (pc' := 14) X1 dd_jdk_56_method_4_11 rfl ((tlt (by decide)).2.1) ?_
  refine own_aload_n (pc' := 15) X1 dd_jdk_56_method_4_14 rfl rfl rfl ?_
  refine own_iload_n (pc' := 16) X1 dd_jdk_56_method_4_15 rfl rfl ?_
  refine own_aload_n (pc' := 17) X1 dd_jdk_56_method_4_16 rfl rfl rfl ?_
  refine own_iload_n (pc' := 18) X1 dd_jdk_56_method_4_17 rfl rfl ?_
  refine own_aaload (pc' := 19) (i := 0) (v := (.ref x0)) X1 f2 rfl (by decide) rfl dd_jdk_56_method_4_18 rfl ?_
  refine own_callSM (pc' := 22) (cells' := 1) (slots' := 3) (argsL := [(.ref x0)]) (rest := [(.int (0 : Int32)), (.ref a1)]) (W := 2) (y := (⟨"java/util/Objects", "requireNonNull", "(Ljava/lang/Object;)Ljava/lang/Object;"⟩ : MethodName)) X1 (W 211 rfl) (W 18 rfl) (by decide) (own_rnn l Z a0 hw n0 x0 h1 (own_old X1) ) (W 20 rfl) (W 19 rfl) (by decide) (by decide) rfl (lenOf pd_3 rfl) rfl rfl dd_jdk_56_method_4_19 rfl rfl rfl rfl (by decide) (by decide) ?_
  intro v3 T3 h3 X3 q3
  obtain ⟨rfl, rfl⟩ := q3
  show G T3 (mkF m 22 #[.val (.ref a), .val (.ref a1), .val (.int (0 : Int32))] [(.ref x0), (.int (0 : Int32)), (.ref a1)])
  have f4 := (p_x0.keep K1)
  refine own_aastore (pc' := 23) (i := 0) X3 A1' rfl rfl (own_stoR A1' V1 (Ins.of_exa f4 (W 27 rfl))) (by decide) (Nat.le_of_ble_eq_true rfl) n_a1 dd_jdk_56_method_4_22 rfl ?_
  intro T5 h5 X5 K5 A5
  have A5' : own_Arr Z h5 a1 k1 (.object "java/lang/Object") [(.ref x0), .null, .null] := A5
  refine own_iinc (pc' := 26) X5 dd_jdk_56_method_4_23 rfl rfl (z := (1 : Int32)) (by decide) (r := (1 : Int32)) (by decide) (Ls' := #[.val (.ref a), .val (.ref a1), .val (.int (1 : Int32))]) rfl ?_
  refine own_goto (pc' := 8) X5 dd_jdk_56_method_4_26 (by decide) (by decide) ?_
  refine own_iload_n (pc' := 9) X5 dd_jdk_56_method_4_8 rfl rfl ?_
  refine own_aload_n (pc' := 10) X5 dd_jdk_56_method_4_9 rfl rfl rfl ?_
  have ne_a_a1 : a ≠ a1 := own_ne p_A.lt (Nat.le_refl _) (Nat.le_of_eq (Eq.symm g1))
  have f6 := (f2.keep K5 (ninS ne_a_a1 nin0))
  refine own_arraylength (pc' := 11) (z := (3 : Int32)) X5 f6 rfl dd_jdk_56_method_4_10 rfl ?_
  refine own_icmpN (pc' := 14) X5 dd_jdk_56_method_4_11 rfl ((tlt (by decide)).2.1) ?_
  refine own_aload_n (pc' := 15) X5 dd_jdk_56_method_4_14 rfl rfl rfl ?_
  refine own_iload_n (pc' := 16) X5 dd_jdk_56_method_4_15 rfl rfl ?_
  refine own_aload_n (pc' := 17) X5 dd_jdk_56_method_4_16 rfl rfl rfl ?_
  refine own_iload_n (pc' := 18) X5 dd_jdk_56_method_4_17 rfl rfl ?_
  refine own_aaload (pc' := 19) (i := 1) (v := (.ref x1)) X5 f6 rfl (by decide) rfl dd_jdk_56_method_4_18 rfl ?_
  refine own_callSM (pc' := 22) (cells' := 1) (slots' := 3) (argsL := [(.ref x1)]) (rest := [(.int (1 : Int32)), (.ref a1)]) (W := 2) (y := (⟨"java/util/Objects", "requireNonNull", "(Ljava/lang/Object;)Ljava/lang/Object;"⟩ : MethodName)) X5 (W 211 rfl) (W 18 rfl) (by decide) (own_rnn l Z a0 hw n0 x1 h5 (own_old X5) ) (W 20 rfl) (W 19 rfl) (by decide) (by decide) rfl (lenOf pd_3 rfl) rfl rfl dd_jdk_56_method_4_19 rfl rfl rfl rfl (by decide) (by decide) ?_
  intro v7 T7 h7 X7 q7
  obtain ⟨rfl, rfl⟩ := q7
  show G T7 (mkF m 22 #[.val (.ref a), .val (.ref a1), .val (.int (1 : Int32))] [(.ref x1), (.int (1 : Int32)), (.ref a1)])
  have f8 := ((p_x1.keep K1).keep K5)
  refine own_aastore (pc' := 23) (i := 1) X7 A5' rfl rfl (own_stoR A5' V1 (Ins.of_exa f8 (W 27 rfl))) (by decide) (Nat.le_of_ble_eq_true rfl) n_a1 dd_jdk_56_method_4_22 rfl ?_
  intro T9 h9 X9 K9 A9
  have A9' : own_Arr Z h9 a1 k1 (.object "java/lang/Object") [(.ref x0), (.ref x1), .null] := A9
  refine own_iinc (pc' := 26) X9 dd_jdk_56_method_4_23 rfl rfl (z := (1 : Int32)) (by decide) (r := (2 : Int32)) (by decide) (Ls' := #[.val (.ref a), .val (.ref a1), .val (.int (2 : Int32))]) rfl ?_
  refine own_goto (pc' := 8) X9 dd_jdk_56_method_4_26 (by decide) (by decide) ?_
  refine own_iload_n (pc' := 9) X9 dd_jdk_56_method_4_8 rfl rfl ?_
  refine own_aload_n (pc' := 10) X9 dd_jdk_56_method_4_9 rfl rfl rfl ?_
  have f10 := (f6.keep K9 (ninS ne_a_a1 nin0))
  refine own_arraylength (pc' := 11) (z := (3 : Int32)) X9 f10 rfl dd_jdk_56_method_4_10 rfl ?_
  refine own_icmpN (pc' := 14) X9 dd_jdk_56_method_4_11 rfl ((tlt (by decide)).2.1) ?_
  refine own_aload_n (pc' := 15) X9 dd_jdk_56_method_4_14 rfl rfl rfl ?_
  refine own_iload_n (pc' := 16) X9 dd_jdk_56_method_4_15 rfl rfl ?_
  refine own_aload_n (pc' := 17) X9 dd_jdk_56_method_4_16 rfl rfl rfl ?_
  refine own_iload_n (pc' := 18) X9 dd_jdk_56_method_4_17 rfl rfl ?_
  refine own_aaload (pc' := 19) (i := 2) (v := (.ref x2)) X9 f10 rfl (by decide) rfl dd_jdk_56_method_4_18 rfl ?_
  refine own_callSM (pc' := 22) (cells' := 1) (slots' := 3) (argsL := [(.ref x2)]) (rest := [(.int (2 : Int32)), (.ref a1)]) (W := 2) (y := (⟨"java/util/Objects", "requireNonNull", "(Ljava/lang/Object;)Ljava/lang/Object;"⟩ : MethodName)) X9 (W 211 rfl) (W 18 rfl) (by decide) (own_rnn l Z a0 hw n0 x2 h9 (own_old X9) ) (W 20 rfl) (W 19 rfl) (by decide) (by decide) rfl (lenOf pd_3 rfl) rfl rfl dd_jdk_56_method_4_19 rfl rfl rfl rfl (by decide) (by decide) ?_
  intro v11 T11 h11 X11 q11
  obtain ⟨rfl, rfl⟩ := q11
  show G T11 (mkF m 22 #[.val (.ref a), .val (.ref a1), .val (.int (2 : Int32))] [(.ref x2), (.int (2 : Int32)), (.ref a1)])
  have f12 := (((p_x2.keep K1).keep K5).keep K9)
  refine own_aastore (pc' := 23) (i := 2) X11 A9' rfl rfl (own_stoR A9' V1 (Ins.of_exa f12 (W 27 rfl))) (by decide) (Nat.le_of_ble_eq_true rfl) n_a1 dd_jdk_56_method_4_22 rfl ?_
  intro T13 h13 X13 K13 A13
  have A13' : own_Arr Z h13 a1 k1 (.object "java/lang/Object") [(.ref x0), (.ref x1), (.ref x2)] := A13
  refine own_iinc (pc' := 26) X13 dd_jdk_56_method_4_23 rfl rfl (z := (1 : Int32)) (by decide) (r := (3 : Int32)) (by decide) (Ls' := #[.val (.ref a), .val (.ref a1), .val (.int (3 : Int32))]) rfl ?_
  refine own_goto (pc' := 8) X13 dd_jdk_56_method_4_26 (by decide) (by decide) ?_
  refine own_iload_n (pc' := 9) X13 dd_jdk_56_method_4_8 rfl rfl ?_
  refine own_aload_n (pc' := 10) X13 dd_jdk_56_method_4_9 rfl rfl rfl ?_
  have f14 := (f10.keep K13 (ninS ne_a_a1 nin0))
  refine own_arraylength (pc' := 11) (z := (3 : Int32)) X13 f14 rfl dd_jdk_56_method_4_10 rfl ?_
  refine own_icmpY (pc' := 29) X13 dd_jdk_56_method_4_11 ((flt (by decide)).2.1) (by decide) (by decide) ?_
  refine own_new (pc' := 32) (cells' := 2) (slots' := 5) X13 (W 142 rfl) (W 212 rfl) (W 213 rfl) dd_jdk_56_method_4_29 rfl rfl rfl (by decide) (by decide) ?_
  intro T15 h15 a15 g15 X15 K15 E15 D15 U15
  have n_a15 : n0 ≤ a15 := by rw [g15]; exact own_n0 X13
  have F15_elements : Fld Z h15 a15 "java/util/ImmutableCollections$ListN" "elements" "[Ljava/lang/Object;" .null := D15 (Or.inr (W 233 rfl)) (ty := (.array (.object "java/lang/Object"))) (by decide)
  have F15_allowNulls : Fld Z h15 a15 "java/util/ImmutableCollections$ListN" "allowNulls" "Z" (.int (0 : Int32)) := D15 (Or.inr (W 235 rfl)) (ty := .boolean) (by decide)
  refine own_dup (pc' := 33) X15 dd_jdk_56_method_4_32 rfl rfl ?_
  refine own_aload_n (pc' := 34) X15 dd_jdk_56_method_4_33 rfl rfl rfl ?_
  refine own_iconst (pc' := 35) X15 dd_jdk_56_method_4_34 rfl (z := (0 : Int32)) (by decide) ?_
  refine own_callINM (pc' := 38) (cells' := 2) (slots' := 5) (argsL := [(.ref a1), (.int (0 : Int32))]) (rest := [(.ref a15)]) (W := 1) (y := (⟨"java/util/ImmutableCollections$ListN", "<init>", "([Ljava/lang/Object;Z)V"⟩ : MethodName)) (a := a15) X15 (W 214 rfl) (W 215 rfl) rfl (by decide) (own_lni l Z a0 hw n0 a15 a1 h15 (own_old X15) n_a15 ⟨E15, F15_elements, F15_allowNulls⟩) (W 217 rfl) (W 213 rfl) (by decide) (by decide) rfl (lenOf pd_4 rfl) rfl rfl dd_jdk_56_method_4_35 rfl rfl rfl rfl (by decide) (by decide) ?_
  intro v16 T16 h16 X16 q16
  obtain ⟨rfl, K16, P16⟩ := q16
  show G T16 (mkF m 38 #[.val (.ref a), .val (.ref a1), .val (.int (3 : Int32))] [(.ref a15)])
  have age_a1 : h0.size ≤ a1 := Nat.le_trans (Nat.le_refl _) (Nat.le_of_eq (Eq.symm g1))
  have age_a15 : h0.size ≤ a15 := Nat.le_trans (Nat.le_trans K1.1 (Nat.le_trans K5.1 (Nat.le_trans K9.1 (Nat.le_trans K13.1 (Nat.le_refl _))))) (Nat.le_of_eq (Eq.symm g15))
  have ne_a1_a15 : a1 ≠ a15 := own_ne A1'.lt (Nat.le_trans K5.1 (Nat.le_trans K9.1 (Nat.le_trans K13.1 (Nat.le_refl _)))) (Nat.le_of_eq (Eq.symm g15))
  have f17 := ((A13'.keep K15 nin0).keep K16 (ninS ne_a1_a15 nin0))
  have f18 := (((((E1.keep K5).keep K9).keep K13).keep K15).keep K16)
  exact own_ret X16 hGe (t := (.object "java/util/List")) rfl rfl (Or.inr (Or.inr (Or.inr (Or.inr ⟨rfl, rfl, rfl⟩)))) dd_jdk_56_method_4_38 (by decide) (by decide) ⟨a15, rfl, (((((((Keep.refl h0 []).trans K1 all0).trans K5 (allS (Or.inr age_a1) all0)).trans K9 (allS (Or.inr age_a1) all0)).trans K13 (allS (Or.inr age_a1) all0)).trans K15 all0).trans K16 (allS (Or.inr age_a15) all0)), own_IL3 ⟨P16.1, P16.2.1, P16.2.2⟩ f17 f18⟩
theorem dd_jdk_40_method_36_0 : decode jdk_40_method_36_code 0 = .ok (.getstatic 90, 3) := by decide +kernel
theorem dd_jdk_40_method_36_3 : decode jdk_40_method_36_code 3 = .ok (.areturn, 1) := by decide +kernel
theorem pn_10 : plainName "java/util/List" = true := by first | (simp [plainName, overriddenIn]; done) | decide +kernel
theorem ef_own_lof (m : MethodId)  : entryFrame m #[] 0 = mkF m 0 #[] [] := by first | (simp [entryFrame, mkF, argsToLocals, Value.category]; done) | rfl
set_option maxRecDepth 65536 in
set_option maxHeartbeats 40000000 in
theorem own_lof (l : Launch) (Z : State) (a0 : Array Value) (hw : ∀ d ∈ tables_1, d.before a0 Z = true) (n0 : Nat) (em ea : Addr) (h0 : Heap) (O0 : Old Z n0 h0) (EM : own_EMP Z em ea) :
    own_Met l Z n0 (⟨"java/util/List", "of", "()Ljava/util/List;"⟩ : MethodName) jdk_40_method_36_code 0 (some (.object "java/util/List")) ({ frames := 0, cells := 0, slots := 0, locals := 0 } : Room) #[] h0 (fun v h => v = some (.ref em) ∧ h0 = h) := by
  refine own_enter (own := "java/util/List") (nm := "of") (plainFor_of_name pn_10) rfl rfl O0 ?_
  have W : ∀ (k : Nat) {d : Jvm.Cond}, tables_1[k]? = some d → d.before a0 Z = true := fun k d q => hw d (List.mem_of_getElem? q)
  intro G p e s m below meth c T0 hGe X0
  rw [ef_own_lof m]
  refine own_getS (pc' := 3) X0 (W 155 rfl) Via.refl (own_sta X0 EM.1) dd_jdk_40_method_36_0 rfl ?_
  intro T1 X1
  exact own_ret X1 hGe (t := (.object "java/util/List")) rfl rfl (Or.inr (Or.inr (Or.inr (Or.inr ⟨rfl, rfl, rfl⟩)))) dd_jdk_40_method_36_3 (by decide) (by decide) ⟨rfl, rfl⟩
theorem dd_jdk_38_method_9_0 : decode jdk_38_method_9_code 0 = .ok (.aload_n 0, 1) := by decide +kernel
theorem dd_jdk_38_method_9_1 : decode jdk_38_method_9_code 1 = .ok (.getfield 48, 3) := by decide +kernel
theorem dd_jdk_38_method_9_4 : decode jdk_38_method_9_code 4 = .ok (.ifCond .ne 7, 3) := by decide +kernel
theorem dd_jdk_38_method_9_7 : decode jdk_38_method_9_code 7 = .ok (.iconst 1, 1) := by decide +kernel
theorem dd_jdk_38_method_9_8 : decode jdk_38_method_9_code 8 = .ok (.goto 4, 3) := by decide +kernel
theorem dd_jdk_38_method_9_12 : decode jdk_38_method_9_code 12 = .ok (.ireturn, 1) := by decide +kernel
theorem dd_jdk_38_method_9_11 : decode jdk_38_method_9_code 11 = .ok (.iconst 0, 1) := by decide +kernel
theorem ef_own_ale (m : MethodId) (x0 : Addr) : entryFrame m #[(.ref x0)] 1 = mkF m 0 #[.val (.ref x0)] [] := by first | (simp [entryFrame, mkF, argsToLocals, Value.category]; done) | rfl
set_option maxRecDepth 65536 in
set_option maxHeartbeats 40000000 in
theorem own_ale (l : Launch) (Z : State) (a0 : Array Value) (hw : ∀ d ∈ tables_1, d.before a0 Z = true) (n0 : Nat) (a : Addr) (z : Int32) (h0 : Heap) (O0 : Old Z n0 h0) (p_S : Fld Z h0 a "java/util/ArrayList" "size" "I" (.int z)) :
    own_Met l Z n0 (⟨"java/util/ArrayList", "isEmpty", "()Z"⟩ : MethodName) jdk_38_method_9_code 1 (some .boolean) ({ frames := 0, cells := 0, slots := 0, locals := 0 } : Room) #[(.ref a)] h0 (fun v h => v = some (.int (if z = 0 then (1 : Int32) else 0)) ∧ h0 = h) := by
  refine own_enter (own := "java/util/ArrayList") (nm := "isEmpty") (plainFor_of_name pn_2) rfl rfl O0 ?_
  have W : ∀ (k : Nat) {d : Jvm.Cond}, tables_1[k]? = some d → d.before a0 Z = true := fun k d q => hw d (List.mem_of_getElem? q)
  intro G p e s m below meth c T0 hGe X0
  rw [ef_own_ale m a]
  refine own_aload_n (pc' := 1) X0 dd_jdk_38_method_9_0 rfl rfl rfl ?_
  refine own_get (pc' := 4) X0 (host := "") (Or.inl (W 63 rfl)) Via.refl p_S dd_jdk_38_method_9_1 rfl ?_
  intro T1 X1
  by_cases hz : z = 0
  · refine own_ifN (pc' := 7) X1 dd_jdk_38_method_9_4 rfl ((teq hz).2) ?_
    refine own_iconst (pc' := 8) X1 dd_jdk_38_method_9_7 rfl (z := (1 : Int32)) (by decide) ?_
    refine own_goto (pc' := 12) X1 dd_jdk_38_method_9_8 (by decide) (by decide) ?_
    exact own_ret X1 hGe (t := .boolean) rfl rfl (Or.inl ⟨rfl, by simp, _, rfl⟩) dd_jdk_38_method_9_12 (by decide) (by decide) ⟨by rw [if_pos hz], rfl⟩
  · refine own_ifY (pc' := 11) X1 dd_jdk_38_method_9_4 ((feq hz).2) (by decide) (by decide) ?_
    refine own_iconst (pc' := 12) X1 dd_jdk_38_method_9_11 rfl (z := (0 : Int32)) (by decide) ?_
    exact own_ret X1 hGe (t := .boolean) rfl rfl (Or.inl ⟨rfl, by simp, _, rfl⟩) dd_jdk_38_method_9_12 (by decide) (by decide) ⟨by rw [if_neg hz], rfl⟩
theorem dd_jdk_56_method_3_0 : decode jdk_56_method_3_code 0 = .ok (.aload_n 0, 1) := by decide +kernel
theorem dd_jdk_56_method_3_1 : decode jdk_56_method_3_code 1 = .ok (.instanceof 10, 3) := by decide +kernel
theorem dd_jdk_56_method_3_4 : decode jdk_56_method_3_code 4 = .ok (.ifCond .ne 22, 3) := by decide +kernel
theorem dd_jdk_56_method_3_7 : decode jdk_56_method_3_code 7 = .ok (.aload_n 0, 1) := by decide +kernel
theorem dd_jdk_56_method_3_8 : decode jdk_56_method_3_code 8 = .ok (.instanceof 12, 3) := by decide +kernel
theorem dd_jdk_56_method_3_11 : decode jdk_56_method_3_code 11 = .ok (.ifCond .eq 20, 3) := by decide +kernel
theorem dd_jdk_56_method_3_31 : decode jdk_56_method_3_code 31 = .ok (.aload_n 0, 1) := by decide +kernel
theorem dd_jdk_56_method_3_32 : decode jdk_56_method_3_code 32 = .ok (.invokeinterface 20 1, 5) := by decide +kernel
theorem pd_5 : parseMethodDescriptor "()Z" = some ⟨[], some .boolean⟩ := by decide +kernel
theorem dd_jdk_56_method_3_37 : decode jdk_56_method_3_code 37 = .ok (.ifCond .eq 7, 3) := by decide +kernel
theorem dd_jdk_56_method_3_40 : decode jdk_56_method_3_code 40 = .ok (.invokestatic 26, 3) := by decide +kernel
theorem pd_6 : parseMethodDescriptor "()Ljava/util/List;" = some ⟨[], some (.object "java/util/List")⟩ := by decide +kernel
theorem dd_jdk_56_method_3_43 : decode jdk_56_method_3_code 43 = .ok (.areturn, 1) := by decide +kernel
theorem ef_own_lcp0 (m : MethodId) (x0 : Addr) : entryFrame m #[(.ref x0)] 2 = mkF m 0 #[.val (.ref x0), .unset] [] := by first | (simp [entryFrame, mkF, argsToLocals, Value.category]; done) | rfl
set_option maxRecDepth 65536 in
set_option maxHeartbeats 40000000 in
theorem own_lcp0 (l : Launch) (Z : State) (a0 : Array Value) (hw : ∀ d ∈ tables_1, d.before a0 Z = true) (n0 : Nat) (a ar : Addr) (kr : ClassId) (em ea ey mr : Addr) (h0 : Heap) (O0 : Old Z n0 h0) (p_E : Exa Z h0 a "java/util/ArrayList") (p_F : Fld Z h0 a "java/util/ArrayList" "elementData" "[Ljava/lang/Object;" (.ref ar)) (p_S : Fld Z h0 a "java/util/ArrayList" "size" "I" (.int 0))  (EM : own_EMP Z em ea) (EY : own_MTY Z ey) (MR : own_Mir Z "[Ljava/lang/Object;" mr) :
    own_Met l Z n0 (⟨"java/util/ImmutableCollections", "listCopy", "(Ljava/util/Collection;)Ljava/util/List;"⟩ : MethodName) jdk_56_method_3_code 2 (some (.object "java/util/List")) ({ frames := 1, cells := 0, slots := 0, locals := 12 } : Room) #[(.ref a)] h0 (fun v h => ∃ c : Addr, v = some (.ref c) ∧ Keep h0 h [] ∧ own_IL Z h em ey c []) := by
  refine own_enter (own := "java/util/ImmutableCollections") (nm := "listCopy") (plainFor_of_name pn_9) rfl rfl O0 ?_
  have W : ∀ (k : Nat) {d : Jvm.Cond}, tables_1[k]? = some d → d.before a0 Z = true := fun k d q => hw d (List.mem_of_getElem? q)
  intro G p e s m below meth c T0 hGe X0
  rw [ef_own_lcp0 m a]
  refine own_aload_n (pc' := 1) X0 dd_jdk_56_method_3_0 rfl rfl rfl ?_
  refine own_instN (pc' := 4) X0 (W 137 rfl) p_E (own_Up.no (own_Up.step (W 138 rfl) (own_Up.step (W 139 rfl) (own_Up.step (W 140 rfl) (own_Up.top (W 141 rfl))))) (W 138 rfl) (W 419 rfl) (by decide) (by decide)) dd_jdk_56_method_3_1 rfl ?_
  intro T1 X1
  refine own_ifN (pc' := 7) X1 dd_jdk_56_method_3_4 rfl ((teq rfl).2) ?_
  refine own_aload_n (pc' := 8) X1 dd_jdk_56_method_3_7 rfl rfl rfl ?_
  refine own_instN (pc' := 11) X1 (W 142 rfl) p_E (own_Up.no (own_Up.step (W 138 rfl) (own_Up.step (W 139 rfl) (own_Up.step (W 140 rfl) (own_Up.top (W 141 rfl))))) (W 138 rfl) (W 212 rfl) (by decide) (by decide)) dd_jdk_56_method_3_8 rfl ?_
  intro T2 X2
  refine own_ifY (pc' := 31) X2 dd_jdk_56_method_3_11 ((teq rfl).1) (by decide) (by decide) ?_
  refine own_aload_n (pc' := 32) X2 dd_jdk_56_method_3_31 rfl rfl rfl ?_
  refine own_callFM (pc' := 37) (cells' := 0) (slots' := 0) (argsL := []) (rest := []) (W := 0) (y := (⟨"java/util/Collection", "isEmpty", "()Z"⟩ : MethodName)) (z := (⟨"java/util/ArrayList", "isEmpty", "()Z"⟩ : MethodName)) (a := a) X2 (W 143 rfl) (W 144 rfl) (fun s' a' hZ' => mvT hZ' (W 145 rfl)) (W 146 rfl) (W 147 rfl) (W 148 rfl) (W 149 rfl) (W 150 rfl) (by decide) p_E (own_ale l Z a0 hw n0 a (0 : Int32) h0 (own_old X2) p_S) (W 151 rfl) (W 30 rfl) (by decide) (by decide) rfl (lenOf pd_5 rfl) rfl rfl dd_jdk_56_method_3_32 rfl rfl rfl rfl (by decide) (by decide) ?_
  intro v3 T3 h3 X3 q3
  obtain ⟨rfl, rfl⟩ := q3
  show G T3 (mkF m 37 #[.val (.ref a), .unset] [(.int (if (0 : Int32) = 0 then (1 : Int32) else 0))])
  show G T3 (mkF m 37 #[.val (.ref a), .unset] [(.int (1 : Int32))])
  refine own_ifN (pc' := 40) X3 dd_jdk_56_method_3_37 rfl ((feq (by decide)).1) ?_
  refine own_callSM (pc' := 43) (cells' := 0) (slots' := 0) (argsL := []) (rest := []) (W := 0) (y := (⟨"java/util/List", "of", "()Ljava/util/List;"⟩ : MethodName)) X3 (W 152 rfl) (W 153 rfl) (by decide) (own_lof l Z a0 hw n0 em ea h0 (own_old X3) EM) (W 154 rfl) (W 131 rfl) (by decide) (by decide) rfl (lenOf pd_6 rfl) rfl rfl dd_jdk_56_method_3_40 rfl rfl rfl rfl (by decide) (by decide) ?_
  intro v4 T4 h4 X4 q4
  obtain ⟨rfl, rfl⟩ := q4
  show G T4 (mkF m 43 #[.val (.ref a), .unset] [(.ref em)])
  exact own_ret X4 hGe (t := (.object "java/util/List")) rfl rfl (Or.inr (Or.inr (Or.inr (Or.inr ⟨rfl, rfl, rfl⟩)))) dd_jdk_56_method_3_43 (by decide) (by decide) ⟨em, rfl, (Keep.refl h0 []), own_IL0⟩
theorem dd_jdk_40_method_48_0 : decode jdk_40_method_48_code 0 = .ok (.aload_n 0, 1) := by decide +kernel
theorem dd_jdk_40_method_48_1 : decode jdk_40_method_48_code 1 = .ok (.invokestatic 112, 3) := by decide +kernel
theorem pd_7 : parseMethodDescriptor "(Ljava/util/Collection;)Ljava/util/List;" = some ⟨[(.object "java/util/Collection")], some (.object "java/util/List")⟩ := by decide +kernel
theorem dd_jdk_40_method_48_4 : decode jdk_40_method_48_code 4 = .ok (.areturn, 1) := by decide +kernel
theorem ef_own_cpo0 (m : MethodId) (x0 : Addr) : entryFrame m #[(.ref x0)] 1 = mkF m 0 #[.val (.ref x0)] [] := by first | (simp [entryFrame, mkF, argsToLocals, Value.category]; done) | rfl
set_option maxRecDepth 65536 in
set_option maxHeartbeats 40000000 in
theorem own_cpo0 (l : Launch) (Z : State) (a0 : Array Value) (hw : ∀ d ∈ tables_1, d.before a0 Z = true) (n0 : Nat) (a ar : Addr) (kr : ClassId) (em ea ey mr : Addr) (h0 : Heap) (O0 : Old Z n0 h0) (p_E : Exa Z h0 a "java/util/ArrayList") (p_F : Fld Z h0 a "java/util/ArrayList" "elementData" "[Ljava/lang/Object;" (.ref ar)) (p_S : Fld Z h0 a "java/util/ArrayList" "size" "I" (.int 0))  (EM : own_EMP Z em ea) (EY : own_MTY Z ey) (MR : own_Mir Z "[Ljava/lang/Object;" mr) :
    own_Met l Z n0 (⟨"java/util/List", "copyOf", "(Ljava/util/Collection;)Ljava/util/List;"⟩ : MethodName) jdk_40_method_48_code 1 (some (.object "java/util/List")) ({ frames := 8, cells := 3, slots := 8, locals := 103 } : Room) #[(.ref a)] h0 (fun v h => ∃ c : Addr, v = some (.ref c) ∧ Keep h0 h [] ∧ own_IL Z h em ey c []) := by
  refine own_enter (own := "java/util/List") (nm := "copyOf") (plainFor_of_name pn_10) rfl rfl O0 ?_
  have W : ∀ (k : Nat) {d : Jvm.Cond}, tables_1[k]? = some d → d.before a0 Z = true := fun k d q => hw d (List.mem_of_getElem? q)
  intro G p e s m below meth c T0 hGe X0
  rw [ef_own_cpo0 m a]
  refine own_aload_n (pc' := 1) X0 dd_jdk_40_method_48_0 rfl rfl rfl ?_
  refine own_callSM (pc' := 4) (cells' := 0) (slots' := 0) (argsL := [(.ref a)]) (rest := []) (W := 0) (y := (⟨"java/util/ImmutableCollections", "listCopy", "(Ljava/util/Collection;)Ljava/util/List;"⟩ : MethodName)) X0 (W 133 rfl) (W 134 rfl) (by decide) (own_lcp0 l Z a0 hw n0 a ar kr em ea ey mr  h0 (own_old X0) p_E p_F p_S  EM EY MR) (W 136 rfl) (W 135 rfl) (by decide) (by decide) rfl (lenOf pd_7 rfl) rfl rfl dd_jdk_40_method_48_1 rfl rfl rfl rfl (by decide) (by decide) ?_
  intro v1 T1 h1 X1 q1
  obtain ⟨c1, rfl, K1, I1⟩ := q1
  show G T1 (mkF m 4 #[.val (.ref a)] [(.ref c1)])
  exact own_ret X1 hGe (t := (.object "java/util/List")) rfl rfl (Or.inr (Or.inr (Or.inr (Or.inr ⟨rfl, rfl, rfl⟩)))) dd_jdk_40_method_48_4 (by decide) (by decide) ⟨c1, rfl, ((Keep.refl h0 []).trans K1 all0), I1⟩
theorem dd_jdk_40_method_47_0 : decode jdk_40_method_47_code 0 = .ok (.aload_n 0, 1) := by decide +kernel
theorem dd_jdk_40_method_47_1 : decode jdk_40_method_47_code 1 = .ok (.arraylength, 1) := by decide +kernel
theorem dd_jdk_40_method_47_2 : decode jdk_40_method_47_code 2 = .ok (.tableswitch 57 0 2 #[26, 32, 43], 26) := by decide +kernel
theorem dd_jdk_40_method_47_34 : decode jdk_40_method_47_code 34 = .ok (.new 96, 3) := by decide +kernel
theorem dd_jdk_40_method_47_37 : decode jdk_40_method_47_code 37 = .ok (.dup, 1) := by decide +kernel
theorem dd_jdk_40_method_47_38 : decode jdk_40_method_47_code 38 = .ok (.aload_n 0, 1) := by decide +kernel
theorem dd_jdk_40_method_47_39 : decode jdk_40_method_47_code 39 = .ok (.iconst 0, 1) := by decide +kernel
theorem dd_jdk_40_method_47_40 : decode jdk_40_method_47_code 40 = .ok (.aaload, 1) := by decide +kernel
theorem dd_jdk_40_method_47_41 : decode jdk_40_method_47_code 41 = .ok (.invokespecial 98, 3) := by decide +kernel
theorem pd_8 : parseMethodDescriptor "(Ljava/lang/Object;)V" = some ⟨[(.object "java/lang/Object")], none⟩ := by decide +kernel
theorem dd_jdk_40_method_47_44 : decode jdk_40_method_47_code 44 = .ok (.areturn, 1) := by decide +kernel
theorem ef_own_lofa1 (m : MethodId) (x0 : Addr) : entryFrame m #[(.ref x0)] 2 = mkF m 0 #[.val (.ref x0), .unset] [] := by first | (simp [entryFrame, mkF, argsToLocals, Value.category]; done) | rfl
set_option maxRecDepth 65536 in
set_option maxHeartbeats 40000000 in
theorem own_lofa1 (l : Launch) (Z : State) (a0 : Array Value) (hw : ∀ d ∈ tables_1, d.before a0 Z = true) (n0 : Nat) (a : Addr) (ka : ClassId) (em ea ey mr : Addr) (x0 : Addr) (h0 : Heap) (O0 : Old Z n0 h0) (p_A : own_Arr Z h0 a ka (.object "java/lang/Object") [(.ref x0)]) (p_x0 : Exa Z h0 x0 "java/util/KeyValueHolder") (EM : own_EMP Z em ea) (EY : own_MTY Z ey) (MR : own_Mir Z "[Ljava/lang/Object;" mr) :
    own_Met l Z n0 (⟨"java/util/List", "of", "([Ljava/lang/Object;)Ljava/util/List;"⟩ : MethodName) jdk_40_method_47_code 2 (some (.object "java/util/List")) ({ frames := 5, cells := 1, slots := 2, locals := 62 } : Room) #[(.ref a)] h0 (fun v h => ∃ c : Addr, v = some (.ref c) ∧ Keep h0 h [] ∧ own_IL Z h em ey c [x0]) := by
  refine own_enter (own := "java/util/List") (nm := "of") (plainFor_of_name pn_10) rfl rfl O0 ?_
  have W : ∀ (k : Nat) {d : Jvm.Cond}, tables_1[k]? = some d → d.before a0 Z = true := fun k d q => hw d (List.mem_of_getElem? q)
  intro G p e s m below meth c T0 hGe X0
  rw [ef_own_lofa1 m a]
  refine own_aload_n (pc' := 1) X0 dd_jdk_40_method_47_0 rfl rfl rfl ?_
  refine own_arraylength (pc' := 2) (z := (1 : Int32)) X0 p_A rfl dd_jdk_40_method_47_1 rfl ?_
  refine own_tsw (pc' := 34) X0 dd_jdk_40_method_47_2 (by decide) (o := 32) (by decide) (by decide) (by decide) ?_
  refine own_new (pc' := 37) (cells' := 1) (slots' := 2) X0 (W 418 rfl) (W 419 rfl) (W 420 rfl) dd_jdk_40_method_47_34 rfl rfl rfl (by decide) (by decide) ?_
  intro T1 h1 a1 g1 X1 K1 E1 D1 U1
  have n_a1 : n0 ≤ a1 := by rw [g1]; exact own_n0 X0
  have F1_e0 : Fld Z h1 a1 "java/util/ImmutableCollections$List12" "e0" "Ljava/lang/Object;" .null := D1 (Or.inr (W 431 rfl)) (ty := (.object "java/lang/Object")) (by decide)
  have F1_e1 : Fld Z h1 a1 "java/util/ImmutableCollections$List12" "e1" "Ljava/lang/Object;" .null := D1 (Or.inr (W 433 rfl)) (ty := (.object "java/lang/Object")) (by decide)
  refine own_dup (pc' := 38) X1 dd_jdk_40_method_47_37 rfl rfl ?_
  refine own_aload_n (pc' := 39) X1 dd_jdk_40_method_47_38 rfl rfl rfl ?_
  refine own_iconst (pc' := 40) X1 dd_jdk_40_method_47_39 rfl (z := (0 : Int32)) (by decide) ?_
  have f2 := (p_A.keep K1 nin0)
  refine own_aaload (pc' := 41) (i := 0) (v := (.ref x0)) X1 f2 rfl (by decide) rfl dd_jdk_40_method_47_40 rfl ?_
  refine own_callIM (pc' := 44) (cells' := 1) (slots' := 2) (argsL := [(.ref x0)]) (rest := [(.ref a1)]) (W := 1) (y := (⟨"java/util/ImmutableCollections$List12", "<init>", "(Ljava/lang/Object;)V"⟩ : MethodName)) (a := a1) X1 (W 454 rfl) (W 455 rfl) rfl (by decide) (own_L1i l Z a0 hw n0 a1 x0 ey h1 (own_old X1) n_a1 ⟨E1, F1_e0, F1_e1⟩ EY) (W 456 rfl) (W 420 rfl) (by decide) (by decide) rfl (lenOf pd_8 rfl) rfl rfl dd_jdk_40_method_47_41 rfl rfl rfl rfl (by decide) (by decide) ?_
  intro v3 T3 h3 X3 q3
  obtain ⟨rfl, K3, P3⟩ := q3
  show G T3 (mkF m 44 #[.val (.ref a), .unset] [(.ref a1)])
  have age_a1 : h0.size ≤ a1 := Nat.le_trans (Nat.le_refl _) (Nat.le_of_eq (Eq.symm g1))
  exact own_ret X3 hGe (t := (.object "java/util/List")) rfl rfl (Or.inr (Or.inr (Or.inr (Or.inr ⟨rfl, rfl, rfl⟩)))) dd_jdk_40_method_47_44 (by decide) (by decide) ⟨a1, rfl, (((Keep.refl h0 []).trans K1 all0).trans K3 (allS (Or.inr age_a1) all0)), (own_IL1 ⟨P3.1, P3.2.1, P3.2.2⟩)⟩
theorem dd_jdk_38_method_16_0 : decode jdk_38_method_16_code 0 = .ok (.aload_n 0, 1) := by decide +kernel
theorem dd_jdk_38_method_16_1 : decode jdk_38_method_16_code 1 = .ok (.getfield 9, 3) := by decide +kernel
theorem dd_jdk_38_method_16_4 : decode jdk_38_method_16_code 4 = .ok (.aload_n 0, 1) := by decide +kernel
theorem dd_jdk_38_method_16_5 : decode jdk_38_method_16_code 5 = .ok (.getfield 48, 3) := by decide +kernel
theorem dd_jdk_29_method_69_0 : decode jdk_29_method_69_code 0 = .ok (.iload_n 0, 1) := by decide +kernel
theorem dd_jdk_29_method_69_1 : decode jdk_29_method_69_code 1 = .ok (.iload_n 1, 1) := by decide +kernel
theorem dd_jdk_29_method_69_2 : decode jdk_29_method_69_code 2 = .ok (.if_icmp .gt 7, 3) := by decide +kernel
theorem dd_jdk_29_method_69_9 : decode jdk_29_method_69_code 9 = .ok (.iload_n 1, 1) := by decide +kernel
theorem dd_jdk_29_method_69_10 : decode jdk_29_method_69_code 10 = .ok (.ireturn, 1) := by decide +kernel
theorem pf_11 : plainFor (⟨"java/lang/Math", "min", "(II)I"⟩ : MethodName) = true := by decide +kernel
theorem ef_own_min10_1 (m : MethodId) (x0 : Int32) (x1 : Int32) : entryFrame m #[(.int x0), (.int x1)] 2 = mkF m 0 #[.val (.int x0), .val (.int x1)] [] := by first | (simp [entryFrame, mkF, argsToLocals, Value.category]; done) | rfl
set_option maxRecDepth 65536 in
set_option maxHeartbeats 40000000 in
theorem own_min10_1 (l : Launch) (Z : State) (a0 : Array Value) (hw : ∀ d ∈ tables_1, d.before a0 Z = true) (n0 : Nat)  (h0 : Heap) (O0 : Old Z n0 h0)  :
    own_Met l Z n0 (⟨"java/lang/Math", "min", "(II)I"⟩ : MethodName) jdk_29_method_69_code 2 (some .int) ({ frames := 0, cells := 0, slots := 0, locals := 0 } : Room) #[(.int (10 : Int32)), (.int (1 : Int32))] h0 (fun v h => v = some (.int 1) ∧ h0 = h) := by
  refine own_enter (own := "java/lang/Math") (nm := "min") pf_11 rfl rfl O0 ?_
  have W : ∀ (k : Nat) {d : Jvm.Cond}, tables_1[k]? = some d → d.before a0 Z = true := fun k d q => hw d (List.mem_of_getElem? q)
  intro G p e s m below meth c T0 hGe X0
  rw [ef_own_min10_1 m ((10 : Int32)) ((1 : Int32))]
  refine own_iload_n (pc' := 1) X0 dd_jdk_29_method_69_0 rfl rfl ?_
  refine own_iload_n (pc' := 2) X0 dd_jdk_29_method_69_1 rfl rfl ?_
  refine own_icmpY (pc' := 9) X0 dd_jdk_29_method_69_2 ((tlt (by decide)).2.2.1) (by decide) (by decide) ?_
  refine own_iload_n (pc' := 10) X0 dd_jdk_29_method_69_9 rfl rfl ?_
  exact own_ret X0 hGe (t := .int) rfl rfl (Or.inl ⟨rfl, by simp, _, rfl⟩) dd_jdk_29_method_69_10 (by decide) (by decide) ⟨rfl, rfl⟩
theorem dd_jdk_65_method_120_0 : decode jdk_65_method_120_code 0 = .ok (.aload_n 2, 1) := by decide +kernel
theorem dd_jdk_65_method_120_1 : decode jdk_65_method_120_code 1 = .ok (.ldc 110, 2) := by decide +kernel
theorem dd_jdk_65_method_120_3 : decode jdk_65_method_120_code 3 = .ok (.if_acmp .ne 10, 3) := by decide +kernel
theorem dd_jdk_65_method_120_6 : decode jdk_65_method_120_code 6 = .ok (.iload_n 1, 1) := by decide +kernel
theorem dd_jdk_65_method_120_7 : decode jdk_65_method_120_code 7 = .ok (.anewarray 2, 3) := by decide +kernel
theorem dd_jdk_65_method_120_10 : decode jdk_65_method_120_code 10 = .ok (.goto 14, 3) := by decide +kernel
theorem dd_jdk_65_method_120_24 : decode jdk_65_method_120_code 24 = .ok (.astore_n 3, 1) := by decide +kernel
theorem dd_jdk_65_method_120_25 : decode jdk_65_method_120_code 25 = .ok (.aload_n 0, 1) := by decide +kernel
theorem dd_jdk_65_method_120_26 : decode jdk_65_method_120_code 26 = .ok (.iconst 0, 1) := by decide +kernel
theorem dd_jdk_65_method_120_27 : decode jdk_65_method_120_code 27 = .ok (.aload_n 3, 1) := by decide +kernel
theorem dd_jdk_65_method_120_28 : decode jdk_65_method_120_code 28 = .ok (.iconst 0, 1) := by decide +kernel
theorem dd_jdk_65_method_120_29 : decode jdk_65_method_120_code 29 = .ok (.aload_n 0, 1) := by decide +kernel
theorem dd_jdk_65_method_120_30 : decode jdk_65_method_120_code 30 = .ok (.arraylength, 1) := by decide +kernel
theorem dd_jdk_65_method_120_31 : decode jdk_65_method_120_code 31 = .ok (.iload_n 1, 1) := by decide +kernel
theorem dd_jdk_65_method_120_32 : decode jdk_65_method_120_code 32 = .ok (.invokestatic 304, 3) := by decide +kernel
theorem dd_jdk_65_method_120_35 : decode jdk_65_method_120_code 35 = .ok (.invokestatic 150, 3) := by decide +kernel
theorem dd_jdk_65_method_120_38 : decode jdk_65_method_120_code 38 = .ok (.aload_n 3, 1) := by decide +kernel
theorem dd_jdk_65_method_120_39 : decode jdk_65_method_120_code 39 = .ok (.areturn, 1) := by decide +kernel
theorem pn_12 : plainName "java/util/Arrays" = true := by first | (simp [plainName, overriddenIn]; done) | decide +kernel
theorem ef_own_cpc10_1 (m : MethodId) (x0 : Addr) (x1 : Int32) (x2 : Addr) : entryFrame m #[(.ref x0), (.int x1), (.ref x2)] 4 = mkF m 0 #[.val (.ref x0), .val (.int x1), .val (.ref x2), .unset] [] := by first | (simp [entryFrame, mkF, argsToLocals, Value.category]; done) | rfl
set_option maxRecDepth 65536 in
set_option maxHeartbeats 40000000 in
theorem own_cpc10_1 (l : Launch) (Z : State) (a0 : Array Value) (hw : ∀ d ∈ tables_1, d.before a0 Z = true) (n0 : Nat) (a : Addr) (ka : ClassId) (mr : Addr) (x0 : Addr) (h0 : Heap) (O0 : Old Z n0 h0) (p_A : own_Arr Z h0 a ka (.object "java/lang/Object") [(.ref x0), .null, .null, .null, .null, .null, .null, .null, .null, .null]) (p_E : Exa Z h0 a "[Ljava/lang/Object;") (MR : own_Mir Z "[Ljava/lang/Object;" mr) (p_x0 : Exa Z h0 x0 "java/util/KeyValueHolder") :
    own_Met l Z n0 (⟨"java/util/Arrays", "copyOf", "([Ljava/lang/Object;ILjava/lang/Class;)[Ljava/lang/Object;"⟩ : MethodName) jdk_65_method_120_code 4 (some (.array (.object "java/lang/Object"))) ({ frames := 1, cells := 1, slots := 1, locals := 20 } : Room) #[(.ref a), (.int (1 : Int32)), (.ref mr)] h0 (fun v h => ∃ (d : Addr) (k : ClassId), v = some (.ref d) ∧ Keep h0 h [] ∧ h0.size ≤ d ∧ own_Arr Z h d k (.object "java/lang/Object") [(.ref x0)] ∧ Exa Z h d "[Ljava/lang/Object;") := by
  refine own_enter (own := "java/util/Arrays") (nm := "copyOf") (plainFor_of_name pn_12) rfl rfl O0 ?_
  have W : ∀ (k : Nat) {d : Jvm.Cond}, tables_1[k]? = some d → d.before a0 Z = true := fun k d q => hw d (List.mem_of_getElem? q)
  intro G p e s m below meth c T0 hGe X0
  rw [ef_own_cpc10_1 m a ((1 : Int32)) mr]
  refine own_aload_n (pc' := 1) X0 dd_jdk_65_method_120_0 rfl rfl rfl ?_
  refine own_ldcC (pc' := 3) X0 (W 195 rfl) MR dd_jdk_65_method_120_1 rfl ?_
  intro T1 X1
  refine own_acmp (pc' := 6) (same := true) X1 dd_jdk_65_method_120_3 rfl rfl (by simp) (by decide) (by decide) ?_
  refine own_iload_n (pc' := 7) X1 dd_jdk_65_method_120_6 rfl rfl ?_
  refine own_anewR (pc' := 10) (cells' := 1) (slots' := 1) (n := 1) (cap := 1) (ad := "[Ljava/lang/Object;") X1 (W 196 rfl) (W 26 rfl) (by decide) (by decide) (by decide) dd_jdk_65_method_120_7 rfl rfl (by decide) (by decide) rfl (by decide) (by decide) ?_
  intro T2 h2 a2 k2 g2 X2 K2 A2 E2 V2
  have n_a2 : n0 ≤ a2 := by rw [g2]; exact own_n0 X1
  have A2' : own_Arr Z h2 a2 k2 (.object "java/lang/Object") [.null] := A2
  refine own_goto (pc' := 24) X2 dd_jdk_65_method_120_10 (by decide) (by decide) ?_
  refine own_astore_n (pc' := 25) X2 dd_jdk_65_method_120_24 rfl rfl (Ls' := #[.val (.ref a), .val (.int (1 : Int32)), .val (.ref mr), .val (.ref a2)]) rfl ?_
  refine own_aload_n (pc' := 26) X2 dd_jdk_65_method_120_25 rfl rfl rfl ?_
  refine own_iconst (pc' := 27) X2 dd_jdk_65_method_120_26 rfl (z := (0 : Int32)) (by decide) ?_
  refine own_aload_n (pc' := 28) X2 dd_jdk_65_method_120_27 rfl rfl rfl ?_
  refine own_iconst (pc' := 29) X2 dd_jdk_65_method_120_28 rfl (z := (0 : Int32)) (by decide) ?_
  refine own_aload_n (pc' := 30) X2 dd_jdk_65_method_120_29 rfl rfl rfl ?_
  have f3 := (p_A.keep K2 nin0)
  refine own_arraylength (pc' := 31) (z := (10 : Int32)) X2 f3 rfl dd_jdk_65_method_120_30 rfl ?_
  refine own_iload_n (pc' := 32) X2 dd_jdk_65_method_120_31 rfl rfl ?_
  refine own_callSM (pc' := 35) (cells' := 1) (slots' := 1) (argsL := [(.int (10 : Int32)), (.int (1 : Int32))]) (rest := [(.int (0 : Int32)), (.ref a2), (.int (0 : Int32)), (.ref a)]) (W := 4) (y := (⟨"java/lang/Math", "min", "(II)I"⟩ : MethodName)) X2 (W 197 rfl) (W 198 rfl) (by decide) (own_min10_1 l Z a0 hw n0  h2 (own_old X2) ) (W 199 rfl) (W 82 rfl) (by decide) (by decide) rfl (lenOf pd_1 rfl) rfl rfl dd_jdk_65_method_120_32 rfl rfl rfl rfl (by decide) (by decide) ?_
  intro v4 T4 h4 X4 q4
  obtain ⟨rfl, rfl⟩ := q4
  show G T4 (mkF m 35 #[.val (.ref a), .val (.int (1 : Int32)), .val (.ref mr), .val (.ref a2)] [(.int (1 : Int32)), (.int (0 : Int32)), (.ref a2), (.int (0 : Int32)), (.ref a)])
  have f5 := (p_x0.keep K2)
  refine own_arraycopy (pc' := 38) (W := 0) (sp := 0) (dp := 0) (n := 1) X4 (W 200 rfl) (W 203 rfl) (W 201 rfl) (W 202 rfl) f3 A2' (Or.inr ⟨rfl, rfl, ⟨own_stoR A2' V2 (Ins.of_exa f5 (W 27 rfl)), trivial⟩⟩) (by decide) (by decide) (by decide) (Nat.le_of_ble_eq_true rfl) (Nat.le_of_ble_eq_true rfl) n_a2 rfl rfl dd_jdk_65_method_120_35 rfl (by decide) (by decide) ?_
  intro T6 h6 X6 K6 A6
  have A6' : own_Arr Z h6 a2 k2 (.object "java/lang/Object") [(.ref x0)] := by exact A6
  refine own_aload_n (pc' := 39) X6 dd_jdk_65_method_120_38 rfl rfl rfl ?_
  have age_a2 : h0.size ≤ a2 := Nat.le_trans (Nat.le_refl _) (Nat.le_of_eq (Eq.symm g2))
  have f7 := (E2.keep K6)
  exact own_ret X6 hGe (t := (.array (.object "java/lang/Object"))) rfl rfl (Or.inr (Or.inr (Or.inr (Or.inr ⟨rfl, rfl, rfl⟩)))) dd_jdk_65_method_120_39 (by decide) (by decide) ⟨a2, _, rfl, (((Keep.refl h0 []).trans K2 all0).trans K6 (allS (Or.inr age_a2) all0)), age_a2, A6', f7⟩
theorem dd_jdk_65_method_119_0 : decode jdk_65_method_119_code 0 = .ok (.aload_n 0, 1) := by decide +kernel
theorem dd_jdk_65_method_119_1 : decode jdk_65_method_119_code 1 = .ok (.iload_n 1, 1) := by decide +kernel
theorem dd_jdk_65_method_119_2 : decode jdk_65_method_119_code 2 = .ok (.aload_n 0, 1) := by decide +kernel
theorem dd_jdk_65_method_119_3 : decode jdk_65_method_119_code 3 = .ok (.invokevirtual 86, 3) := by decide +kernel
theorem dd_jdk_65_method_119_6 : decode jdk_65_method_119_code 6 = .ok (.invokestatic 300, 3) := by decide +kernel
theorem pd_9 : parseMethodDescriptor "([Ljava/lang/Object;ILjava/lang/Class;)[Ljava/lang/Object;" = some ⟨[(.array (.object "java/lang/Object")), .int, (.object "java/lang/Class")], some (.array (.object "java/lang/Object"))⟩ := by decide +kernel
theorem dd_jdk_65_method_119_9 : decode jdk_65_method_119_code 9 = .ok (.areturn, 1) := by decide +kernel
theorem ef_own_cp10_1 (m : MethodId) (x0 : Addr) (x1 : Int32) : entryFrame m #[(.ref x0), (.int x1)] 2 = mkF m 0 #[.val (.ref x0), .val (.int x1)] [] := by first | (simp [entryFrame, mkF, argsToLocals, Value.category]; done) | rfl
set_option maxRecDepth 65536 in
set_option maxHeartbeats 40000000 in
theorem own_cp10_1 (l : Launch) (Z : State) (a0 : Array Value) (hw : ∀ d ∈ tables_1, d.before a0 Z = true) (n0 : Nat) (a : Addr) (ka : ClassId) (mr : Addr) (x0 : Addr) (h0 : Heap) (O0 : Old Z n0 h0) (p_A : own_Arr Z h0 a ka (.object "java/lang/Object") [(.ref x0), .null, .null, .null, .null, .null, .null, .null, .null, .null]) (p_E : Exa Z h0 a "[Ljava/lang/Object;") (MR : own_Mir Z "[Ljava/lang/Object;" mr) (p_x0 : Exa Z h0 x0 "java/util/KeyValueHolder") :
    own_Met l Z n0 (⟨"java/util/Arrays", "copyOf", "([Ljava/lang/Object;I)[Ljava/lang/Object;"⟩ : MethodName) jdk_65_method_119_code 2 (some (.array (.object "java/lang/Object"))) ({ frames := 2, cells := 1, slots := 1, locals := 35 } : Room) #[(.ref a), (.int (1 : Int32))] h0 (fun v h => ∃ (d : Addr) (k : ClassId), v = some (.ref d) ∧ Keep h0 h [] ∧ h0.size ≤ d ∧ own_Arr Z h d k (.object "java/lang/Object") [(.ref x0)] ∧ Exa Z h d "[Ljava/lang/Object;") := by
  refine own_enter (own := "java/util/Arrays") (nm := "copyOf") (plainFor_of_name pn_12) rfl rfl O0 ?_
  have W : ∀ (k : Nat) {d : Jvm.Cond}, tables_1[k]? = some d → d.before a0 Z = true := fun k d q => hw d (List.mem_of_getElem? q)
  intro G p e s m below meth c T0 hGe X0
  rw [ef_own_cp10_1 m a ((1 : Int32))]
  refine own_aload_n (pc' := 1) X0 dd_jdk_65_method_119_0 rfl rfl rfl ?_
  refine own_iload_n (pc' := 2) X0 dd_jdk_65_method_119_1 rfl rfl ?_
  refine own_aload_n (pc' := 3) X0 dd_jdk_65_method_119_2 rfl rfl rfl ?_
  refine own_gcls (pc' := 6) (W := 2) X0 (W 186 rfl) (W 187 rfl) (W 141 rfl) (W 189 rfl) (W 188 rfl) (W 190 rfl) p_E MR rfl dd_jdk_65_method_119_3 rfl (by decide) rfl (by decide) ?_
  intro T1 X1
  refine own_callSM (pc' := 9) (cells' := 1) (slots' := 1) (argsL := [(.ref a), (.int (1 : Int32)), (.ref mr)]) (rest := []) (W := 0) (y := (⟨"java/util/Arrays", "copyOf", "([Ljava/lang/Object;ILjava/lang/Class;)[Ljava/lang/Object;"⟩ : MethodName)) X1 (W 192 rfl) (W 193 rfl) (by decide) (own_cpc10_1 l Z a0 hw n0 a ka mr x0 h0 (own_old X1) p_A p_E MR p_x0) (W 194 rfl) (W 184 rfl) (by decide) (by decide) rfl (lenOf pd_9 rfl) rfl rfl dd_jdk_65_method_119_6 rfl rfl rfl rfl (by decide) (by decide) ?_
  intro v2 T2 h2 X2 q2
  obtain ⟨d2, k2, rfl, K2, z2, A2, E2⟩ := q2
  show G T2 (mkF m 9 #[.val (.ref a), .val (.int (1 : Int32))] [(.ref d2)])
  have age_d2 : h0.size ≤ d2 := Nat.le_trans (Nat.le_refl _) z2
  exact own_ret X2 hGe (t := (.array (.object "java/lang/Object"))) rfl rfl (Or.inr (Or.inr (Or.inr (Or.inr ⟨rfl, rfl, rfl⟩)))) dd_jdk_65_method_119_9 (by decide) (by decide) ⟨d2, _, rfl, ((Keep.refl h0 []).trans K2 all0), age_d2, A2, E2⟩
theorem dd_jdk_38_method_16_8 : decode jdk_38_method_16_code 8 = .ok (.invokestatic 66, 3) := by decide +kernel
theorem pd_10 : parseMethodDescriptor "([Ljava/lang/Object;I)[Ljava/lang/Object;" = some ⟨[(.array (.object "java/lang/Object")), .int], some (.array (.object "java/lang/Object"))⟩ := by decide +kernel
theorem dd_jdk_38_method_16_11 : decode jdk_38_method_16_code 11 = .ok (.areturn, 1) := by decide +kernel
theorem ef_own_alt1 (m : MethodId) (x0 : Addr) : entryFrame m #[(.ref x0)] 1 = mkF m 0 #[.val (.ref x0)] [] := by first | (simp [entryFrame, mkF, argsToLocals, Value.category]; done) | rfl
set_option maxRecDepth 65536 in
set_option maxHeartbeats 40000000 in
theorem own_alt1 (l : Launch) (Z : State) (a0 : Array Value) (hw : ∀ d ∈ tables_1, d.before a0 Z = true) (n0 : Nat) (a ar : Addr) (kr : ClassId) (mr : Addr) (x0 : Addr) (h0 : Heap) (O0 : Old Z n0 h0) (p_E : Exa Z h0 a "java/util/ArrayList") (p_F : Fld Z h0 a "java/util/ArrayList" "elementData" "[Ljava/lang/Object;" (.ref ar)) (p_S : Fld Z h0 a "java/util/ArrayList" "size" "I" (.int 1)) (p_A : own_Arr Z h0 ar kr (.object "java/lang/Object") [(.ref x0), .null, .null, .null, .null, .null, .null, .null, .null, .null]) (p_Q : Exa Z h0 ar "[Ljava/lang/Object;") (MR : own_Mir Z "[Ljava/lang/Object;" mr) (p_x0 : Exa Z h0 x0 "java/util/KeyValueHolder") :
    own_Met l Z n0 (⟨"java/util/ArrayList", "toArray", "()[Ljava/lang/Object;"⟩ : MethodName) jdk_38_method_16_code 1 (some (.array (.object "java/lang/Object"))) ({ frames := 3, cells := 1, slots := 1, locals := 48 } : Room) #[(.ref a)] h0 (fun v h => ∃ (d : Addr) (k : ClassId), v = some (.ref d) ∧ Keep h0 h [] ∧ h0.size ≤ d ∧ own_Arr Z h d k (.object "java/lang/Object") [(.ref x0)] ∧ Exa Z h d "[Ljava/lang/Object;") := by
  refine own_enter (own := "java/util/ArrayList") (nm := "toArray") (plainFor_of_name pn_2) rfl rfl O0 ?_
  have W : ∀ (k : Nat) {d : Jvm.Cond}, tables_1[k]? = some d → d.before a0 Z = true := fun k d q => hw d (List.mem_of_getElem? q)
  intro G p e s m below meth c T0 hGe X0
  rw [ef_own_alt1 m a]
  refine own_aload_n (pc' := 1) X0 dd_jdk_38_method_16_0 rfl rfl rfl ?_
  refine own_get (pc' := 4) X0 (host := "") (Or.inl (W 50 rfl)) Via.refl p_F dd_jdk_38_method_16_1 rfl ?_
  intro T1 X1
  refine own_aload_n (pc' := 5) X1 dd_jdk_38_method_16_4 rfl rfl rfl ?_
  refine own_get (pc' := 8) X1 (host := "") (Or.inl (W 63 rfl)) Via.refl p_S dd_jdk_38_method_16_5 rfl ?_
  intro T2 X2
  refine own_callSM (pc' := 11) (cells' := 1) (slots' := 1) (argsL := [(.ref ar), (.int (1 : Int32))]) (rest := []) (W := 0) (y := (⟨"java/util/Arrays", "copyOf", "([Ljava/lang/Object;I)[Ljava/lang/Object;"⟩ : MethodName)) X2 (W 182 rfl) (W 183 rfl) (by decide) (own_cp10_1 l Z a0 hw n0 ar kr mr x0 h0 (own_old X2) p_A p_Q MR p_x0) (W 185 rfl) (W 184 rfl) (by decide) (by decide) rfl (lenOf pd_10 rfl) rfl rfl dd_jdk_38_method_16_8 rfl rfl rfl rfl (by decide) (by decide) ?_
  intro v3 T3 h3 X3 q3
  obtain ⟨d3, k3, rfl, K3, z3, A3, E3⟩ := q3
  show G T3 (mkF m 11 #[.val (.ref a)] [(.ref d3)])
  have age_d3 : h0.size ≤ d3 := Nat.le_trans (Nat.le_refl _) z3
  exact own_ret X3 hGe (t := (.array (.object "java/lang/Object"))) rfl rfl (Or.inr (Or.inr (Or.inr (Or.inr ⟨rfl, rfl, rfl⟩)))) dd_jdk_38_method_16_11 (by decide) (by decide) ⟨d3, _, rfl, ((Keep.refl h0 []).trans K3 all0), age_d3, A3, E3⟩
theorem dd_jdk_56_method_3_44 : decode jdk_56_method_3_code 44 = .ok (.aload_n 0, 1) := by decide +kernel
theorem dd_jdk_56_method_3_45 : decode jdk_56_method_3_code 45 = .ok (.invokeinterface 30 1, 5) := by decide +kernel
theorem pd_11 : parseMethodDescriptor "()[Ljava/lang/Object;" = some ⟨[], some (.array (.object "java/lang/Object"))⟩ := by decide +kernel
theorem dd_jdk_56_method_3_50 : decode jdk_56_method_3_code 50 = .ok (.invokestatic 34, 3) := by decide +kernel
theorem pd_12 : parseMethodDescriptor "([Ljava/lang/Object;)Ljava/util/List;" = some ⟨[(.array (.object "java/lang/Object"))], some (.object "java/util/List")⟩ := by decide +kernel
theorem dd_jdk_56_method_3_53 : decode jdk_56_method_3_code 53 = .ok (.areturn, 1) := by decide +kernel
theorem ef_own_lcp1 (m : MethodId) (x0 : Addr) : entryFrame m #[(.ref x0)] 2 = mkF m 0 #[.val (.ref x0), .unset] [] := by first | (simp [entryFrame, mkF, argsToLocals, Value.category]; done) | rfl
set_option maxRecDepth 65536 in
set_option maxHeartbeats 40000000 in
theorem own_lcp1 (l : Launch) (Z : State) (a0 : Array Value) (hw : ∀ d ∈ tables_1, d.before a0 Z = true) (n0 : Nat) (a ar : Addr) (kr : ClassId) (em ea ey mr : Addr) (x0 : Addr) (h0 : Heap) (O0 : Old Z n0 h0) (p_E : Exa Z h0 a "java/util/ArrayList") (p_F : Fld Z h0 a "java/util/ArrayList" "elementData" "[Ljava/lang/Object;" (.ref ar)) (p_S : Fld Z h0 a "java/util/ArrayList" "size" "I" (.int 1)) (p_A : own_Arr Z h0 ar kr (.object "java/lang/Object") [(.ref x0), .null, .null, .null, .null, .null, .null, .null, .null, .null]) (p_Q : Exa Z h0 ar "[Ljava/lang/Object;") (p_x0 : Exa Z h0 x0 "java/util/KeyValueHolder") (EM : own_EMP Z em ea) (EY : own_MTY Z ey) (MR : own_Mir Z "[Ljava/lang/Object;" mr) :
    own_Met l Z n0 (⟨"java/util/ImmutableCollections", "listCopy", "(Ljava/util/Collection;)Ljava/util/List;"⟩ : MethodName) jdk_56_method_3_code 2 (some (.object "java/util/List")) ({ frames := 6, cells := 2, slots := 3, locals := 75 } : Room) #[(.ref a)] h0 (fun v h => ∃ c : Addr, v = some (.ref c) ∧ Keep h0 h [] ∧ own_IL Z h em ey c [x0]) := by
  refine own_enter (own := "java/util/ImmutableCollections") (nm := "listCopy") (plainFor_of_name pn_9) rfl rfl O0 ?_
  have W : ∀ (k : Nat) {d : Jvm.Cond}, tables_1[k]? = some d → d.before a0 Z = true := fun k d q => hw d (List.mem_of_getElem? q)
  intro G p e s m below meth c T0 hGe X0
  rw [ef_own_lcp1 m a]
  refine own_aload_n (pc' := 1) X0 dd_jdk_56_method_3_0 rfl rfl rfl ?_
  refine own_instN (pc' := 4) X0 (W 137 rfl) p_E (own_Up.no (own_Up.step (W 138 rfl) (own_Up.step (W 139 rfl) (own_Up.step (W 140 rfl) (own_Up.top (W 141 rfl))))) (W 138 rfl) (W 419 rfl) (by decide) (by decide)) dd_jdk_56_method_3_1 rfl ?_
  intro T1 X1
  refine own_ifN (pc' := 7) X1 dd_jdk_56_method_3_4 rfl ((teq rfl).2) ?_
  refine own_aload_n (pc' := 8) X1 dd_jdk_56_method_3_7 rfl rfl rfl ?_
  refine own_instN (pc' := 11) X1 (W 142 rfl) p_E (own_Up.no (own_Up.step (W 138 rfl) (own_Up.step (W 139 rfl) (own_Up.step (W 140 rfl) (own_Up.top (W 141 rfl))))) (W 138 rfl) (W 212 rfl) (by decide) (by decide)) dd_jdk_56_method_3_8 rfl ?_
  intro T2 X2
  refine own_ifY (pc' := 31) X2 dd_jdk_56_method_3_11 ((teq rfl).1) (by decide) (by decide) ?_
  refine own_aload_n (pc' := 32) X2 dd_jdk_56_method_3_31 rfl rfl rfl ?_
  refine own_callFM (pc' := 37) (cells' := 0) (slots' := 0) (argsL := []) (rest := []) (W := 0) (y := (⟨"java/util/Collection", "isEmpty", "()Z"⟩ : MethodName)) (z := (⟨"java/util/ArrayList", "isEmpty", "()Z"⟩ : MethodName)) (a := a) X2 (W 143 rfl) (W 144 rfl) (fun s' a' hZ' => mvT hZ' (W 145 rfl)) (W 146 rfl) (W 147 rfl) (W 148 rfl) (W 149 rfl) (W 150 rfl) (by decide) p_E (own_ale l Z a0 hw n0 a (1 : Int32) h0 (own_old X2) p_S) (W 151 rfl) (W 30 rfl) (by decide) (by decide) rfl (lenOf pd_5 rfl) rfl rfl dd_jdk_56_method_3_32 rfl rfl rfl rfl (by decide) (by decide) ?_
  intro v3 T3 h3 X3 q3
  obtain ⟨rfl, rfl⟩ := q3
  show G T3 (mkF m 37 #[.val (.ref a), .unset] [(.int (if (1 : Int32) = 0 then (1 : Int32) else 0))])
  show G T3 (mkF m 37 #[.val (.ref a), .unset] [(.int (0 : Int32))])
  refine own_ifY (pc' := 44) X3 dd_jdk_56_method_3_37 ((teq rfl).1) (by decide) (by decide) ?_
  refine own_aload_n (pc' := 45) X3 dd_jdk_56_method_3_44 rfl rfl rfl ?_
  refine own_callFM (pc' := 50) (cells' := 1) (slots' := 1) (argsL := []) (rest := []) (W := 0) (y := (⟨"java/util/Collection", "toArray", "()[Ljava/lang/Object;"⟩ : MethodName)) (z := (⟨"java/util/ArrayList", "toArray", "()[Ljava/lang/Object;"⟩ : MethodName)) (a := a) X3 (W 174 rfl) (W 175 rfl) (fun s' a' hZ' => mvT hZ' (W 176 rfl)) (W 177 rfl) (W 178 rfl) (W 179 rfl) (W 180 rfl) (W 150 rfl) (by decide) p_E (own_alt1 l Z a0 hw n0 a ar kr mr x0 h0 (own_old X3) p_E p_F p_S p_A p_Q MR p_x0) (W 181 rfl) (W 30 rfl) (by decide) (by decide) rfl (lenOf pd_11 rfl) rfl rfl dd_jdk_56_method_3_45 rfl rfl rfl rfl (by decide) (by decide) ?_
  intro v4 T4 h4 X4 q4
  obtain ⟨d4, k4, rfl, K4, z4, A4, E4⟩ := q4
  show G T4 (mkF m 50 #[.val (.ref a), .unset] [(.ref d4)])
  have f5 := (p_x0.keep K4)
  refine own_callSM (pc' := 53) (cells' := 2) (slots' := 3) (argsL := [(.ref d4)]) (rest := []) (W := 0) (y := (⟨"java/util/List", "of", "([Ljava/lang/Object;)Ljava/util/List;"⟩ : MethodName)) X4 (W 204 rfl) (W 205 rfl) (by decide) (own_lofa1 l Z a0 hw n0 d4 k4 em ea ey mr x0 h4 (own_old X4) A4 f5 EM EY MR) (W 206 rfl) (W 131 rfl) (by decide) (by decide) rfl (lenOf pd_12 rfl) rfl rfl dd_jdk_56_method_3_50 rfl rfl rfl rfl (by decide) (by decide) ?_
  intro v6 T6 h6 X6 q6
  obtain ⟨c6, rfl, K6, I6⟩ := q6
  show G T6 (mkF m 53 #[.val (.ref a), .unset] [(.ref c6)])
  exact own_ret X6 hGe (t := (.object "java/util/List")) rfl rfl (Or.inr (Or.inr (Or.inr (Or.inr ⟨rfl, rfl, rfl⟩)))) dd_jdk_56_method_3_53 (by decide) (by decide) ⟨c6, rfl, (((Keep.refl h0 []).trans K4 all0).trans K6 all0), I6⟩
theorem ef_own_cpo1 (m : MethodId) (x0 : Addr) : entryFrame m #[(.ref x0)] 1 = mkF m 0 #[.val (.ref x0)] [] := by first | (simp [entryFrame, mkF, argsToLocals, Value.category]; done) | rfl
set_option maxRecDepth 65536 in
set_option maxHeartbeats 40000000 in
theorem own_cpo1 (l : Launch) (Z : State) (a0 : Array Value) (hw : ∀ d ∈ tables_1, d.before a0 Z = true) (n0 : Nat) (a ar : Addr) (kr : ClassId) (em ea ey mr : Addr) (x0 : Addr) (h0 : Heap) (O0 : Old Z n0 h0) (p_E : Exa Z h0 a "java/util/ArrayList") (p_F : Fld Z h0 a "java/util/ArrayList" "elementData" "[Ljava/lang/Object;" (.ref ar)) (p_S : Fld Z h0 a "java/util/ArrayList" "size" "I" (.int 1)) (p_A : own_Arr Z h0 ar kr (.object "java/lang/Object") [(.ref x0), .null, .null, .null, .null, .null, .null, .null, .null, .null]) (p_Q : Exa Z h0 ar "[Ljava/lang/Object;") (p_x0 : Exa Z h0 x0 "java/util/KeyValueHolder") (EM : own_EMP Z em ea) (EY : own_MTY Z ey) (MR : own_Mir Z "[Ljava/lang/Object;" mr) :
    own_Met l Z n0 (⟨"java/util/List", "copyOf", "(Ljava/util/Collection;)Ljava/util/List;"⟩ : MethodName) jdk_40_method_48_code 1 (some (.object "java/util/List")) ({ frames := 8, cells := 3, slots := 8, locals := 103 } : Room) #[(.ref a)] h0 (fun v h => ∃ c : Addr, v = some (.ref c) ∧ Keep h0 h [] ∧ own_IL Z h em ey c [x0]) := by
  refine own_enter (own := "java/util/List") (nm := "copyOf") (plainFor_of_name pn_10) rfl rfl O0 ?_
  have W : ∀ (k : Nat) {d : Jvm.Cond}, tables_1[k]? = some d → d.before a0 Z = true := fun k d q => hw d (List.mem_of_getElem? q)
  intro G p e s m below meth c T0 hGe X0
  rw [ef_own_cpo1 m a]
  refine own_aload_n (pc' := 1) X0 dd_jdk_40_method_48_0 rfl rfl rfl ?_
  refine own_callSM (pc' := 4) (cells' := 2) (slots' := 3) (argsL := [(.ref a)]) (rest := []) (W := 0) (y := (⟨"java/util/ImmutableCollections", "listCopy", "(Ljava/util/Collection;)Ljava/util/List;"⟩ : MethodName)) X0 (W 133 rfl) (W 134 rfl) (by decide) (own_lcp1 l Z a0 hw n0 a ar kr em ea ey mr x0 h0 (own_old X0) p_E p_F p_S p_A p_Q p_x0 EM EY MR) (W 136 rfl) (W 135 rfl) (by decide) (by decide) rfl (lenOf pd_7 rfl) rfl rfl dd_jdk_40_method_48_1 rfl rfl rfl rfl (by decide) (by decide) ?_
  intro v1 T1 h1 X1 q1
  obtain ⟨c1, rfl, K1, I1⟩ := q1
  show G T1 (mkF m 4 #[.val (.ref a)] [(.ref c1)])
  exact own_ret X1 hGe (t := (.object "java/util/List")) rfl rfl (Or.inr (Or.inr (Or.inr (Or.inr ⟨rfl, rfl, rfl⟩)))) dd_jdk_40_method_48_4 (by decide) (by decide) ⟨c1, rfl, ((Keep.refl h0 []).trans K1 all0), I1⟩
theorem dd_jdk_40_method_47_45 : decode jdk_40_method_47_code 45 = .ok (.new 96, 3) := by decide +kernel
theorem dd_jdk_40_method_47_48 : decode jdk_40_method_47_code 48 = .ok (.dup, 1) := by decide +kernel
theorem dd_jdk_40_method_47_49 : decode jdk_40_method_47_code 49 = .ok (.aload_n 0, 1) := by decide +kernel
theorem dd_jdk_40_method_47_50 : decode jdk_40_method_47_code 50 = .ok (.iconst 0, 1) := by decide +kernel
theorem dd_jdk_40_method_47_51 : decode jdk_40_method_47_code 51 = .ok (.aaload, 1) := by decide +kernel
theorem dd_jdk_40_method_47_52 : decode jdk_40_method_47_code 52 = .ok (.aload_n 0, 1) := by decide +kernel
theorem dd_jdk_40_method_47_53 : decode jdk_40_method_47_code 53 = .ok (.iconst 1, 1) := by decide +kernel
theorem dd_jdk_40_method_47_54 : decode jdk_40_method_47_code 54 = .ok (.aaload, 1) := by decide +kernel
theorem dd_jdk_40_method_47_55 : decode jdk_40_method_47_code 55 = .ok (.invokespecial 100, 3) := by decide +kernel
theorem pd_13 : parseMethodDescriptor "(Ljava/lang/Object;Ljava/lang/Object;)V" = some ⟨[(.object "java/lang/Object"), (.object "java/lang/Object")], none⟩ := by decide +kernel
theorem dd_jdk_40_method_47_58 : decode jdk_40_method_47_code 58 = .ok (.areturn, 1) := by decide +kernel
theorem ef_own_lofa2 (m : MethodId) (x0 : Addr) : entryFrame m #[(.ref x0)] 2 = mkF m 0 #[.val (.ref x0), .unset] [] := by first | (simp [entryFrame, mkF, argsToLocals, Value.category]; done) | rfl
set_option maxRecDepth 65536 in
set_option maxHeartbeats 40000000 in
theorem own_lofa2 (l : Launch) (Z : State) (a0 : Array Value) (hw : ∀ d ∈ tables_1, d.before a0 Z = true) (n0 : Nat) (a : Addr) (ka : ClassId) (em ea ey mr : Addr) (x0 x1 : Addr) (h0 : Heap) (O0 : Old Z n0 h0) (p_A : own_Arr Z h0 a ka (.object "java/lang/Object") [(.ref x0), (.ref x1)]) (p_x0 : Exa Z h0 x0 "java/util/KeyValueHolder") (p_x1 : Exa Z h0 x1 "java/util/KeyValueHolder") (EM : own_EMP Z em ea) (EY : own_MTY Z ey) (MR : own_Mir Z "[Ljava/lang/Object;" mr) (p_ny : x1 ≠ ey) :
    own_Met l Z n0 (⟨"java/util/List", "of", "([Ljava/lang/Object;)Ljava/util/List;"⟩ : MethodName) jdk_40_method_47_code 2 (some (.object "java/util/List")) ({ frames := 5, cells := 1, slots := 2, locals := 63 } : Room) #[(.ref a)] h0 (fun v h => ∃ c : Addr, v = some (.ref c) ∧ Keep h0 h [] ∧ own_IL Z h em ey c [x0, x1]) := by
  refine own_enter (own := "java/util/List") (nm := "of") (plainFor_of_name pn_10) rfl rfl O0 ?_
  have W : ∀ (k : Nat) {d : Jvm.Cond}, tables_1[k]? = some d → d.before a0 Z = true := fun k d q => hw d (List.mem_of_getElem? q)
  intro G p e s m below meth c T0 hGe X0
  rw [ef_own_lofa2 m a]
  refine own_aload_n (pc' := 1) X0 dd_jdk_40_method_47_0 rfl rfl rfl ?_
  refine own_arraylength (pc' := 2) (z := (2 : Int32)) X0 p_A rfl dd_jdk_40_method_47_1 rfl ?_
  refine own_tsw (pc' := 45) X0 dd_jdk_40_method_47_2 (by decide) (o := 43) (by decide) (by decide) (by decide) ?_
  refine own_new (pc' := 48) (cells' := 1) (slots' := 2) X0 (W 418 rfl) (W 419 rfl) (W 420 rfl) dd_jdk_40_method_47_45 rfl rfl rfl (by decide) (by decide) ?_
  intro T1 h1 a1 g1 X1 K1 E1 D1 U1
  have n_a1 : n0 ≤ a1 := by rw [g1]; exact own_n0 X0
  have F1_e0 : Fld Z h1 a1 "java/util/ImmutableCollections$List12" "e0" "Ljava/lang/Object;" .null := D1 (Or.inr (W 431 rfl)) (ty := (.object "java/lang/Object")) (by decide)
  have F1_e1 : Fld Z h1 a1 "java/util/ImmutableCollections$List12" "e1" "Ljava/lang/Object;" .null := D1 (Or.inr (W 433 rfl)) (ty := (.object "java/lang/Object")) (by decide)
  refine own_dup (pc' := 49) X1 dd_jdk_40_method_47_48 rfl rfl ?_
  refine own_aload_n (pc' := 50) X1 dd_jdk_40_method_47_49 rfl rfl rfl ?_
  refine own_iconst (pc' := 51) X1 dd_jdk_40_method_47_50 rfl (z := (0 : Int32)) (by decide) ?_
  have f2 := (p_A.keep K1 nin0)
  refine own_aaload (pc' := 52) (i := 0) (v := (.ref x0)) X1 f2 rfl (by decide) rfl dd_jdk_40_method_47_51 rfl ?_
  refine own_aload_n (pc' := 53) X1 dd_jdk_40_method_47_52 rfl rfl rfl ?_
  refine own_iconst (pc' := 54) X1 dd_jdk_40_method_47_53 rfl (z := (1 : Int32)) (by decide) ?_
  refine own_aaload (pc' := 55) (i := 1) (v := (.ref x1)) X1 f2 rfl (by decide) rfl dd_jdk_40_method_47_54 rfl ?_
  refine own_callIM (pc' := 58) (cells' := 1) (slots' := 2) (argsL := [(.ref x0), (.ref x1)]) (rest := [(.ref a1)]) (W := 1) (y := (⟨"java/util/ImmutableCollections$List12", "<init>", "(Ljava/lang/Object;Ljava/lang/Object;)V"⟩ : MethodName)) (a := a1) X1 (W 421 rfl) (W 422 rfl) rfl (by decide) (own_L2i l Z a0 hw n0 a1 x0 x1 h1 (own_old X1) n_a1 ⟨E1, F1_e0, F1_e1⟩) (W 424 rfl) (W 420 rfl) (by decide) (by decide) rfl (lenOf pd_13 rfl) rfl rfl dd_jdk_40_method_47_55 rfl rfl rfl rfl (by decide) (by decide) ?_
  intro v3 T3 h3 X3 q3
  obtain ⟨rfl, K3, P3⟩ := q3
  show G T3 (mkF m 58 #[.val (.ref a), .unset] [(.ref a1)])
  have age_a1 : h0.size ≤ a1 := Nat.le_trans (Nat.le_refl _) (Nat.le_of_eq (Eq.symm g1))
  exact own_ret X3 hGe (t := (.object "java/util/List")) rfl rfl (Or.inr (Or.inr (Or.inr (Or.inr ⟨rfl, rfl, rfl⟩)))) dd_jdk_40_method_47_58 (by decide) (by decide) ⟨a1, rfl, (((Keep.refl h0 []).trans K1 all0).trans K3 (allS (Or.inr age_a1) all0)), (own_IL2 ⟨P3.1, P3.2.1, P3.2.2⟩ p_ny)⟩
theorem ef_own_min10_2 (m : MethodId) (x0 : Int32) (x1 : Int32) : entryFrame m #[(.int x0), (.int x1)] 2 = mkF m 0 #[.val (.int x0), .val (.int x1)] [] := by first | (simp [entryFrame, mkF, argsToLocals, Value.category]; done) | rfl
set_option maxRecDepth 65536 in
set_option maxHeartbeats 40000000 in
theorem own_min10_2 (l : Launch) (Z : State) (a0 : Array Value) (hw : ∀ d ∈ tables_1, d.before a0 Z = true) (n0 : Nat)  (h0 : Heap) (O0 : Old Z n0 h0)  :
    own_Met l Z n0 (⟨"java/lang/Math", "min", "(II)I"⟩ : MethodName) jdk_29_method_69_code 2 (some .int) ({ frames := 0, cells := 0, slots := 0, locals := 0 } : Room) #[(.int (10 : Int32)), (.int (2 : Int32))] h0 (fun v h => v = some (.int 2) ∧ h0 = h) := by
  refine own_enter (own := "java/lang/Math") (nm := "min") pf_11 rfl rfl O0 ?_
  have W : ∀ (k : Nat) {d : Jvm.Cond}, tables_1[k]? = some d → d.before a0 Z = true := fun k d q => hw d (List.mem_of_getElem? q)
  intro G p e s m below meth c T0 hGe X0
  rw [ef_own_min10_2 m ((10 : Int32)) ((2 : Int32))]
  refine own_iload_n (pc' := 1) X0 dd_jdk_29_method_69_0 rfl rfl ?_
  refine own_iload_n (pc' := 2) X0 dd_jdk_29_method_69_1 rfl rfl ?_
  refine own_icmpY (pc' := 9) X0 dd_jdk_29_method_69_2 ((tlt (by decide)).2.2.1) (by decide) (by decide) ?_
  refine own_iload_n (pc' := 10) X0 dd_jdk_29_method_69_9 rfl rfl ?_
  exact own_ret X0 hGe (t := .int) rfl rfl (Or.inl ⟨rfl, by simp, _, rfl⟩) dd_jdk_29_method_69_10 (by decide) (by decide) ⟨rfl, rfl⟩
theorem ef_own_cpc10_2 (m : MethodId) (x0 : Addr) (x1 : Int32) (x2 : Addr) : entryFrame m #[(.ref x0), (.int x1), (.ref x2)] 4 = mkF m 0 #[.val (.ref x0), .val (.int x1), .val (.ref x2), .unset] [] := by first | (simp [entryFrame, mkF, argsToLocals, Value.category]; done) | rfl
set_option maxRecDepth 65536 in
set_option maxHeartbeats 40000000 in
theorem own_cpc10_2 (l : Launch) (Z : State) (a0 : Array Value) (hw : ∀ d ∈ tables_1, d.before a0 Z = true) (n0 : Nat) (a : Addr) (ka : ClassId) (mr : Addr) (x0 x1 : Addr) (h0 : Heap) (O0 : Old Z n0 h0) (p_A : own_Arr Z h0 a ka (.object "java/lang/Object") [(.ref x0), (.ref x1), .null, .null, .null, .null, .null, .null, .null, .null]) (p_E : Exa Z h0 a "[Ljava/lang/Object;") (MR : own_Mir Z "[Ljava/lang/Object;" mr) (p_x0 : Exa Z h0 x0 "java/util/KeyValueHolder") (p_x1 : Exa Z h0 x1 "java/util/KeyValueHolder") :
    own_Met l Z n0 (⟨"java/util/Arrays", "copyOf", "([Ljava/lang/Object;ILjava/lang/Class;)[Ljava/lang/Object;"⟩ : MethodName) jdk_65_method_120_code 4 (some (.array (.object "java/lang/Object"))) ({ frames := 1, cells := 1, slots := 2, locals := 20 } : Room) #[(.ref a), (.int (2 : Int32)), (.ref mr)] h0 (fun v h => ∃ (d : Addr) (k : ClassId), v = some (.ref d) ∧ Keep h0 h [] ∧ h0.size ≤ d ∧ own_Arr Z h d k (.object "java/lang/Object") [(.ref x0), (.ref x1)] ∧ Exa Z h d "[Ljava/lang/Object;") := by
  refine own_enter (own := "java/util/Arrays") (nm := "copyOf") (plainFor_of_name pn_12) rfl rfl O0 ?_
  have W : ∀ (k : Nat) {d : Jvm.Cond}, tables_1[k]? = some d → d.before a0 Z = true := fun k d q => hw d (List.mem_of_getElem? q)
  intro G p e s m below meth c T0 hGe X0
  rw [ef_own_cpc10_2 m a ((2 : Int32)) mr]
  refine own_aload_n (pc' := 1) X0 dd_jdk_65_method_120_0 rfl rfl rfl ?_
  refine own_ldcC (pc' := 3) X0 (W 195 rfl) MR dd_jdk_65_method_120_1 rfl ?_
  intro T1 X1
  refine own_acmp (pc' := 6) (same := true) X1 dd_jdk_65_method_120_3 rfl rfl (by simp) (by decide) (by decide) ?_
  refine own_iload_n (pc' := 7) X1 dd_jdk_65_method_120_6 rfl rfl ?_
  refine own_anewR (pc' := 10) (cells' := 1) (slots' := 2) (n := 2) (cap := 2) (ad := "[Ljava/lang/Object;") X1 (W 196 rfl) (W 26 rfl) (by decide) (by decide) (by decide) dd_jdk_65_method_120_7 rfl rfl (by decide) (by decide) rfl (by decide) (by decide) ?_
  intro T2 h2 a2 k2 g2 X2 K2 A2 E2 V2
  have n_a2 : n0 ≤ a2 := by rw [g2]; exact own_n0 X1
  have A2' : own_Arr Z h2 a2 k2 (.object "java/lang/Object") [.null, .null] := A2
  refine own_goto (pc' := 24) X2 dd_jdk_65_method_120_10 (by decide) (by decide) ?_
  refine own_astore_n (pc' := 25) X2 dd_jdk_65_method_120_24 rfl rfl (Ls' := #[.val (.ref a), .val (.int (2 : Int32)), .val (.ref mr), .val (.ref a2)]) rfl ?_
  refine own_aload_n (pc' := 26) X2 dd_jdk_65_method_120_25 rfl rfl rfl ?_
  refine own_iconst (pc' := 27) X2 dd_jdk_65_method_120_26 rfl (z := (0 : Int32)) (by decide) ?_
  refine own_aload_n (pc' := 28) X2 dd_jdk_65_method_120_27 rfl rfl rfl ?_
  refine own_iconst (pc' := 29) X2 dd_jdk_65_method_120_28 rfl (z := (0 : Int32)) (by decide) ?_
  refine own_aload_n (pc' := 30) X2 dd_jdk_65_method_120_29 rfl rfl rfl ?_
  have f3 := (p_A.keep K2 nin0)
  refine own_arraylength (pc' := 31) (z := (10 : Int32)) X2 f3 rfl dd_jdk_65_method_120_30 rfl ?_
  refine own_iload_n (pc' := 32) X2 dd_jdk_65_method_120_31 rfl rfl ?_
  refine own_callSM (pc' := 35) (cells' := 1) (slots' := 2) (argsL := [(.int (10 : Int32)), (.int (2 : Int32))]) (rest := [(.int (0 : Int32)), (.ref a2), (.int (0 : Int32)), (.ref a)]) (W := 4) (y := (⟨"java/lang/Math", "min", "(II)I"⟩ : MethodName)) X2 (W 197 rfl) (W 198 rfl) (by decide) (own_min10_2 l Z a0 hw n0  h2 (own_old X2) ) (W 199 rfl) (W 82 rfl) (by decide) (by decide) rfl (lenOf pd_1 rfl) rfl rfl dd_jdk_65_method_120_32 rfl rfl rfl rfl (by decide) (by decide) ?_
  intro v4 T4 h4 X4 q4
  obtain ⟨rfl, rfl⟩ := q4
  show G T4 (mkF m 35 #[.val (.ref a), .val (.int (2 : Int32)), .val (.ref mr), .val (.ref a2)] [(.int (2 : Int32)), (.int (0 : Int32)), (.ref a2), (.int (0 : Int32)), (.ref a)])
  have f5 := (p_x1.keep K2)
  have f6 := (p_x0.keep K2)
  refine own_arraycopy (pc' := 38) (W := 0) (sp := 0) (dp := 0) (n := 2) X4 (W 200 rfl) (W 203 rfl) (W 201 rfl) (W 202 rfl) f3 A2' (Or.inr ⟨rfl, rfl, ⟨own_stoR A2' V2 (Ins.of_exa f6 (W 27 rfl)), ⟨own_stoR A2' V2 (Ins.of_exa f5 (W 27 rfl)), trivial⟩⟩⟩) (by decide) (by decide) (by decide) (Nat.le_of_ble_eq_true rfl) (Nat.le_of_ble_eq_true rfl) n_a2 rfl rfl dd_jdk_65_method_120_35 rfl (by decide) (by decide) ?_
  intro T7 h7 X7 K7 A7
  have A7' : own_Arr Z h7 a2 k2 (.object "java/lang/Object") [(.ref x0), (.ref x1)] := by exact A7
  refine own_aload_n (pc' := 39) X7 dd_jdk_65_method_120_38 rfl rfl rfl ?_
  have age_a2 : h0.size ≤ a2 := Nat.le_trans (Nat.le_refl _) (Nat.le_of_eq (Eq.symm g2))
  have f8 := (E2.keep K7)
  exact own_ret X7 hGe (t := (.array (.object "java/lang/Object"))) rfl rfl (Or.inr (Or.inr (Or.inr (Or.inr ⟨rfl, rfl, rfl⟩)))) dd_jdk_65_method_120_39 (by decide) (by decide) ⟨a2, _, rfl, (((Keep.refl h0 []).trans K2 all0).trans K7 (allS (Or.inr age_a2) all0)), age_a2, A7', f8⟩
theorem ef_own_cp10_2 (m : MethodId) (x0 : Addr) (x1 : Int32) : entryFrame m #[(.ref x0), (.int x1)] 2 = mkF m 0 #[.val (.ref x0), .val (.int x1)] [] := by first | (simp [entryFrame, mkF, argsToLocals, Value.category]; done) | rfl
set_option maxRecDepth 65536 in
set_option maxHeartbeats 40000000 in
theorem own_cp10_2 (l : Launch) (Z : State) (a0 : Array Value) (hw : ∀ d ∈ tables_1, d.before a0 Z = true) (n0 : Nat) (a : Addr) (ka : ClassId) (mr : Addr) (x0 x1 : Addr) (h0 : Heap) (O0 : Old Z n0 h0) (p_A : own_Arr Z h0 a ka (.object "java/lang/Object") [(.ref x0), (.ref x1), .null, .null, .null, .null, .null, .null, .null, .null]) (p_E : Exa Z h0 a "[Ljava/lang/Object;") (MR : own_Mir Z "[Ljava/lang/Object;" mr) (p_x0 : Exa Z h0 x0 "java/util/KeyValueHolder") (p_x1 : Exa Z h0 x1 "java/util/KeyValueHolder") :
    own_Met l Z n0 (⟨"java/util/Arrays", "copyOf", "([Ljava/lang/Object;I)[Ljava/lang/Object;"⟩ : MethodName) jdk_65_method_119_code 2 (some (.array (.object "java/lang/Object"))) ({ frames := 2, cells := 1, slots := 2, locals := 35 } : Room) #[(.ref a), (.int (2 : Int32))] h0 (fun v h => ∃ (d : Addr) (k : ClassId), v = some (.ref d) ∧ Keep h0 h [] ∧ h0.size ≤ d ∧ own_Arr Z h d k (.object "java/lang/Object") [(.ref x0), (.ref x1)] ∧ Exa Z h d "[Ljava/lang/Object;") := by
  refine own_enter (own := "java/util/Arrays") (nm := "copyOf") (plainFor_of_name pn_12) rfl rfl O0 ?_
  have W : ∀ (k : Nat) {d : Jvm.Cond}, tables_1[k]? = some d → d.before a0 Z = true := fun k d q => hw d (List.mem_of_getElem? q)
  intro G p e s m below meth c T0 hGe X0
  rw [ef_own_cp10_2 m a ((2 : Int32))]
  refine own_aload_n (pc' := 1) X0 dd_jdk_65_method_119_0 rfl rfl rfl ?_
  refine own_iload_n (pc' := 2) X0 dd_jdk_65_method_119_1 rfl rfl ?_
  refine own_aload_n (pc' := 3) X0 dd_jdk_65_method_119_2 rfl rfl rfl ?_
  refine own_gcls (pc' := 6) (W := 2) X0 (W 186 rfl) (W 187 rfl) (W 141 rfl) (W 189 rfl) (W 188 rfl) (W 190 rfl) p_E MR rfl dd_jdk_65_method_119_3 rfl (by decide) rfl (by decide) ?_
  intro T1 X1
  refine own_callSM (pc' := 9) (cells' := 1) (slots' := 2) (argsL := [(.ref a), (.int (2 : Int32)), (.ref mr)]) (rest := []) (W := 0) (y := (⟨"java/util/Arrays", "copyOf", "([Ljava/lang/Object;ILjava/lang/Class;)[Ljava/lang/Object;"⟩ : MethodName)) X1 (W 192 rfl) (W 193 rfl) (by decide) (own_cpc10_2 l Z a0 hw n0 a ka mr x0 x1 h0 (own_old X1) p_A p_E MR p_x0 p_x1) (W 194 rfl) (W 184 rfl) (by decide) (by decide) rfl (lenOf pd_9 rfl) rfl rfl dd_jdk_65_method_119_6 rfl rfl rfl rfl (by decide) (by decide) ?_
  intro v2 T2 h2 X2 q2
  obtain ⟨d2, k2, rfl, K2, z2, A2, E2⟩ := q2
  show G T2 (mkF m 9 #[.val (.ref a), .val (.int (2 : Int32))] [(.ref d2)])
  have age_d2 : h0.size ≤ d2 := Nat.le_trans (Nat.le_refl _) z2
  exact own_ret X2 hGe (t := (.array (.object "java/lang/Object"))) rfl rfl (Or.inr (Or.inr (Or.inr (Or.inr ⟨rfl, rfl, rfl⟩)))) dd_jdk_65_method_119_9 (by decide) (by decide) ⟨d2, _, rfl, ((Keep.refl h0 []).trans K2 all0), age_d2, A2, E2⟩
theorem ef_own_alt2 (m : MethodId) (x0 : Addr) : entryFrame m #[(.ref x0)] 1 = mkF m 0 #[.val (.ref x0)] [] := by first | (simp [entryFrame, mkF, argsToLocals, Value.category]; done) | rfl
set_option maxRecDepth 65536 in
set_option maxHeartbeats 40000000 in
theorem own_alt2 (l : Launch) (Z : State) (a0 : Array Value) (hw : ∀ d ∈ tables_1, d.before a0 Z = true) (n0 : Nat) (a ar : Addr) (kr : ClassId) (mr : Addr) (x0 x1 : Addr) (h0 : Heap) (O0 : Old Z n0 h0) (p_E : Exa Z h0 a "java/util/ArrayList") (p_F : Fld Z h0 a "java/util/ArrayList" "elementData" "[Ljava/lang/Object;" (.ref ar)) (p_S : Fld Z h0 a "java/util/ArrayList" "size" "I" (.int 2)) (p_A : own_Arr Z h0 ar kr (.object "java/lang/Object") [(.ref x0), (.ref x1), .null, .null, .null, .null, .null, .null, .null, .null]) (p_Q : Exa Z h0 ar "[Ljava/lang/Object;") (MR : own_Mir Z "[Ljava/lang/Object;" mr) (p_x0 : Exa Z h0 x0 "java/util/KeyValueHolder") (p_x1 : Exa Z h0 x1 "java/util/KeyValueHolder") :
    own_Met l Z n0 (⟨"java/util/ArrayList", "toArray", "()[Ljava/lang/Object;"⟩ : MethodName) jdk_38_method_16_code 1 (some (.array (.object "java/lang/Object"))) ({ frames := 3, cells := 1, slots := 2, locals := 48 } : Room) #[(.ref a)] h0 (fun v h => ∃ (d : Addr) (k : ClassId), v = some (.ref d) ∧ Keep h0 h [] ∧ h0.size ≤ d ∧ own_Arr Z h d k (.object "java/lang/Object") [(.ref x0), (.ref x1)] ∧ Exa Z h d "[Ljava/lang/Object;") := by
  refine own_enter (own := "java/util/ArrayList") (nm := "toArray") (plainFor_of_name pn_2) rfl rfl O0 ?_
  have W : ∀ (k : Nat) {d : Jvm.Cond}, tables_1[k]? = some d → d.before a0 Z = true := fun k d q => hw d (List.mem_of_getElem? q)
  intro G p e s m below meth c T0 hGe X0
  rw [ef_own_alt2 m a]
  refine own_aload_n (pc' := 1) X0 dd_jdk_38_method_16_0 rfl rfl rfl ?_
  refine own_get (pc' := 4) X0 (host := "") (Or.inl (W 50 rfl)) Via.refl p_F dd_jdk_38_method_16_1 rfl ?_
  intro T1 X1
  refine own_aload_n (pc' := 5) X1 dd_jdk_38_method_16_4 rfl rfl rfl ?_
  refine own_get (pc' := 8) X1 (host := "") (Or.inl (W 63 rfl)) Via.refl p_S dd_jdk_38_method_16_5 rfl ?_
  intro T2 X2
  refine own_callSM (pc' := 11) (cells' := 1) (slots' := 2) (argsL := [(.ref ar), (.int (2 : Int32))]) (rest := []) (W := 0) (y := (⟨"java/util/Arrays", "copyOf", "([Ljava/lang/Object;I)[Ljava/lang/Object;"⟩ : MethodName)) X2 (W 182 rfl) (W 183 rfl) (by decide) (own_cp10_2 l Z a0 hw n0 ar kr mr x0 x1 h0 (own_old X2) p_A p_Q MR p_x0 p_x1) (W 185 rfl) (W 184 rfl) (by decide) (by decide) rfl (lenOf pd_10 rfl) rfl rfl dd_jdk_38_method_16_8 rfl rfl rfl rfl (by decide) (by decide) ?_
  intro v3 T3 h3 X3 q3
  obtain ⟨d3, k3, rfl, K3, z3, A3, E3⟩ := q3
  show G T3 (mkF m 11 #[.val (.ref a)] [(.ref d3)])
  have age_d3 : h0.size ≤ d3 := Nat.le_trans (Nat.le_refl _) z3
  exact own_ret X3 hGe (t := (.array (.object "java/lang/Object"))) rfl rfl (Or.inr (Or.inr (Or.inr (Or.inr ⟨rfl, rfl, rfl⟩)))) dd_jdk_38_method_16_11 (by decide) (by decide) ⟨d3, _, rfl, ((Keep.refl h0 []).trans K3 all0), age_d3, A3, E3⟩
theorem ef_own_lcp2 (m : MethodId) (x0 : Addr) : entryFrame m #[(.ref x0)] 2 = mkF m 0 #[.val (.ref x0), .unset] [] := by first | (simp [entryFrame, mkF, argsToLocals, Value.category]; done) | rfl
set_option maxRecDepth 65536 in
set_option maxHeartbeats 40000000 in
theorem own_lcp2 (l : Launch) (Z : State) (a0 : Array Value) (hw : ∀ d ∈ tables_1, d.before a0 Z = true) (n0 : Nat) (a ar : Addr) (kr : ClassId) (em ea ey mr : Addr) (x0 x1 : Addr) (h0 : Heap) (O0 : Old Z n0 h0) (p_E : Exa Z h0 a "java/util/ArrayList") (p_F : Fld Z h0 a "java/util/ArrayList" "elementData" "[Ljava/lang/Object;" (.ref ar)) (p_S : Fld Z h0 a "java/util/ArrayList" "size" "I" (.int 2)) (p_A : own_Arr Z h0 ar kr (.object "java/lang/Object") [(.ref x0), (.ref x1), .null, .null, .null, .null, .null, .null, .null, .null]) (p_Q : Exa Z h0 ar "[Ljava/lang/Object;") (p_x0 : Exa Z h0 x0 "java/util/KeyValueHolder") (p_x1 : Exa Z h0 x1 "java/util/KeyValueHolder") (EM : own_EMP Z em ea) (EY : own_MTY Z ey) (MR : own_Mir Z "[Ljava/lang/Object;" mr) (p_ny : x1 ≠ ey) :
    own_Met l Z n0 (⟨"java/util/ImmutableCollections", "listCopy", "(Ljava/util/Collection;)Ljava/util/List;"⟩ : MethodName) jdk_56_method_3_code 2 (some (.object "java/util/List")) ({ frames := 6, cells := 2, slots := 4, locals := 76 } : Room) #[(.ref a)] h0 (fun v h => ∃ c : Addr, v = some (.ref c) ∧ Keep h0 h [] ∧ own_IL Z h em ey c [x0, x1]) := by
  refine own_enter (own := "java/util/ImmutableCollections") (nm := "listCopy") (plainFor_of_name pn_9) rfl rfl O0 ?_
  have W : ∀ (k : Nat) {d : Jvm.Cond}, tables_1[k]? = some d → d.before a0 Z = true := fun k d q => hw d (List.mem_of_getElem? q)
  intro G p e s m below meth c T0 hGe X0
  rw [ef_own_lcp2 m a]
  refine own_aload_n (pc' := 1) X0 dd_jdk_56_method_3_0 rfl rfl rfl ?_
  refine own_instN (pc' := 4) X0 (W 137 rfl) p_E (own_Up.no (own_Up.step (W 138 rfl) (own_Up.step (W 139 rfl) (own_Up.step (W 140 rfl) (own_Up.top (W 141 rfl))))) (W 138 rfl) (W 419 rfl) (by decide) (by decide)) dd_jdk_56_method_3_1 rfl ?_
  intro T1 X1
  refine own_ifN (pc' := 7) X1 dd_jdk_56_method_3_4 rfl ((teq rfl).2) ?_
  refine own_aload_n (pc' := 8) X1 dd_jdk_56_method_3_7 rfl rfl rfl ?_
  refine own_instN (pc' := 11) X1 (W 142 rfl) p_E (own_Up.no (own_Up.step (W 138 rfl) (own_Up.step (W 139 rfl) (own_Up.step (W 140 rfl) (own_Up.top (W 141 rfl))))) (W 138 rfl) (W 212 rfl) (by decide) (by decide)) dd_jdk_56_method_3_8 rfl ?_
  intro T2 X2
  refine own_ifY (pc' := 31) X2 dd_jdk_56_method_3_11 ((teq rfl).1) (by decide) (by decide) ?_
  refine own_aload_n (pc' := 32) X2 dd_jdk_56_method_3_31 rfl rfl rfl ?_
  refine own_callFM (pc' := 37) (cells' := 0) (slots' := 0) (argsL := []) (rest := []) (W := 0) (y := (⟨"java/util/Collection", "isEmpty", "()Z"⟩ : MethodName)) (z := (⟨"java/util/ArrayList", "isEmpty", "()Z"⟩ : MethodName)) (a := a) X2 (W 143 rfl) (W 144 rfl) (fun s' a' hZ' => mvT hZ' (W 145 rfl)) (W 146 rfl) (W 147 rfl) (W 148 rfl) (W 149 rfl) (W 150 rfl) (by decide) p_E (own_ale l Z a0 hw n0 a (2 : Int32) h0 (own_old X2) p_S) (W 151 rfl) (W 30 rfl) (by decide) (by decide) rfl (lenOf pd_5 rfl) rfl rfl dd_jdk_56_method_3_32 rfl rfl rfl rfl (by decide) (by decide) ?_
  intro v3 T3 h3 X3 q3
  obtain ⟨rfl, rfl⟩ := q3
  show G T3 (mkF m 37 #[.val (.ref a), .unset] [(.int (if (2 : Int32) = 0 then (1 : Int32) else 0))])
  show G T3 (mkF m 37 #[.val (.ref a), .unset] [(.int (0 : Int32))])
  refine own_ifY (pc' := 44) X3 dd_jdk_56_method_3_37 ((teq rfl).1) (by decide) (by decide) ?_
  refine own_aload_n (pc' := 45) X3 dd_jdk_56_method_3_44 rfl rfl rfl ?_
  refine own_callFM (pc' := 50) (cells' := 1) (slots' := 2) (argsL := []) (rest := []) (W := 0) (y := (⟨"java/util/Collection", "toArray", "()[Ljava/lang/Object;"⟩ : MethodName)) (z := (⟨"java/util/ArrayList", "toArray", "()[Ljava/lang/Object;"⟩ : MethodName)) (a := a) X3 (W 174 rfl) (W 175 rfl) (fun s' a' hZ' => mvT hZ' (W 176 rfl)) (W 177 rfl) (W 178 rfl) (W 179 rfl) (W 180 rfl) (W 150 rfl) (by decide) p_E (own_alt2 l Z a0 hw n0 a ar kr mr x0 x1 h0 (own_old X3) p_E p_F p_S p_A p_Q MR p_x0 p_x1) (W 181 rfl) (W 30 rfl) (by decide) (by decide) rfl (lenOf pd_11 rfl) rfl rfl dd_jdk_56_method_3_45 rfl rfl rfl rfl (by decide) (by decide) ?_
  intro v4 T4 h4 X4 q4
  obtain ⟨d4, k4, rfl, K4, z4, A4, E4⟩ := q4
  show G T4 (mkF m 50 #[.val (.ref a), .unset] [(.ref d4)])
  have f5 := (p_x0.keep K4)
  have f6 := (p_x1.keep K4)
  refine own_callSM (pc' := 53) (cells' := 2) (slots' := 4) (argsL := [(.ref d4)]) (rest := []) (W := 0) (y := (⟨"java/util/List", "of", "([Ljava/lang/Object;)Ljava/util/List;"⟩ : MethodName)) X4 (W 204 rfl) (W 205 rfl) (by decide) (own_lofa2 l Z a0 hw n0 d4 k4 em ea ey mr x0 x1 h4 (own_old X4) A4 f5 f6 EM EY MR p_ny) (W 206 rfl) (W 131 rfl) (by decide) (by decide) rfl (lenOf pd_12 rfl) rfl rfl dd_jdk_56_method_3_50 rfl rfl rfl rfl (by decide) (by decide) ?_
  intro v7 T7 h7 X7 q7
  obtain ⟨c7, rfl, K7, I7⟩ := q7
  show G T7 (mkF m 53 #[.val (.ref a), .unset] [(.ref c7)])
  exact own_ret X7 hGe (t := (.object "java/util/List")) rfl rfl (Or.inr (Or.inr (Or.inr (Or.inr ⟨rfl, rfl, rfl⟩)))) dd_jdk_56_method_3_53 (by decide) (by decide) ⟨c7, rfl, (((Keep.refl h0 []).trans K4 all0).trans K7 all0), I7⟩
theorem ef_own_cpo2 (m : MethodId) (x0 : Addr) : entryFrame m #[(.ref x0)] 1 = mkF m 0 #[.val (.ref x0)] [] := by first | (simp [entryFrame, mkF, argsToLocals, Value.category]; done) | rfl
set_option maxRecDepth 65536 in
set_option maxHeartbeats 40000000 in
theorem own_cpo2 (l : Launch) (Z : State) (a0 : Array Value) (hw : ∀ d ∈ tables_1, d.before a0 Z = true) (n0 : Nat) (a ar : Addr) (kr : ClassId) (em ea ey mr : Addr) (x0 x1 : Addr) (h0 : Heap) (O0 : Old Z n0 h0) (p_E : Exa Z h0 a "java/util/ArrayList") (p_F : Fld Z h0 a "java/util/ArrayList" "elementData" "[Ljava/lang/Object;" (.ref ar)) (p_S : Fld Z h0 a "java/util/ArrayList" "size" "I" (.int 2)) (p_A : own_Arr Z h0 ar kr (.object "java/lang/Object") [(.ref x0), (.ref x1), .null, .null, .null, .null, .null, .null, .null, .null]) (p_Q : Exa Z h0 ar "[Ljava/lang/Object;") (p_x0 : Exa Z h0 x0 "java/util/KeyValueHolder") (p_x1 : Exa Z h0 x1 "java/util/KeyValueHolder") (EM : own_EMP Z em ea) (EY : own_MTY Z ey) (MR : own_Mir Z "[Ljava/lang/Object;" mr) (p_ny : x1 ≠ ey) :
    own_Met l Z n0 (⟨"java/util/List", "copyOf", "(Ljava/util/Collection;)Ljava/util/List;"⟩ : MethodName) jdk_40_method_48_code 1 (some (.object "java/util/List")) ({ frames := 8, cells := 3, slots := 8, locals := 103 } : Room) #[(.ref a)] h0 (fun v h => ∃ c : Addr, v = some (.ref c) ∧ Keep h0 h [] ∧ own_IL Z h em ey c [x0, x1]) := by
  refine own_enter (own := "java/util/List") (nm := "copyOf") (plainFor_of_name pn_10) rfl rfl O0 ?_
  have W : ∀ (k : Nat) {d : Jvm.Cond}, tables_1[k]? = some d → d.before a0 Z = true := fun k d q => hw d (List.mem_of_getElem? q)
  intro G p e s m below meth c T0 hGe X0
  rw [ef_own_cpo2 m a]
  refine own_aload_n (pc' := 1) X0 dd_jdk_40_method_48_0 rfl rfl rfl ?_
  refine own_callSM (pc' := 4) (cells' := 2) (slots' := 4) (argsL := [(.ref a)]) (rest := []) (W := 0) (y := (⟨"java/util/ImmutableCollections", "listCopy", "(Ljava/util/Collection;)Ljava/util/List;"⟩ : MethodName)) X0 (W 133 rfl) (W 134 rfl) (by decide) (own_lcp2 l Z a0 hw n0 a ar kr em ea ey mr x0 x1 h0 (own_old X0) p_E p_F p_S p_A p_Q p_x0 p_x1 EM EY MR p_ny) (W 136 rfl) (W 135 rfl) (by decide) (by decide) rfl (lenOf pd_7 rfl) rfl rfl dd_jdk_40_method_48_1 rfl rfl rfl rfl (by decide) (by decide) ?_
  intro v1 T1 h1 X1 q1
  obtain ⟨c1, rfl, K1, I1⟩ := q1
  show G T1 (mkF m 4 #[.val (.ref a)] [(.ref c1)])
  exact own_ret X1 hGe (t := (.object "java/util/List")) rfl rfl (Or.inr (Or.inr (Or.inr (Or.inr ⟨rfl, rfl, rfl⟩)))) dd_jdk_40_method_48_4 (by decide) (by decide) ⟨c1, rfl, ((Keep.refl h0 []).trans K1 all0), I1⟩
theorem dd_jdk_40_method_47_59 : decode jdk_40_method_47_code 59 = .ok (.aload_n 0, 1) := by decide +kernel
theorem dd_jdk_40_method_47_60 : decode jdk_40_method_47_code 60 = .ok (.invokestatic 109, 3) := by decide +kernel
theorem dd_jdk_40_method_47_63 : decode jdk_40_method_47_code 63 = .ok (.areturn, 1) := by decide +kernel
theorem ef_own_lofa3 (m : MethodId) (x0 : Addr) : entryFrame m #[(.ref x0)] 2 = mkF m 0 #[.val (.ref x0), .unset] [] := by first | (simp [entryFrame, mkF, argsToLocals, Value.category]; done) | rfl
set_option maxRecDepth 65536 in
set_option maxHeartbeats 40000000 in
theorem own_lofa3 (l : Launch) (Z : State) (a0 : Array Value) (hw : ∀ d ∈ tables_1, d.before a0 Z = true) (n0 : Nat) (a : Addr) (ka : ClassId) (em ea ey mr : Addr) (x0 x1 x2 : Addr) (h0 : Heap) (O0 : Old Z n0 h0) (p_A : own_Arr Z h0 a ka (.object "java/lang/Object") [(.ref x0), (.ref x1), (.ref x2)]) (p_x0 : Exa Z h0 x0 "java/util/KeyValueHolder") (p_x1 : Exa Z h0 x1 "java/util/KeyValueHolder") (p_x2 : Exa Z h0 x2 "java/util/KeyValueHolder") (EM : own_EMP Z em ea) (EY : own_MTY Z ey) (MR : own_Mir Z "[Ljava/lang/Object;" mr) :
    own_Met l Z n0 (⟨"java/util/List", "of", "([Ljava/lang/Object;)Ljava/util/List;"⟩ : MethodName) jdk_40_method_47_code 2 (some (.object "java/util/List")) ({ frames := 6, cells := 2, slots := 5, locals := 77 } : Room) #[(.ref a)] h0 (fun v h => ∃ c : Addr, v = some (.ref c) ∧ Keep h0 h [] ∧ own_IL Z h em ey c [x0, x1, x2]) := by
  refine own_enter (own := "java/util/List") (nm := "of") (plainFor_of_name pn_10) rfl rfl O0 ?_
  have W : ∀ (k : Nat) {d : Jvm.Cond}, tables_1[k]? = some d → d.before a0 Z = true := fun k d q => hw d (List.mem_of_getElem? q)
  intro G p e s m below meth c T0 hGe X0
  rw [ef_own_lofa3 m a]
  refine own_aload_n (pc' := 1) X0 dd_jdk_40_method_47_0 rfl rfl rfl ?_
  refine own_arraylength (pc' := 2) (z := (3 : Int32)) X0 p_A rfl dd_jdk_40_method_47_1 rfl ?_
  refine own_tswD (pc' := 59) X0 dd_jdk_40_method_47_2 (by decide) (by decide) (by decide) ?_
  refine own_aload_n (pc' := 60) X0 dd_jdk_40_method_47_59 rfl rfl rfl ?_
  refine own_callSM (pc' := 63) (cells' := 2) (slots' := 5) (argsL := [(.ref a)]) (rest := []) (W := 0) (y := (⟨"java/util/ImmutableCollections", "listFromArray", "([Ljava/lang/Object;)Ljava/util/List;"⟩ : MethodName)) X0 (W 207 rfl) (W 208 rfl) (by decide) (own_lfa l Z a0 hw n0 a em ey ka x0 x1 x2 h0 (own_old X0) p_A p_x0 p_x1 p_x2) (W 209 rfl) (W 135 rfl) (by decide) (by decide) rfl (lenOf pd_12 rfl) rfl rfl dd_jdk_40_method_47_60 rfl rfl rfl rfl (by decide) (by decide) ?_
  intro v1 T1 h1 X1 q1
  obtain ⟨c1, rfl, K1, I1⟩ := q1
  show G T1 (mkF m 63 #[.val (.ref a), .unset] [(.ref c1)])
  exact own_ret X1 hGe (t := (.object "java/util/List")) rfl rfl (Or.inr (Or.inr (Or.inr (Or.inr ⟨rfl, rfl, rfl⟩)))) dd_jdk_40_method_47_63 (by decide) (by decide) ⟨c1, rfl, ((Keep.refl h0 []).trans K1 all0), I1⟩
theorem ef_own_min10_3 (m : MethodId) (x0 : Int32) (x1 : Int32) : entryFrame m #[(.int x0), (.int x1)] 2 = mkF m 0 #[.val (.int x0), .val (.int x1)] [] := by first | (simp [entryFrame, mkF, argsToLocals, Value.category]; done) | rfl
set_option maxRecDepth 65536 in
set_option maxHeartbeats 40000000 in
theorem own_min10_3 (l : Launch) (Z : State) (a0 : Array Value) (hw : ∀ d ∈ tables_1, d.before a0 Z = true) (n0 : Nat)  (h0 : Heap) (O0 : Old Z n0 h0)  :
    own_Met l Z n0 (⟨"java/lang/Math", "min", "(II)I"⟩ : MethodName) jdk_29_method_69_code 2 (some .int) ({ frames := 0, cells := 0, slots := 0, locals := 0 } : Room) #[(.int (10 : Int32)), (.int (3 : Int32))] h0 (fun v h => v = some (.int 3) ∧ h0 = h) := by
  refine own_enter (own := "java/lang/Math") (nm := "min") pf_11 rfl rfl O0 ?_
  have W : ∀ (k : Nat) {d : Jvm.Cond}, tables_1[k]? = some d → d.before a0 Z = true := fun k d q => hw d (List.mem_of_getElem? q)
  intro G p e s m below meth c T0 hGe X0
  rw [ef_own_min10_3 m ((10 : Int32)) ((3 : Int32))]
  refine own_iload_n (pc' := 1) X0 dd_jdk_29_method_69_0 rfl rfl ?_
  refine own_iload_n (pc' := 2) X0 dd_jdk_29_method_69_1 rfl rfl ?_
  refine own_icmpY (pc' := 9) X0 dd_jdk_29_method_69_2 ((tlt (by decide)).2.2.1) (by decide) (by decide) ?_
  refine own_iload_n (pc' := 10) X0 dd_jdk_29_method_69_9 rfl rfl ?_
  exact own_ret X0 hGe (t := .int) rfl rfl (Or.inl ⟨rfl, by simp, _, rfl⟩) dd_jdk_29_method_69_10 (by decide) (by decide) ⟨rfl, rfl⟩
theorem ef_own_cpc10_3 (m : MethodId) (x0 : Addr) (x1 : Int32) (x2 : Addr) : entryFrame m #[(.ref x0), (.int x1), (.ref x2)] 4 = mkF m 0 #[.val (.ref x0), .val (.int x1), .val (.ref x2), .unset] [] := by first | (simp [entryFrame, mkF, argsToLocals, Value.category]; done) | rfl
set_option maxRecDepth 65536 in
set_option maxHeartbeats 40000000 in
theorem own_cpc10_3 (l : Launch) (Z : State) (a0 : Array Value) (hw : ∀ d ∈ tables_1, d.before a0 Z = true) (n0 : Nat) (a : Addr) (ka : ClassId) (mr : Addr) (x0 x1 x2 : Addr) (h0 : Heap) (O0 : Old Z n0 h0) (p_A : own_Arr Z h0 a ka (.object "java/lang/Object") [(.ref x0), (.ref x1), (.ref x2), .null, .null, .null, .null, .null, .null, .null]) (p_E : Exa Z h0 a "[Ljava/lang/Object;") (MR : own_Mir Z "[Ljava/lang/Object;" mr) (p_x0 : Exa Z h0 x0 "java/util/KeyValueHolder") (p_x1 : Exa Z h0 x1 "java/util/KeyValueHolder") (p_x2 : Exa Z h0 x2 "java/util/KeyValueHolder") :
    own_Met l Z n0 (⟨"java/util/Arrays", "copyOf", "([Ljava/lang/Object;ILjava/lang/Class;)[Ljava/lang/Object;"⟩ : MethodName) jdk_65_method_120_code 4 (some (.array (.object "java/lang/Object"))) ({ frames := 1, cells := 1, slots := 3, locals := 20 } : Room) #[(.ref a), (.int (3 : Int32)), (.ref mr)] h0 (fun v h => ∃ (d : Addr) (k : ClassId), v = some (.ref d) ∧ Keep h0 h [] ∧ h0.size ≤ d ∧ own_Arr Z h d k (.object "java/lang/Object") [(.ref x0), (.ref x1), (.ref x2)] ∧ Exa Z h d "[Ljava/lang/Object;") := by
  refine own_enter (own := "java/util/Arrays") (nm := "copyOf") (plainFor_of_name pn_12) rfl rfl O0 ?_
  have W : ∀ (k : Nat) {d : Jvm.Cond}, tables_1[k]? = some d → d.before a0 Z = true := fun k d q => hw d (List.mem_of_getElem? q)
  intro G p e s m below meth c T0 hGe X0
  rw [ef_own_cpc10_3 m a ((3 : Int32)) mr]
  refine own_aload_n (pc' := 1) X0 dd_jdk_65_method_120_0 rfl rfl rfl ?_
  refine own_ldcC (pc' := 3) X0 (W 195 rfl) MR dd_jdk_65_method_120_1 rfl ?_
  intro T1 X1
  refine own_acmp (pc' := 6) (same := true) X1 dd_jdk_65_method_120_3 rfl rfl (by simp) (by decide) (by decide) ?_
  refine own_iload_n (pc' := 7) X1 dd_jdk_65_method_120_6 rfl rfl ?_
  refine own_anewR (pc' := 10) (cells' := 1) (slots' := 3) (n := 3) (cap := 3) (ad := "[Ljava/lang/Object;") X1 (W 196 rfl) (W 26 rfl) (by decide) (by decide) (by decide) dd_jdk_65_method_120_7 rfl rfl (by decide) (by decide) rfl (by decide) (by decide) ?_
  intro T2 h2 a2 k2 g2 X2 K2 A2 E2 V2
  have n_a2 : n0 ≤ a2 := by rw [g2]; exact own_n0 X1
  have A2' : own_Arr Z h2 a2 k2 (.object "java/lang/Object") [.null, .null, .null] := A2
  refine own_goto (pc' := 24) X2 dd_jdk_65_method_120_10 (by decide) (by decide) ?_
  refine own_astore_n (pc' := 25) X2 dd_jdk_65_method_120_24 rfl rfl (Ls' := #[.val (.ref a), .val (.int (3 : Int32)), .val (.ref mr), .val (.ref a2)]) rfl ?_
  refine own_aload_n (pc' := 26) X2 dd_jdk_65_method_120_25 rfl rfl rfl ?_
  refine own_iconst (pc' := 27) X2 dd_jdk_65_method_120_26 rfl (z := (0 : Int32)) (by decide) ?_
  refine own_aload_n (pc' := 28) X2 dd_jdk_65_method_120_27 rfl rfl rfl ?_
  refine own_iconst (pc' := 29) X2 dd_jdk_65_method_120_28 rfl (z := (0 : Int32)) (by decide) ?_
  refine own_aload_n (pc' := 30) X2 dd_jdk_65_method_120_29 rfl rfl rfl ?_
  have f3 := (p_A.keep K2 nin0)
  refine own_arraylength (pc' := 31) (z := (10 : Int32)) X2 f3 rfl dd_jdk_65_method_120_30 rfl ?_
  refine own_iload_n (pc' := 32) X2 dd_jdk_65_method_120_31 rfl rfl ?_
  refine own_callSM (pc' := 35) (cells' := 1) (slots' := 3) (argsL := [(.int (10 : Int32)), (.int (3 : Int32))]) (rest := [(.int (0 : Int32)), (.ref a2), (.int (0 : Int32)), (.ref a)]) (W := 4) (y := (⟨"java/lang/Math", "min", "(II)I"⟩ : MethodName)) X2 (W 197 rfl) (W 198 rfl) (by decide) (own_min10_3 l Z a0 hw n0  h2 (own_old X2) ) (W 199 rfl) (W 82 rfl) (by decide) (by decide) rfl (lenOf pd_1 rfl) rfl rfl dd_jdk_65_method_120_32 rfl rfl rfl rfl (by decide) (by decide) ?_
  intro v4 T4 h4 X4 q4
  obtain ⟨rfl, rfl⟩ := q4
  show G T4 (mkF m 35 #[.val (.ref a), .val (.int (3 : Int32)), .val (.ref mr), .val (.ref a2)] [(.int (3 : Int32)), (.int (0 : Int32)), (.ref a2), (.int (0 : Int32)), (.ref a)])
  have f5 := (p_x2.keep K2)
  have f6 := (p_x1.keep K2)
  have f7 := (p_x0.keep K2)
  refine own_arraycopy (pc' := 38) (W := 0) (sp := 0) (dp := 0) (n := 3) X4 (W 200 rfl) (W 203 rfl) (W 201 rfl) (W 202 rfl) f3 A2' (Or.inr ⟨rfl, rfl, ⟨own_stoR A2' V2 (Ins.of_exa f7 (W 27 rfl)), ⟨own_stoR A2' V2 (Ins.of_exa f6 (W 27 rfl)), ⟨own_stoR A2' V2 (Ins.of_exa f5 (W 27 rfl)), trivial⟩⟩⟩⟩) (by decide) (by decide) (by decide) (Nat.le_of_ble_eq_true rfl) (Nat.le_of_ble_eq_true rfl) n_a2 rfl rfl dd_jdk_65_method_120_35 rfl (by decide) (by decide) ?_
  intro T8 h8 X8 K8 A8
  have A8' : own_Arr Z h8 a2 k2 (.object "java/lang/Object") [(.ref x0), (.ref x1), (.ref x2)] := by exact A8
  refine own_aload_n (pc' := 39) X8 dd_jdk_65_method_120_38 rfl rfl rfl ?_
  have age_a2 : h0.size ≤ a2 := Nat.le_trans (Nat.le_refl _) (Nat.le_of_eq (Eq.symm g2))
  have f9 := (E2.keep K8)
  exact own_ret X8 hGe (t := (.array (.object "java/lang/Object"))) rfl rfl (Or.inr (Or.inr (Or.inr (Or.inr ⟨rfl, rfl, rfl⟩)))) dd_jdk_65_method_120_39 (by decide) (by decide) ⟨a2, _, rfl, (((Keep.refl h0 []).trans K2 all0).trans K8 (allS (Or.inr age_a2) all0)), age_a2, A8', f9⟩
theorem ef_own_cp10_3 (m : MethodId) (x0 : Addr) (x1 : Int32) : entryFrame m #[(.ref x0), (.int x1)] 2 = mkF m 0 #[.val (.ref x0), .val (.int x1)] [] := by first | (simp [entryFrame, mkF, argsToLocals, Value.category]; done) | rfl
set_option maxRecDepth 65536 in
set_option maxHeartbeats 40000000 in
theorem own_cp10_3 (l : Launch) (Z : State) (a0 : Array Value) (hw : ∀ d ∈ tables_1, d.before a0 Z = true) (n0 : Nat) (a : Addr) (ka : ClassId) (mr : Addr) (x0 x1 x2 : Addr) (h0 : Heap) (O0 : Old Z n0 h0) (p_A : own_Arr Z h0 a ka (.object "java/lang/Object") [(.ref x0), (.ref x1), (.ref x2), .null, .null, .null, .null, .null, .null, .null]) (p_E : Exa Z h0 a "[Ljava/lang/Object;") (MR : own_Mir Z "[Ljava/lang/Object;" mr) (p_x0 : Exa Z h0 x0 "java/util/KeyValueHolder") (p_x1 : Exa Z h0 x1 "java/util/KeyValueHolder") (p_x2 : Exa Z h0 x2 "java/util/KeyValueHolder") :
    own_Met l Z n0 (⟨"java/util/Arrays", "copyOf", "([Ljava/lang/Object;I)[Ljava/lang/Object;"⟩ : MethodName) jdk_65_method_119_code 2 (some (.array (.object "java/lang/Object"))) ({ frames := 2, cells := 1, slots := 3, locals := 35 } : Room) #[(.ref a), (.int (3 : Int32))] h0 (fun v h => ∃ (d : Addr) (k : ClassId), v = some (.ref d) ∧ Keep h0 h [] ∧ h0.size ≤ d ∧ own_Arr Z h d k (.object "java/lang/Object") [(.ref x0), (.ref x1), (.ref x2)] ∧ Exa Z h d "[Ljava/lang/Object;") := by
  refine own_enter (own := "java/util/Arrays") (nm := "copyOf") (plainFor_of_name pn_12) rfl rfl O0 ?_
  have W : ∀ (k : Nat) {d : Jvm.Cond}, tables_1[k]? = some d → d.before a0 Z = true := fun k d q => hw d (List.mem_of_getElem? q)
  intro G p e s m below meth c T0 hGe X0
  rw [ef_own_cp10_3 m a ((3 : Int32))]
  refine own_aload_n (pc' := 1) X0 dd_jdk_65_method_119_0 rfl rfl rfl ?_
  refine own_iload_n (pc' := 2) X0 dd_jdk_65_method_119_1 rfl rfl ?_
  refine own_aload_n (pc' := 3) X0 dd_jdk_65_method_119_2 rfl rfl rfl ?_
  refine own_gcls (pc' := 6) (W := 2) X0 (W 186 rfl) (W 187 rfl) (W 141 rfl) (W 189 rfl) (W 188 rfl) (W 190 rfl) p_E MR rfl dd_jdk_65_method_119_3 rfl (by decide) rfl (by decide) ?_
  intro T1 X1
  refine own_callSM (pc' := 9) (cells' := 1) (slots' := 3) (argsL := [(.ref a), (.int (3 : Int32)), (.ref mr)]) (rest := []) (W := 0) (y := (⟨"java/util/Arrays", "copyOf", "([Ljava/lang/Object;ILjava/lang/Class;)[Ljava/lang/Object;"⟩ : MethodName)) X1 (W 192 rfl) (W 193 rfl) (by decide) (own_cpc10_3 l Z a0 hw n0 a ka mr x0 x1 x2 h0 (own_old X1) p_A p_E MR p_x0 p_x1 p_x2) (W 194 rfl) (W 184 rfl) (by decide) (by decide) rfl (lenOf pd_9 rfl) rfl rfl dd_jdk_65_method_119_6 rfl rfl rfl rfl (by decide) (by decide) ?_
  intro v2 T2 h2 X2 q2
  obtain ⟨d2, k2, rfl, K2, z2, A2, E2⟩ := q2
  show G T2 (mkF m 9 #[.val (.ref a), .val (.int (3 : Int32))] [(.ref d2)])
  have age_d2 : h0.size ≤ d2 := Nat.le_trans (Nat.le_refl _) z2
  exact own_ret X2 hGe (t := (.array (.object "java/lang/Object"))) rfl rfl (Or.inr (Or.inr (Or.inr (Or.inr ⟨rfl, rfl, rfl⟩)))) dd_jdk_65_method_119_9 (by decide) (by decide) ⟨d2, _, rfl, ((Keep.refl h0 []).trans K2 all0), age_d2, A2, E2⟩
theorem ef_own_alt3 (m : MethodId) (x0 : Addr) : entryFrame m #[(.ref x0)] 1 = mkF m 0 #[.val (.ref x0)] [] := by first | (simp [entryFrame, mkF, argsToLocals, Value.category]; done) | rfl
set_option maxRecDepth 65536 in
set_option maxHeartbeats 40000000 in
theorem own_alt3 (l : Launch) (Z : State) (a0 : Array Value) (hw : ∀ d ∈ tables_1, d.before a0 Z = true) (n0 : Nat) (a ar : Addr) (kr : ClassId) (mr : Addr) (x0 x1 x2 : Addr) (h0 : Heap) (O0 : Old Z n0 h0) (p_E : Exa Z h0 a "java/util/ArrayList") (p_F : Fld Z h0 a "java/util/ArrayList" "elementData" "[Ljava/lang/Object;" (.ref ar)) (p_S : Fld Z h0 a "java/util/ArrayList" "size" "I" (.int 3)) (p_A : own_Arr Z h0 ar kr (.object "java/lang/Object") [(.ref x0), (.ref x1), (.ref x2), .null, .null, .null, .null, .null, .null, .null]) (p_Q : Exa Z h0 ar "[Ljava/lang/Object;") (MR : own_Mir Z "[Ljava/lang/Object;" mr) (p_x0 : Exa Z h0 x0 "java/util/KeyValueHolder") (p_x1 : Exa Z h0 x1 "java/util/KeyValueHolder") (p_x2 : Exa Z h0 x2 "java/util/KeyValueHolder") :
    own_Met l Z n0 (⟨"java/util/ArrayList", "toArray", "()[Ljava/lang/Object;"⟩ : MethodName) jdk_38_method_16_code 1 (some (.array (.object "java/lang/Object"))) ({ frames := 3, cells := 1, slots := 3, locals := 48 } : Room) #[(.ref a)] h0 (fun v h => ∃ (d : Addr) (k : ClassId), v = some (.ref d) ∧ Keep h0 h [] ∧ h0.size ≤ d ∧ own_Arr Z h d k (.object "java/lang/Object") [(.ref x0), (.ref x1), (.ref x2)] ∧ Exa Z h d "[Ljava/lang/Object;") := by
  refine own_enter (own := "java/util/ArrayList") (nm := "toArray") (plainFor_of_name pn_2) rfl rfl O0 ?_
  have W : ∀ (k : Nat) {d : Jvm.Cond}, tables_1[k]? = some d → d.before a0 Z = true := fun k d q => hw d (List.mem_of_getElem? q)
  intro G p e s m below meth c T0 hGe X0
  rw [ef_own_alt3 m a]
  refine own_aload_n (pc' := 1) X0 dd_jdk_38_method_16_0 rfl rfl rfl ?_
  refine own_get (pc' := 4) X0 (host := "") (Or.inl (W 50 rfl)) Via.refl p_F dd_jdk_38_method_16_1 rfl ?_
  intro T1 X1
  refine own_aload_n (pc' := 5) X1 dd_jdk_38_method_16_4 rfl rfl rfl ?_
  refine own_get (pc' := 8) X1 (host := "") (Or.inl (W 63 rfl)) Via.refl p_S dd_jdk_38_method_16_5 rfl ?_
  intro T2 X2
  refine own_callSM (pc' := 11) (cells' := 1) (slots' := 3) (argsL := [(.ref ar), (.int (3 : Int32))]) (rest := []) (W := 0) (y := (⟨"java/util/Arrays", "copyOf", "([Ljava/lang/Object;I)[Ljava/lang/Object;"⟩ : MethodName)) X2 (W 182 rfl) (W 183 rfl) (by decide) (own_cp10_3 l Z a0 hw n0 ar kr mr x0 x1 x2 h0 (own_old X2) p_A p_Q MR p_x0 p_x1 p_x2) (W 185 rfl) (W 184 rfl) (by decide) (by decide) rfl (lenOf pd_10 rfl) rfl rfl dd_jdk_38_method_16_8 rfl rfl rfl rfl (by decide) (by decide) ?_
  intro v3 T3 h3 X3 q3
  obtain ⟨d3, k3, rfl, K3, z3, A3, E3⟩ := q3
  show G T3 (mkF m 11 #[.val (.ref a)] [(.ref d3)])
  have age_d3 : h0.size ≤ d3 := Nat.le_trans (Nat.le_refl _) z3
  exact own_ret X3 hGe (t := (.array (.object "java/lang/Object"))) rfl rfl (Or.inr (Or.inr (Or.inr (Or.inr ⟨rfl, rfl, rfl⟩)))) dd_jdk_38_method_16_11 (by decide) (by decide) ⟨d3, _, rfl, ((Keep.refl h0 []).trans K3 all0), age_d3, A3, E3⟩
theorem ef_own_lcp3 (m : MethodId) (x0 : Addr) : entryFrame m #[(.ref x0)] 2 = mkF m 0 #[.val (.ref x0), .unset] [] := by first | (simp [entryFrame, mkF, argsToLocals, Value.category]; done) | rfl
set_option maxRecDepth 65536 in
set_option maxHeartbeats 40000000 in
theorem own_lcp3 (l : Launch) (Z : State) (a0 : Array Value) (hw : ∀ d ∈ tables_1, d.before a0 Z = true) (n0 : Nat) (a ar : Addr) (kr : ClassId) (em ea ey mr : Addr) (x0 x1 x2 : Addr) (h0 : Heap) (O0 : Old Z n0 h0) (p_E : Exa Z h0 a "java/util/ArrayList") (p_F : Fld Z h0 a "java/util/ArrayList" "elementData" "[Ljava/lang/Object;" (.ref ar)) (p_S : Fld Z h0 a "java/util/ArrayList" "size" "I" (.int 3)) (p_A : own_Arr Z h0 ar kr (.object "java/lang/Object") [(.ref x0), (.ref x1), (.ref x2), .null, .null, .null, .null, .null, .null, .null]) (p_Q : Exa Z h0 ar "[Ljava/lang/Object;") (p_x0 : Exa Z h0 x0 "java/util/KeyValueHolder") (p_x1 : Exa Z h0 x1 "java/util/KeyValueHolder") (p_x2 : Exa Z h0 x2 "java/util/KeyValueHolder") (EM : own_EMP Z em ea) (EY : own_MTY Z ey) (MR : own_Mir Z "[Ljava/lang/Object;" mr) :
    own_Met l Z n0 (⟨"java/util/ImmutableCollections", "listCopy", "(Ljava/util/Collection;)Ljava/util/List;"⟩ : MethodName) jdk_56_method_3_code 2 (some (.object "java/util/List")) ({ frames := 7, cells := 3, slots := 8, locals := 90 } : Room) #[(.ref a)] h0 (fun v h => ∃ c : Addr, v = some (.ref c) ∧ Keep h0 h [] ∧ own_IL Z h em ey c [x0, x1, x2]) := by
  refine own_enter (own := "java/util/ImmutableCollections") (nm := "listCopy") (plainFor_of_name pn_9) rfl rfl O0 ?_
  have W : ∀ (k : Nat) {d : Jvm.Cond}, tables_1[k]? = some d → d.before a0 Z = true := fun k d q => hw d (List.mem_of_getElem? q)
  intro G p e s m below meth c T0 hGe X0
  rw [ef_own_lcp3 m a]
  refine own_aload_n (pc' := 1) X0 dd_jdk_56_method_3_0 rfl rfl rfl ?_
  refine own_instN (pc' := 4) X0 (W 137 rfl) p_E (own_Up.no (own_Up.step (W 138 rfl) (own_Up.step (W 139 rfl) (own_Up.step (W 140 rfl) (own_Up.top (W 141 rfl))))) (W 138 rfl) (W 419 rfl) (by decide) (by decide)) dd_jdk_56_method_3_1 rfl ?_
  intro T1 X1
  refine own_ifN (pc' := 7) X1 dd_jdk_56_method_3_4 rfl ((teq rfl).2) ?_
  refine own_aload_n (pc' := 8) X1 dd_jdk_56_method_3_7 rfl rfl rfl ?_
  refine own_instN (pc' := 11) X1 (W 142 rfl) p_E (own_Up.no (own_Up.step (W 138 rfl) (own_Up.step (W 139 rfl) (own_Up.step (W 140 rfl) (own_Up.top (W 141 rfl))))) (W 138 rfl) (W 212 rfl) (by decide) (by decide)) dd_jdk_56_method_3_8 rfl ?_
  intro T2 X2
  refine own_ifY (pc' := 31) X2 dd_jdk_56_method_3_11 ((teq rfl).1) (by decide) (by decide) ?_
  refine own_aload_n (pc' := 32) X2 dd_jdk_56_method_3_31 rfl rfl rfl ?_
  refine own_callFM (pc' := 37) (cells' := 0) (slots' := 0) (argsL := []) (rest := []) (W := 0) (y := (⟨"java/util/Collection", "isEmpty", "()Z"⟩ : MethodName)) (z := (⟨"java/util/ArrayList", "isEmpty", "()Z"⟩ : MethodName)) (a := a) X2 (W 143 rfl) (W 144 rfl) (fun s' a' hZ' => mvT hZ' (W 145 rfl)) (W 146 rfl) (W 147 rfl) (W 148 rfl) (W 149 rfl) (W 150 rfl) (by decide) p_E (own_ale l Z a0 hw n0 a (3 : Int32) h0 (own_old X2) p_S) (W 151 rfl) (W 30 rfl) (by decide) (by decide) rfl (lenOf pd_5 rfl) rfl rfl dd_jdk_56_method_3_32 rfl rfl rfl rfl (by decide) (by decide) ?_
  intro v3 T3 h3 X3 q3
  obtain ⟨rfl, rfl⟩ := q3
  show G T3 (mkF m 37 #[.val (.ref a), .unset] [(.int (if (3 : Int32) = 0 then (1 : Int32) else 0))])
  show G T3 (mkF m 37 #[.val (.ref a), .unset] [(.int (0 : Int32))])
  refine own_ifY (pc' := 44) X3 dd_jdk_56_method_3_37 ((teq rfl).1) (by decide) (by decide) ?_
  refine own_aload_n (pc' := 45) X3 dd_jdk_56_method_3_44 rfl rfl rfl ?_
  refine own_callFM (pc' := 50) (cells' := 1) (slots' := 3) (argsL := []) (rest := []) (W := 0) (y := (⟨"java/util/Collection", "toArray", "()[Ljava/lang/Object;"⟩ : MethodName)) (z := (⟨"java/util/ArrayList", "toArray", "()[Ljava/lang/Object;"⟩ : MethodName)) (a := a) X3 (W 174 rfl) (W 175 rfl) (fun s' a' hZ' => mvT hZ' (W 176 rfl)) (W 177 rfl) (W 178 rfl) (W 179 rfl) (W 180 rfl) (W 150 rfl) (by decide) p_E (own_alt3 l Z a0 hw n0 a ar kr mr x0 x1 x2 h0 (own_old X3) p_E p_F p_S p_A p_Q MR p_x0 p_x1 p_x2) (W 181 rfl) (W 30 rfl) (by decide) (by decide) rfl (lenOf pd_11 rfl) rfl rfl dd_jdk_56_method_3_45 rfl rfl rfl rfl (by decide) (by decide) ?_
  intro v4 T4 h4 X4 q4
  obtain ⟨d4, k4, rfl, K4, z4, A4, E4⟩ := q4
  show G T4 (mkF m 50 #[.val (.ref a), .unset] [(.ref d4)])
  have f5 := (p_x0.keep K4)
  have f6 := (p_x1.keep K4)
  have f7 := (p_x2.keep K4)
  refine own_callSM (pc' := 53) (cells' := 3) (slots' := 8) (argsL := [(.ref d4)]) (rest := []) (W := 0) (y := (⟨"java/util/List", "of", "([Ljava/lang/Object;)Ljava/util/List;"⟩ : MethodName)) X4 (W 204 rfl) (W 205 rfl) (by decide) (own_lofa3 l Z a0 hw n0 d4 k4 em ea ey mr x0 x1 x2 h4 (own_old X4) A4 f5 f6 f7 EM EY MR) (W 206 rfl) (W 131 rfl) (by decide) (by decide) rfl (lenOf pd_12 rfl) rfl rfl dd_jdk_56_method_3_50 rfl rfl rfl rfl (by decide) (by decide) ?_
  intro v8 T8 h8 X8 q8
  obtain ⟨c8, rfl, K8, I8⟩ := q8
  show G T8 (mkF m 53 #[.val (.ref a), .unset] [(.ref c8)])
  exact own_ret X8 hGe (t := (.object "java/util/List")) rfl rfl (Or.inr (Or.inr (Or.inr (Or.inr ⟨rfl, rfl, rfl⟩)))) dd_jdk_56_method_3_53 (by decide) (by decide) ⟨c8, rfl, (((Keep.refl h0 []).trans K4 all0).trans K8 all0), I8⟩
theorem ef_own_cpo3 (m : MethodId) (x0 : Addr) : entryFrame m #[(.ref x0)] 1 = mkF m 0 #[.val (.ref x0)] [] := by first | (simp [entryFrame, mkF, argsToLocals, Value.category]; done) | rfl
set_option maxRecDepth 65536 in
set_option maxHeartbeats 40000000 in
theorem own_cpo3 (l : Launch) (Z : State) (a0 : Array Value) (hw : ∀ d ∈ tables_1, d.before a0 Z = true) (n0 : Nat) (a ar : Addr) (kr : ClassId) (em ea ey mr : Addr) (x0 x1 x2 : Addr) (h0 : Heap) (O0 : Old Z n0 h0) (p_E : Exa Z h0 a "java/util/ArrayList") (p_F : Fld Z h0 a "java/util/ArrayList" "elementData" "[Ljava/lang/Object;" (.ref ar)) (p_S : Fld Z h0 a "java/util/ArrayList" "size" "I" (.int 3)) (p_A : own_Arr Z h0 ar kr (.object "java/lang/Object") [(.ref x0), (.ref x1), (.ref x2), .null, .null, .null, .null, .null, .null, .null]) (p_Q : Exa Z h0 ar "[Ljava/lang/Object;") (p_x0 : Exa Z h0 x0 "java/util/KeyValueHolder") (p_x1 : Exa Z h0 x1 "java/util/KeyValueHolder") (p_x2 : Exa Z h0 x2 "java/util/KeyValueHolder") (EM : own_EMP Z em ea) (EY : own_MTY Z ey) (MR : own_Mir Z "[Ljava/lang/Object;" mr) :
    own_Met l Z n0 (⟨"java/util/List", "copyOf", "(Ljava/util/Collection;)Ljava/util/List;"⟩ : MethodName) jdk_40_method_48_code 1 (some (.object "java/util/List")) ({ frames := 8, cells := 3, slots := 8, locals := 103 } : Room) #[(.ref a)] h0 (fun v h => ∃ c : Addr, v = some (.ref c) ∧ Keep h0 h [] ∧ own_IL Z h em ey c [x0, x1, x2]) := by
  refine own_enter (own := "java/util/List") (nm := "copyOf") (plainFor_of_name pn_10) rfl rfl O0 ?_
  have W : ∀ (k : Nat) {d : Jvm.Cond}, tables_1[k]? = some d → d.before a0 Z = true := fun k d q => hw d (List.mem_of_getElem? q)
  intro G p e s m below meth c T0 hGe X0
  rw [ef_own_cpo3 m a]
  refine own_aload_n (pc' := 1) X0 dd_jdk_40_method_48_0 rfl rfl rfl ?_
  refine own_callSM (pc' := 4) (cells' := 3) (slots' := 8) (argsL := [(.ref a)]) (rest := []) (W := 0) (y := (⟨"java/util/ImmutableCollections", "listCopy", "(Ljava/util/Collection;)Ljava/util/List;"⟩ : MethodName)) X0 (W 133 rfl) (W 134 rfl) (by decide) (own_lcp3 l Z a0 hw n0 a ar kr em ea ey mr x0 x1 x2 h0 (own_old X0) p_E p_F p_S p_A p_Q p_x0 p_x1 p_x2 EM EY MR) (W 136 rfl) (W 135 rfl) (by decide) (by decide) rfl (lenOf pd_7 rfl) rfl rfl dd_jdk_40_method_48_1 rfl rfl rfl rfl (by decide) (by decide) ?_
  intro v1 T1 h1 X1 q1
  obtain ⟨c1, rfl, K1, I1⟩ := q1
  show G T1 (mkF m 4 #[.val (.ref a)] [(.ref c1)])
  exact own_ret X1 hGe (t := (.object "java/util/List")) rfl rfl (Or.inr (Or.inr (Or.inr (Or.inr ⟨rfl, rfl, rfl⟩)))) dd_jdk_40_method_48_4 (by decide) (by decide) ⟨c1, rfl, ((Keep.refl h0 []).trans K1 all0), I1⟩
set_option maxRecDepth 65536 in
set_option maxHeartbeats 4000000 in
theorem own_cpoG (l : Launch) (Z : State) (a0 : Array Value) (hw : ∀ d ∈ tables_1, d.before a0 Z = true) (n0 : Nat) (a em ea ey mr : Addr) (xs : List Addr) (h0 : Heap) (O0 : Old Z n0 h0) (A : own_AT Z h0 a xs) (hl : xs.length ≤ 3) (hE : ∀ x ∈ xs, Exa Z h0 x "java/util/KeyValueHolder") (hN : ∀ x ∈ xs, x ≠ ey) (EM : own_EMP Z em ea) (EY : own_MTY Z ey) (MR : own_Mir Z "[Ljava/lang/Object;" mr) : own_Met l Z n0 (⟨"java/util/List", "copyOf", "(Ljava/util/Collection;)Ljava/util/List;"⟩ : MethodName) jdk_40_method_48_code 1 (some (.object "java/util/List")) ({ frames := 8, cells := 3, slots := 8, locals := 103 } : Room) #[.ref a] h0 (fun v h => ∃ c : Addr, v = some (.ref c) ∧ Keep h0 h [] ∧ own_IL Z h em ey c xs) := by
  obtain ⟨ar, kr, p_E, p_F, p_S, p_A⟩ := A
  rcases own_l3 hl with rfl | ⟨x0, rfl⟩ | ⟨x0, x1, rfl⟩ | ⟨x0, x1, x2, rfl⟩
  · exact own_cpo0 l Z a0 hw n0 a ar kr em ea ey mr  h0 O0 p_E p_F p_S  EM EY MR
  · rcases p_A with q | ⟨p_A, p_Q⟩
    · cases q
    exact own_cpo1 l Z a0 hw n0 a ar kr em ea ey mr x0 h0 O0 p_E p_F p_S p_A p_Q (hE _ (by simp)) EM EY MR
  · rcases p_A with q | ⟨p_A, p_Q⟩
    · cases q
    exact own_cpo2 l Z a0 hw n0 a ar kr em ea ey mr x0 x1 h0 O0 p_E p_F p_S p_A p_Q (hE _ (by simp)) (hE _ (by simp)) EM EY MR (hN _ (by simp))
  · rcases p_A with q | ⟨p_A, p_Q⟩
    · cases q
    exact own_cpo3 l Z a0 hw n0 a ar kr em ea ey mr x0 x1 x2 h0 O0 p_E p_F p_S p_A p_Q (hE _ (by simp)) (hE _ (by simp)) (hE _ (by simp)) EM EY MR

theorem dd_jdk_45_method_3_0 : decode jdk_45_method_3_code 0 = .ok (.aload_n 0, 1) := by decide +kernel
theorem dd_jdk_45_method_3_1 : decode jdk_45_method_3_code 1 = .ok (.getfield 7, 3) := by decide +kernel
theorem dd_jdk_45_method_3_4 : decode jdk_45_method_3_code 4 = .ok (.arraylength, 1) := by decide +kernel
theorem dd_jdk_45_method_3_5 : decode jdk_45_method_3_code 5 = .ok (.ireturn, 1) := by decide +kernel
theorem ef_own_ils0 (m : MethodId) (x0 : Addr) : entryFrame m #[(.ref x0)] 1 = mkF m 0 #[.val (.ref x0)] [] := by first | (simp [entryFrame, mkF, argsToLocals, Value.category]; done) | rfl
set_option maxRecDepth 65536 in
set_option maxHeartbeats 40000000 in
theorem own_ils0 (l : Launch) (Z : State) (a0 : Array Value) (hw : ∀ d ∈ tables_1, d.before a0 Z = true) (n0 : Nat) (c0 em ea ey : Addr) (h0 : Heap) (O0 : Old Z n0 h0) (I : own_IL Z h0 em ey c0 []) (EM : own_EMP Z em ea) (EY : own_MTY Z ey) :
    own_Met l Z n0 (⟨"java/util/ImmutableCollections$ListN", "size", "()I"⟩ : MethodName) jdk_45_method_3_code 1 (some .int) ({ frames := 0, cells := 0, slots := 0, locals := 0 } : Room) #[(.ref c0)] h0 (fun v h => v = some (.int 0) ∧ h0 = h) := by
  refine own_enter (own := "java/util/ImmutableCollections$ListN") (nm := "size") (plainFor_of_name pn_8) rfl rfl O0 ?_
  have W : ∀ (k : Nat) {d : Jvm.Cond}, tables_1[k]? = some d → d.before a0 Z = true := fun k d q => hw d (List.mem_of_getElem? q)
  intro G p e s m below meth c T0 hGe X0
  rw [ef_own_ils0 m c0]
  obtain rfl : em = c0 := I
  obtain ⟨kE, AE⟩ := EM.2.2.2.2
  refine own_aload_n (pc' := 1) X0 dd_jdk_45_method_3_0 rfl rfl rfl ?_
  refine own_get (pc' := 4) X0 (host := "") (Or.inl (W 232 rfl)) Via.refl (EM.2.2.1.keep (own_oldK (own_old X0)) nin0) dd_jdk_45_method_3_1 rfl ?_
  intro T1 X1
  refine own_arraylength (pc' := 5) (z := (0 : Int32)) X1 (AE.keep (own_oldK (own_old X0)) nin0) rfl dd_jdk_45_method_3_4 rfl ?_
  exact own_ret X1 hGe (t := .int) rfl rfl (Or.inl ⟨rfl, by simp, _, rfl⟩) dd_jdk_45_method_3_5 (by decide) (by decide) ⟨rfl, rfl⟩
theorem dd_jdk_45_method_2_0 : decode jdk_45_method_2_code 0 = .ok (.aload_n 0, 1) := by decide +kernel
theorem dd_jdk_45_method_2_1 : decode jdk_45_method_2_code 1 = .ok (.getfield 7, 3) := by decide +kernel
theorem dd_jdk_45_method_2_4 : decode jdk_45_method_2_code 4 = .ok (.arraylength, 1) := by decide +kernel
theorem dd_jdk_45_method_2_5 : decode jdk_45_method_2_code 5 = .ok (.ifCond .ne 7, 3) := by decide +kernel
theorem dd_jdk_45_method_2_8 : decode jdk_45_method_2_code 8 = .ok (.iconst 1, 1) := by decide +kernel
theorem dd_jdk_45_method_2_9 : decode jdk_45_method_2_code 9 = .ok (.goto 4, 3) := by decide +kernel
theorem dd_jdk_45_method_2_13 : decode jdk_45_method_2_code 13 = .ok (.ireturn, 1) := by decide +kernel
theorem ef_own_ile0 (m : MethodId) (x0 : Addr) : entryFrame m #[(.ref x0)] 1 = mkF m 0 #[.val (.ref x0)] [] := by first | (simp [entryFrame, mkF, argsToLocals, Value.category]; done) | rfl
set_option maxRecDepth 65536 in
set_option maxHeartbeats 40000000 in
theorem own_ile0 (l : Launch) (Z : State) (a0 : Array Value) (hw : ∀ d ∈ tables_1, d.before a0 Z = true) (n0 : Nat) (c0 em ea ey : Addr) (h0 : Heap) (O0 : Old Z n0 h0) (I : own_IL Z h0 em ey c0 []) (EM : own_EMP Z em ea) (EY : own_MTY Z ey) :
    own_Met l Z n0 (⟨"java/util/ImmutableCollections$ListN", "isEmpty", "()Z"⟩ : MethodName) jdk_45_method_2_code 1 (some .boolean) ({ frames := 0, cells := 0, slots := 0, locals := 0 } : Room) #[(.ref c0)] h0 (fun v h => v = some (.int 1) ∧ h0 = h) := by
  refine own_enter (own := "java/util/ImmutableCollections$ListN") (nm := "isEmpty") (plainFor_of_name pn_8) rfl rfl O0 ?_
  have W : ∀ (k : Nat) {d : Jvm.Cond}, tables_1[k]? = some d → d.before a0 Z = true := fun k d q => hw d (List.mem_of_getElem? q)
  intro G p e s m below meth c T0 hGe X0
  rw [ef_own_ile0 m c0]
  obtain rfl : em = c0 := I
  obtain ⟨kE, AE⟩ := EM.2.2.2.2
  refine own_aload_n (pc' := 1) X0 dd_jdk_45_method_2_0 rfl rfl rfl ?_
  refine own_get (pc' := 4) X0 (host := "") (Or.inl (W 232 rfl)) Via.refl (EM.2.2.1.keep (own_oldK (own_old X0)) nin0) dd_jdk_45_method_2_1 rfl ?_
  intro T1 X1
  refine own_arraylength (pc' := 5) (z := (0 : Int32)) X1 (AE.keep (own_oldK (own_old X0)) nin0) rfl dd_jdk_45_method_2_4 rfl ?_
  refine own_ifN (pc' := 8) X1 dd_jdk_45_method_2_5 rfl ((teq rfl).2) ?_
  refine own_iconst (pc' := 9) X1 dd_jdk_45_method_2_8 rfl (z := (1 : Int32)) (by decide) ?_
  refine own_goto (pc' := 13) X1 dd_jdk_45_method_2_9 (by decide) (by decide) ?_
  exact own_ret X1 hGe (t := .boolean) rfl rfl (Or.inl ⟨rfl, by simp, _, rfl⟩) dd_jdk_45_method_2_13 (by decide) (by decide) ⟨rfl, rfl⟩
theorem dd_jdk_45_method_7_0 : decode jdk_45_method_7_code 0 = .ok (.aload_n 0, 1) := by decide +kernel
theorem dd_jdk_45_method_7_1 : decode jdk_45_method_7_code 1 = .ok (.getfield 7, 3) := by decide +kernel
theorem dd_jdk_45_method_7_4 : decode jdk_45_method_7_code 4 = .ok (.aload_n 0, 1) := by decide +kernel
theorem dd_jdk_45_method_7_5 : decode jdk_45_method_7_code 5 = .ok (.getfield 7, 3) := by decide +kernel
theorem dd_jdk_45_method_7_8 : decode jdk_45_method_7_code 8 = .ok (.arraylength, 1) := by decide +kernel
theorem dd_jdk_29_method_69_5 : decode jdk_29_method_69_code 5 = .ok (.iload_n 0, 1) := by decide +kernel
theorem dd_jdk_29_method_69_6 : decode jdk_29_method_69_code 6 = .ok (.goto 4, 3) := by decide +kernel
theorem ef_own_min0_0 (m : MethodId) (x0 : Int32) (x1 : Int32) : entryFrame m #[(.int x0), (.int x1)] 2 = mkF m 0 #[.val (.int x0), .val (.int x1)] [] := by first | (simp [entryFrame, mkF, argsToLocals, Value.category]; done) | rfl
set_option maxRecDepth 65536 in
set_option maxHeartbeats 40000000 in
theorem own_min0_0 (l : Launch) (Z : State) (a0 : Array Value) (hw : ∀ d ∈ tables_1, d.before a0 Z = true) (n0 : Nat)  (h0 : Heap) (O0 : Old Z n0 h0)  :
    own_Met l Z n0 (⟨"java/lang/Math", "min", "(II)I"⟩ : MethodName) jdk_29_method_69_code 2 (some .int) ({ frames := 0, cells := 0, slots := 0, locals := 0 } : Room) #[(.int (0 : Int32)), (.int (0 : Int32))] h0 (fun v h => v = some (.int 0) ∧ h0 = h) := by
  refine own_enter (own := "java/lang/Math") (nm := "min") pf_11 rfl rfl O0 ?_
  have W : ∀ (k : Nat) {d : Jvm.Cond}, tables_1[k]? = some d → d.before a0 Z = true := fun k d q => hw d (List.mem_of_getElem? q)
  intro G p e s m below meth c T0 hGe X0
  rw [ef_own_min0_0 m ((0 : Int32)) ((0 : Int32))]
  refine own_iload_n (pc' := 1) X0 dd_jdk_29_method_69_0 rfl rfl ?_
  refine own_iload_n (pc' := 2) X0 dd_jdk_29_method_69_1 rfl rfl ?_
  refine own_icmpN (pc' := 5) X0 dd_jdk_29_method_69_2 rfl ((flt (by decide)).2.2.1) ?_
  refine own_iload_n (pc' := 6) X0 dd_jdk_29_method_69_5 rfl rfl ?_
  refine own_goto (pc' := 10) X0 dd_jdk_29_method_69_6 (by decide) (by decide) ?_
  exact own_ret X0 hGe (t := .int) rfl rfl (Or.inl ⟨rfl, by simp, _, rfl⟩) dd_jdk_29_method_69_10 (by decide) (by decide) ⟨rfl, rfl⟩
theorem ef_own_cpc0_0 (m : MethodId) (x0 : Addr) (x1 : Int32) (x2 : Addr) : entryFrame m #[(.ref x0), (.int x1), (.ref x2)] 4 = mkF m 0 #[.val (.ref x0), .val (.int x1), .val (.ref x2), .unset] [] := by first | (simp [entryFrame, mkF, argsToLocals, Value.category]; done) | rfl
set_option maxRecDepth 65536 in
set_option maxHeartbeats 40000000 in
theorem own_cpc0_0 (l : Launch) (Z : State) (a0 : Array Value) (hw : ∀ d ∈ tables_1, d.before a0 Z = true) (n0 : Nat) (a : Addr) (ka : ClassId) (mr : Addr) (h0 : Heap) (O0 : Old Z n0 h0) (p_A : own_Arr Z h0 a ka (.object "java/lang/Object") []) (p_E : Exa Z h0 a "[Ljava/lang/Object;") (MR : own_Mir Z "[Ljava/lang/Object;" mr)  :
    own_Met l Z n0 (⟨"java/util/Arrays", "copyOf", "([Ljava/lang/Object;ILjava/lang/Class;)[Ljava/lang/Object;"⟩ : MethodName) jdk_65_method_120_code 4 (some (.array (.object "java/lang/Object"))) ({ frames := 1, cells := 1, slots := 0, locals := 20 } : Room) #[(.ref a), (.int (0 : Int32)), (.ref mr)] h0 (fun v h => ∃ (d : Addr) (k : ClassId), v = some (.ref d) ∧ Keep h0 h [] ∧ h0.size ≤ d ∧ own_Arr Z h d k (.object "java/lang/Object") [] ∧ Exa Z h d "[Ljava/lang/Object;") := by
  refine own_enter (own := "java/util/Arrays") (nm := "copyOf") (plainFor_of_name pn_12) rfl rfl O0 ?_
  have W : ∀ (k : Nat) {d : Jvm.Cond}, tables_1[k]? = some d → d.before a0 Z = true := fun k d q => hw d (List.mem_of_getElem? q)
  intro G p e s m below meth c T0 hGe X0
  rw [ef_own_cpc0_0 m a ((0 : Int32)) mr]
  refine own_aload_n (pc' := 1) X0 dd_jdk_65_method_120_0 rfl rfl rfl ?_
  refine own_ldcC (pc' := 3) X0 (W 195 rfl) MR dd_jdk_65_method_120_1 rfl ?_
  intro T1 X1
  refine own_acmp (pc' := 6) (same := true) X1 dd_jdk_65_method_120_3 rfl rfl (by simp) (by decide) (by decide) ?_
  refine own_iload_n (pc' := 7) X1 dd_jdk_65_method_120_6 rfl rfl ?_
  refine own_anewR (pc' := 10) (cells' := 1) (slots' := 0) (n := 0) (cap := 0) (ad := "[Ljava/lang/Object;") X1 (W 196 rfl) (W 26 rfl) (by decide) (by decide) (by decide) dd_jdk_65_method_120_7 rfl rfl (by decide) (by decide) rfl (by decide) (by decide) ?_
  intro T2 h2 a2 k2 g2 X2 K2 A2 E2 V2
  have n_a2 : n0 ≤ a2 := by rw [g2]; exact own_n0 X1
  have A2' : own_Arr Z h2 a2 k2 (.object "java/lang/Object") [] := A2
  refine own_goto (pc' := 24) X2 dd_jdk_65_method_120_10 (by decide) (by decide) ?_
  refine own_astore_n (pc' := 25) X2 dd_jdk_65_method_120_24 rfl rfl (Ls' := #[.val (.ref a), .val (.int (0 : Int32)), .val (.ref mr), .val (.ref a2)]) rfl ?_
  refine own_aload_n (pc' := 26) X2 dd_jdk_65_method_120_25 rfl rfl rfl ?_
  refine own_iconst (pc' := 27) X2 dd_jdk_65_method_120_26 rfl (z := (0 : Int32)) (by decide) ?_
  refine own_aload_n (pc' := 28) X2 dd_jdk_65_method_120_27 rfl rfl rfl ?_
  refine own_iconst (pc' := 29) X2 dd_jdk_65_method_120_28 rfl (z := (0 : Int32)) (by decide) ?_
  refine own_aload_n (pc' := 30) X2 dd_jdk_65_method_120_29 rfl rfl rfl ?_
  have f3 := (p_A.keep K2 nin0)
  refine own_arraylength (pc' := 31) (z := (0 : Int32)) X2 f3 rfl dd_jdk_65_method_120_30 rfl ?_
  refine own_iload_n (pc' := 32) X2 dd_jdk_65_method_120_31 rfl rfl ?_
  refine own_callSM (pc' := 35) (cells' := 1) (slots' := 0) (argsL := [(.int (0 : Int32)), (.int (0 : Int32))]) (rest := [(.int (0 : Int32)), (.ref a2), (.int (0 : Int32)), (.ref a)]) (W := 4) (y := (⟨"java/lang/Math", "min", "(II)I"⟩ : MethodName)) X2 (W 197 rfl) (W 198 rfl) (by decide) (own_min0_0 l Z a0 hw n0  h2 (own_old X2) ) (W 199 rfl) (W 82 rfl) (by decide) (by decide) rfl (lenOf pd_1 rfl) rfl rfl dd_jdk_65_method_120_32 rfl rfl rfl rfl (by decide) (by decide) ?_
  intro v4 T4 h4 X4 q4
  obtain ⟨rfl, rfl⟩ := q4
  show G T4 (mkF m 35 #[.val (.ref a), .val (.int (0 : Int32)), .val (.ref mr), .val (.ref a2)] [(.int (0 : Int32)), (.int (0 : Int32)), (.ref a2), (.int (0 : Int32)), (.ref a)])
  refine own_arraycopy (pc' := 38) (W := 0) (sp := 0) (dp := 0) (n := 0) X4 (W 200 rfl) (W 203 rfl) (W 201 rfl) (W 202 rfl) f3 A2' (Or.inr ⟨rfl, rfl, trivial⟩) (by decide) (by decide) (by decide) (Nat.le_of_ble_eq_true rfl) (Nat.le_of_ble_eq_true rfl) n_a2 rfl rfl dd_jdk_65_method_120_35 rfl (by decide) (by decide) ?_
  intro T5 h5 X5 K5 A5
  have A5' : own_Arr Z h5 a2 k2 (.object "java/lang/Object") [] := by exact A5
  refine own_aload_n (pc' := 39) X5 dd_jdk_65_method_120_38 rfl rfl rfl ?_
  have age_a2 : h0.size ≤ a2 := Nat.le_trans (Nat.le_refl _) (Nat.le_of_eq (Eq.symm g2))
  have f6 := (E2.keep K5)
  exact own_ret X5 hGe (t := (.array (.object "java/lang/Object"))) rfl rfl (Or.inr (Or.inr (Or.inr (Or.inr ⟨rfl, rfl, rfl⟩)))) dd_jdk_65_method_120_39 (by decide) (by decide) ⟨a2, _, rfl, (((Keep.refl h0 []).trans K2 all0).trans K5 (allS (Or.inr age_a2) all0)), age_a2, A5', f6⟩
theorem ef_own_cp0_0 (m : MethodId) (x0 : Addr) (x1 : Int32) : entryFrame m #[(.ref x0), (.int x1)] 2 = mkF m 0 #[.val (.ref x0), .val (.int x1)] [] := by first | (simp [entryFrame, mkF, argsToLocals, Value.category]; done) | rfl
set_option maxRecDepth 65536 in
set_option maxHeartbeats 40000000 in
theorem own_cp0_0 (l : Launch) (Z : State) (a0 : Array Value) (hw : ∀ d ∈ tables_1, d.before a0 Z = true) (n0 : Nat) (a : Addr) (ka : ClassId) (mr : Addr) (h0 : Heap) (O0 : Old Z n0 h0) (p_A : own_Arr Z h0 a ka (.object "java/lang/Object") []) (p_E : Exa Z h0 a "[Ljava/lang/Object;") (MR : own_Mir Z "[Ljava/lang/Object;" mr)  :
    own_Met l Z n0 (⟨"java/util/Arrays", "copyOf", "([Ljava/lang/Object;I)[Ljava/lang/Object;"⟩ : MethodName) jdk_65_method_119_code 2 (some (.array (.object "java/lang/Object"))) ({ frames := 2, cells := 1, slots := 0, locals := 35 } : Room) #[(.ref a), (.int (0 : Int32))] h0 (fun v h => ∃ (d : Addr) (k : ClassId), v = some (.ref d) ∧ Keep h0 h [] ∧ h0.size ≤ d ∧ own_Arr Z h d k (.object "java/lang/Object") [] ∧ Exa Z h d "[Ljava/lang/Object;") := by
  refine own_enter (own := "java/util/Arrays") (nm := "copyOf") (plainFor_of_name pn_12) rfl rfl O0 ?_
  have W : ∀ (k : Nat) {d : Jvm.Cond}, tables_1[k]? = some d → d.before a0 Z = true := fun k d q => hw d (List.mem_of_getElem? q)
  intro G p e s m below meth c T0 hGe X0
  rw [ef_own_cp0_0 m a ((0 : Int32))]
  refine own_aload_n (pc' := 1) X0 dd_jdk_65_method_119_0 rfl rfl rfl ?_
  refine own_iload_n (pc' := 2) X0 dd_jdk_65_method_119_1 rfl rfl ?_
  refine own_aload_n (pc' := 3) X0 dd_jdk_65_method_119_2 rfl rfl rfl ?_
  refine own_gcls (pc' := 6) (W := 2) X0 (W 186 rfl) (W 187 rfl) (W 141 rfl) (W 189 rfl) (W 188 rfl) (W 190 rfl) p_E MR rfl dd_jdk_65_method_119_3 rfl (by decide) rfl (by decide) ?_
  intro T1 X1
  refine own_callSM (pc' := 9) (cells' := 1) (slots' := 0) (argsL := [(.ref a), (.int (0 : Int32)), (.ref mr)]) (rest := []) (W := 0) (y := (⟨"java/util/Arrays", "copyOf", "([Ljava/lang/Object;ILjava/lang/Class;)[Ljava/lang/Object;"⟩ : MethodName)) X1 (W 192 rfl) (W 193 rfl) (by decide) (own_cpc0_0 l Z a0 hw n0 a ka mr  h0 (own_old X1) p_A p_E MR ) (W 194 rfl) (W 184 rfl) (by decide) (by decide) rfl (lenOf pd_9 rfl) rfl rfl dd_jdk_65_method_119_6 rfl rfl rfl rfl (by decide) (by decide) ?_
  intro v2 T2 h2 X2 q2
  obtain ⟨d2, k2, rfl, K2, z2, A2, E2⟩ := q2
  show G T2 (mkF m 9 #[.val (.ref a), .val (.int (0 : Int32))] [(.ref d2)])
  have age_d2 : h0.size ≤ d2 := Nat.le_trans (Nat.le_refl _) z2
  exact own_ret X2 hGe (t := (.array (.object "java/lang/Object"))) rfl rfl (Or.inr (Or.inr (Or.inr (Or.inr ⟨rfl, rfl, rfl⟩)))) dd_jdk_65_method_119_9 (by decide) (by decide) ⟨d2, _, rfl, ((Keep.refl h0 []).trans K2 all0), age_d2, A2, E2⟩
theorem dd_jdk_45_method_7_9 : decode jdk_45_method_7_code 9 = .ok (.invokestatic 29, 3) := by decide +kernel
theorem dd_jdk_45_method_7_12 : decode jdk_45_method_7_code 12 = .ok (.areturn, 1) := by decide +kernel
theorem ef_own_ilt0 (m : MethodId) (x0 : Addr) : entryFrame m #[(.ref x0)] 1 = mkF m 0 #[.val (.ref x0)] [] := by first | (simp [entryFrame, mkF, argsToLocals, Value.category]; done) | rfl
set_option maxRecDepth 65536 in
set_option maxHeartbeats 40000000 in
theorem own_ilt0 (l : Launch) (Z : State) (a0 : Array Value) (hw : ∀ d ∈ tables_1, d.before a0 Z = true) (n0 : Nat) (c0 em ea ey : Addr) (mr : Addr) (h0 : Heap) (O0 : Old Z n0 h0) (I : own_IL Z h0 em ey c0 []) (EM : own_EMP Z em ea) (EY : own_MTY Z ey) (p_Q0 : Exa Z Z.heap ea "[Ljava/lang/Object;") (MR : own_Mir Z "[Ljava/lang/Object;" mr)  :
    own_Met l Z n0 (⟨"java/util/ImmutableCollections$ListN", "toArray", "()[Ljava/lang/Object;"⟩ : MethodName) jdk_45_method_7_code 1 (some (.array (.object "java/lang/Object"))) ({ frames := 3, cells := 1, slots := 3, locals := 48 } : Room) #[(.ref c0)] h0 (fun v h => ∃ (d : Addr) (k : ClassId), v = some (.ref d) ∧ Keep h0 h [] ∧ h0.size ≤ d ∧ own_Arr Z h d k (.object "java/lang/Object") [] ∧ Exa Z h d "[Ljava/lang/Object;") := by
  refine own_enter (own := "java/util/ImmutableCollections$ListN") (nm := "toArray") (plainFor_of_name pn_8) rfl rfl O0 ?_
  have W : ∀ (k : Nat) {d : Jvm.Cond}, tables_1[k]? = some d → d.before a0 Z = true := fun k d q => hw d (List.mem_of_getElem? q)
  intro G p e s m below meth c T0 hGe X0
  rw [ef_own_ilt0 m c0]
  obtain rfl : em = c0 := I
  obtain ⟨kE, AE⟩ := EM.2.2.2.2
  refine own_aload_n (pc' := 1) X0 dd_jdk_45_method_7_0 rfl rfl rfl ?_
  refine own_get (pc' := 4) X0 (host := "") (Or.inl (W 232 rfl)) Via.refl (EM.2.2.1.keep (own_oldK (own_old X0)) nin0) dd_jdk_45_method_7_1 rfl ?_
  intro T1 X1
  refine own_aload_n (pc' := 5) X1 dd_jdk_45_method_7_4 rfl rfl rfl ?_
  refine own_get (pc' := 8) X1 (host := "") (Or.inl (W 232 rfl)) Via.refl (EM.2.2.1.keep (own_oldK (own_old X0)) nin0) dd_jdk_45_method_7_5 rfl ?_
  intro T2 X2
  refine own_arraylength (pc' := 9) (z := (0 : Int32)) X2 (AE.keep (own_oldK (own_old X0)) nin0) rfl dd_jdk_45_method_7_8 rfl ?_
  refine own_callSM (pc' := 12) (cells' := 1) (slots' := 0) (argsL := [(.ref ea), (.int (0 : Int32))]) (rest := []) (W := 0) (y := (⟨"java/util/Arrays", "copyOf", "([Ljava/lang/Object;I)[Ljava/lang/Object;"⟩ : MethodName)) X2 (W 361 rfl) (W 183 rfl) (by decide) (own_cp0_0 l Z a0 hw n0 ea kE mr  h0 (own_old X2) (AE.keep (own_oldK (own_old X0)) nin0) (p_Q0.keep (own_oldK (own_old X0))) MR ) (W 185 rfl) (W 184 rfl) (by decide) (by decide) rfl (lenOf pd_10 rfl) rfl rfl dd_jdk_45_method_7_9 rfl rfl rfl rfl (by decide) (by decide) ?_
  intro v3 T3 h3 X3 q3
  obtain ⟨d3, k3, rfl, K3, z3, A3, E3⟩ := q3
  show G T3 (mkF m 12 #[.val (.ref em)] [(.ref d3)])
  have age_d3 : h0.size ≤ d3 := Nat.le_trans (Nat.le_refl _) z3
  exact own_ret X3 hGe (t := (.array (.object "java/lang/Object"))) rfl rfl (Or.inr (Or.inr (Or.inr (Or.inr ⟨rfl, rfl, rfl⟩)))) dd_jdk_45_method_7_12 (by decide) (by decide) ⟨d3, _, rfl, ((Keep.refl h0 []).trans K3 all0), age_d3, A3, E3⟩
theorem dd_jdk_44_method_3_0 : decode jdk_44_method_3_code 0 = .ok (.aload_n 0, 1) := by decide +kernel
theorem dd_jdk_44_method_3_1 : decode jdk_44_method_3_code 1 = .ok (.getfield 24, 3) := by decide +kernel
theorem dd_jdk_44_method_3_4 : decode jdk_44_method_3_code 4 = .ok (.getstatic 19, 3) := by decide +kernel
theorem dd_jdk_44_method_3_7 : decode jdk_44_method_3_code 7 = .ok (.if_acmp .eq 7, 3) := by decide +kernel
theorem dd_jdk_44_method_3_14 : decode jdk_44_method_3_code 14 = .ok (.iconst 1, 1) := by decide +kernel
theorem dd_jdk_44_method_3_15 : decode jdk_44_method_3_code 15 = .ok (.ireturn, 1) := by decide +kernel
theorem ef_own_ils1 (m : MethodId) (x0 : Addr) : entryFrame m #[(.ref x0)] 1 = mkF m 0 #[.val (.ref x0)] [] := by first | (simp [entryFrame, mkF, argsToLocals, Value.category]; done) | rfl
set_option maxRecDepth 65536 in
set_option maxHeartbeats 40000000 in
theorem own_ils1 (l : Launch) (Z : State) (a0 : Array Value) (hw : ∀ d ∈ tables_1, d.before a0 Z = true) (n0 : Nat) (c0 em ea ey : Addr) (x0 : Addr) (h0 : Heap) (O0 : Old Z n0 h0) (I : own_IL Z h0 em ey c0 [x0]) (EM : own_EMP Z em ea) (EY : own_MTY Z ey) :
    own_Met l Z n0 (⟨"java/util/ImmutableCollections$List12", "size", "()I"⟩ : MethodName) jdk_44_method_3_code 1 (some .int) ({ frames := 0, cells := 0, slots := 0, locals := 0 } : Room) #[(.ref c0)] h0 (fun v h => v = some (.int 1) ∧ h0 = h) := by
  refine own_enter (own := "java/util/ImmutableCollections$List12") (nm := "size") (plainFor_of_name pn_7) rfl rfl O0 ?_
  have W : ∀ (k : Nat) {d : Jvm.Cond}, tables_1[k]? = some d → d.before a0 Z = true := fun k d q => hw d (List.mem_of_getElem? q)
  intro G p e s m below meth c T0 hGe X0
  rw [ef_own_ils1 m c0]
  have p_L : (Exa Z h0 c0 "java/util/ImmutableCollections$List12" ∧ Fld Z h0 c0 "java/util/ImmutableCollections$List12" "e0" "Ljava/lang/Object;" (.ref x0) ∧ Fld Z h0 c0 "java/util/ImmutableCollections$List12" "e1" "Ljava/lang/Object;" (.ref ey)) := I
  refine own_aload_n (pc' := 1) X0 dd_jdk_44_method_3_0 rfl rfl rfl ?_
  refine own_get (pc' := 4) X0 (host := "") (Or.inl (W 432 rfl)) Via.refl p_L.2.2 dd_jdk_44_method_3_1 rfl ?_
  intro T1 X1
  refine own_getSN (pc' := 7) X1 (W 446 rfl) (own_sta X1 EY.1) dd_jdk_44_method_3_4 rfl ?_
  intro T2 X2
  refine own_acmp (pc' := 14) (same := true) X2 dd_jdk_44_method_3_7 rfl rfl (by simp) (by decide) (by decide) ?_
  refine own_iconst (pc' := 15) X2 dd_jdk_44_method_3_14 rfl (z := (1 : Int32)) (by decide) ?_
  exact own_ret X2 hGe (t := .int) rfl rfl (Or.inl ⟨rfl, by simp, _, rfl⟩) dd_jdk_44_method_3_15 (by decide) (by decide) ⟨rfl, rfl⟩
theorem dd_jdk_44_method_4_0 : decode jdk_44_method_4_code 0 = .ok (.iconst 0, 1) := by decide +kernel
theorem dd_jdk_44_method_4_1 : decode jdk_44_method_4_code 1 = .ok (.ireturn, 1) := by decide +kernel
theorem ef_own_ile1 (m : MethodId) (x0 : Addr) : entryFrame m #[(.ref x0)] 1 = mkF m 0 #[.val (.ref x0)] [] := by first | (simp [entryFrame, mkF, argsToLocals, Value.category]; done) | rfl
set_option maxRecDepth 65536 in
set_option maxHeartbeats 40000000 in
theorem own_ile1 (l : Launch) (Z : State) (a0 : Array Value) (hw : ∀ d ∈ tables_1, d.before a0 Z = true) (n0 : Nat) (c0 em ea ey : Addr) (x0 : Addr) (h0 : Heap) (O0 : Old Z n0 h0) (I : own_IL Z h0 em ey c0 [x0]) (EM : own_EMP Z em ea) (EY : own_MTY Z ey) :
    own_Met l Z n0 (⟨"java/util/ImmutableCollections$List12", "isEmpty", "()Z"⟩ : MethodName) jdk_44_method_4_code 1 (some .boolean) ({ frames := 0, cells := 0, slots := 0, locals := 0 } : Room) #[(.ref c0)] h0 (fun v h => v = some (.int 0) ∧ h0 = h) := by
  refine own_enter (own := "java/util/ImmutableCollections$List12") (nm := "isEmpty") (plainFor_of_name pn_7) rfl rfl O0 ?_
  have W : ∀ (k : Nat) {d : Jvm.Cond}, tables_1[k]? = some d → d.before a0 Z = true := fun k d q => hw d (List.mem_of_getElem? q)
  intro G p e s m below meth c T0 hGe X0
  rw [ef_own_ile1 m c0]
  have p_L : (Exa Z h0 c0 "java/util/ImmutableCollections$List12" ∧ Fld Z h0 c0 "java/util/ImmutableCollections$List12" "e0" "Ljava/lang/Object;" (.ref x0) ∧ Fld Z h0 c0 "java/util/ImmutableCollections$List12" "e1" "Ljava/lang/Object;" (.ref ey)) := I
  refine own_iconst (pc' := 1) X0 dd_jdk_44_method_4_0 rfl (z := (0 : Int32)) (by decide) ?_
  exact own_ret X0 hGe (t := .boolean) rfl rfl (Or.inl ⟨rfl, by simp, _, rfl⟩) dd_jdk_44_method_4_1 (by decide) (by decide) ⟨rfl, rfl⟩
theorem dd_jdk_44_method_5_0 : decode jdk_44_method_5_code 0 = .ok (.iload_n 1, 1) := by decide +kernel
theorem dd_jdk_44_method_5_1 : decode jdk_44_method_5_code 1 = .ok (.ifCond .ne 8, 3) := by decide +kernel
theorem dd_jdk_44_method_5_4 : decode jdk_44_method_5_code 4 = .ok (.aload_n 0, 1) := by decide +kernel
theorem dd_jdk_44_method_5_5 : decode jdk_44_method_5_code 5 = .ok (.getfield 13, 3) := by decide +kernel
theorem dd_jdk_44_method_5_8 : decode jdk_44_method_5_code 8 = .ok (.areturn, 1) := by decide +kernel
theorem ef_own_ilg1_0 (m : MethodId) (x0 : Addr) (x1 : Int32) : entryFrame m #[(.ref x0), (.int x1)] 2 = mkF m 0 #[.val (.ref x0), .val (.int x1)] [] := by first | (simp [entryFrame, mkF, argsToLocals, Value.category]; done) | rfl
set_option maxRecDepth 65536 in
set_option maxHeartbeats 40000000 in
theorem own_ilg1_0 (l : Launch) (Z : State) (a0 : Array Value) (hw : ∀ d ∈ tables_1, d.before a0 Z = true) (n0 : Nat) (c0 em ea ey : Addr) (x0 : Addr) (h0 : Heap) (O0 : Old Z n0 h0) (I : own_IL Z h0 em ey c0 [x0]) (EM : own_EMP Z em ea) (EY : own_MTY Z ey) :
    own_Met l Z n0 (⟨"java/util/ImmutableCollections$List12", "get", "(I)Ljava/lang/Object;"⟩ : MethodName) jdk_44_method_5_code 2 (some (.object "java/lang/Object")) ({ frames := 0, cells := 0, slots := 0, locals := 0 } : Room) #[(.ref c0), (.int (0 : Int32))] h0 (fun v h => v = some (.ref x0) ∧ h0 = h) := by
  refine own_enter (own := "java/util/ImmutableCollections$List12") (nm := "get") (plainFor_of_name pn_7) rfl rfl O0 ?_
  have W : ∀ (k : Nat) {d : Jvm.Cond}, tables_1[k]? = some d → d.before a0 Z = true := fun k d q => hw d (List.mem_of_getElem? q)
  intro G p e s m below meth c T0 hGe X0
  rw [ef_own_ilg1_0 m c0 ((0 : Int32))]
  have p_L : (Exa Z h0 c0 "java/util/ImmutableCollections$List12" ∧ Fld Z h0 c0 "java/util/ImmutableCollections$List12" "e0" "Ljava/lang/Object;" (.ref x0) ∧ Fld Z h0 c0 "java/util/ImmutableCollections$List12" "e1" "Ljava/lang/Object;" (.ref ey)) := I
  refine own_iload_n (pc' := 1) X0 dd_jdk_44_method_5_0 rfl rfl ?_
  refine own_ifN (pc' := 4) X0 dd_jdk_44_method_5_1 rfl ((teq rfl).2) ?_
  refine own_aload_n (pc' := 5) X0 dd_jdk_44_method_5_4 rfl rfl rfl ?_
  refine own_get (pc' := 8) X0 (host := "") (Or.inl (W 430 rfl)) Via.refl p_L.2.1 dd_jdk_44_method_5_5 rfl ?_
  intro T1 X1
  exact own_ret X1 hGe (t := (.object "java/lang/Object")) rfl rfl (Or.inr (Or.inr (Or.inr (Or.inr ⟨rfl, rfl, rfl⟩)))) dd_jdk_44_method_5_8 (by decide) (by decide) ⟨rfl, rfl⟩
theorem dd_jdk_44_method_10_0 : decode jdk_44_method_10_code 0 = .ok (.aload_n 0, 1) := by decide +kernel
theorem dd_jdk_44_method_10_1 : decode jdk_44_method_10_code 1 = .ok (.getfield 24, 3) := by decide +kernel
theorem dd_jdk_44_method_10_4 : decode jdk_44_method_10_code 4 = .ok (.getstatic 19, 3) := by decide +kernel
theorem dd_jdk_44_method_10_7 : decode jdk_44_method_10_code 7 = .ok (.if_acmp .ne 15, 3) := by decide +kernel
theorem dd_jdk_44_method_10_10 : decode jdk_44_method_10_code 10 = .ok (.iconst 1, 1) := by decide +kernel
theorem dd_jdk_44_method_10_11 : decode jdk_44_method_10_code 11 = .ok (.anewarray 32, 3) := by decide +kernel
theorem dd_jdk_44_method_10_14 : decode jdk_44_method_10_code 14 = .ok (.dup, 1) := by decide +kernel
theorem dd_jdk_44_method_10_15 : decode jdk_44_method_10_code 15 = .ok (.iconst 0, 1) := by decide +kernel
theorem dd_jdk_44_method_10_16 : decode jdk_44_method_10_code 16 = .ok (.aload_n 0, 1) := by decide +kernel
theorem dd_jdk_44_method_10_17 : decode jdk_44_method_10_code 17 = .ok (.getfield 13, 3) := by decide +kernel
theorem dd_jdk_44_method_10_20 : decode jdk_44_method_10_code 20 = .ok (.aastore, 1) := by decide +kernel
theorem dd_jdk_44_method_10_21 : decode jdk_44_method_10_code 21 = .ok (.areturn, 1) := by decide +kernel
theorem ef_own_ilt1 (m : MethodId) (x0 : Addr) : entryFrame m #[(.ref x0)] 1 = mkF m 0 #[.val (.ref x0)] [] := by first | (simp [entryFrame, mkF, argsToLocals, Value.category]; done) | rfl
set_option maxRecDepth 65536 in
set_option maxHeartbeats 40000000 in
theorem own_ilt1 (l : Launch) (Z : State) (a0 : Array Value) (hw : ∀ d ∈ tables_1, d.before a0 Z = true) (n0 : Nat) (c0 em ea ey : Addr) (x0 : Addr) (mr : Addr) (h0 : Heap) (O0 : Old Z n0 h0) (I : own_IL Z h0 em ey c0 [x0]) (EM : own_EMP Z em ea) (EY : own_MTY Z ey) (MR : own_Mir Z "[Ljava/lang/Object;" mr) (p_x0 : Exa Z h0 x0 "java/util/KeyValueHolder") :
    own_Met l Z n0 (⟨"java/util/ImmutableCollections$List12", "toArray", "()[Ljava/lang/Object;"⟩ : MethodName) jdk_44_method_10_code 1 (some (.array (.object "java/lang/Object"))) ({ frames := 3, cells := 1, slots := 3, locals := 48 } : Room) #[(.ref c0)] h0 (fun v h => ∃ (d : Addr) (k : ClassId), v = some (.ref d) ∧ Keep h0 h [] ∧ h0.size ≤ d ∧ own_Arr Z h d k (.object "java/lang/Object") [(.ref x0)] ∧ Exa Z h d "[Ljava/lang/Object;") := by
  refine own_enter (own := "java/util/ImmutableCollections$List12") (nm := "toArray") (plainFor_of_name pn_7) rfl rfl O0 ?_
  have W : ∀ (k : Nat) {d : Jvm.Cond}, tables_1[k]? = some d → d.before a0 Z = true := fun k d q => hw d (List.mem_of_getElem? q)
  intro G p e s m below meth c T0 hGe X0
  rw [ef_own_ilt1 m c0]
  have p_L : (Exa Z h0 c0 "java/util/ImmutableCollections$List12" ∧ Fld Z h0 c0 "java/util/ImmutableCollections$List12" "e0" "Ljava/lang/Object;" (.ref x0) ∧ Fld Z h0 c0 "java/util/ImmutableCollections$List12" "e1" "Ljava/lang/Object;" (.ref ey)) := I
  refine own_aload_n (pc' := 1) X0 dd_jdk_44_method_10_0 rfl rfl rfl ?_
  refine own_get (pc' := 4) X0 (host := "") (Or.inl (W 432 rfl)) Via.refl p_L.2.2 dd_jdk_44_method_10_1 rfl ?_
  intro T1 X1
  refine own_getSN (pc' := 7) X1 (W 446 rfl) (own_sta X1 EY.1) dd_jdk_44_method_10_4 rfl ?_
  intro T2 X2
  refine own_acmp (pc' := 10) (same := true) X2 dd_jdk_44_method_10_7 rfl rfl (by simp) (by decide) (by decide) ?_
  refine own_iconst (pc' := 11) X2 dd_jdk_44_method_10_10 rfl (z := (1 : Int32)) (by decide) ?_
  refine own_anewR (pc' := 14) (cells' := 1) (slots' := 1) (n := 1) (cap := 1) (ad := "[Ljava/lang/Object;") X2 (W 453 rfl) (W 26 rfl) (by decide) (by decide) (by decide) dd_jdk_44_method_10_11 rfl rfl (by decide) (by decide) rfl (by decide) (by decide) ?_
  intro T3 h3 a3 k3 g3 X3 K3 A3 E3 V3
  have n_a3 : n0 ≤ a3 := by rw [g3]; exact own_n0 X2
  have A3' : own_Arr Z h3 a3 k3 (.object "java/lang/Object") [.null] := A3
  refine own_dup (pc' := 15) X3 dd_jdk_44_method_10_14 rfl rfl ?_
  refine own_iconst (pc' := 16) X3 dd_jdk_44_method_10_15 rfl (z := (0 : Int32)) (by decide) ?_
  refine own_aload_n (pc' := 17) X3 dd_jdk_44_method_10_16 rfl rfl rfl ?_
  have f4 := (p_L.2.1.keep K3 nin0)
  refine own_get (pc' := 20) X3 (host := "") (Or.inl (W 430 rfl)) Via.refl f4 dd_jdk_44_method_10_17 rfl ?_
  intro T5 X5
  have f6 := (p_x0.keep K3)
  refine own_aastore (pc' := 21) (i := 0) X5 A3' rfl rfl (own_stoR A3' V3 (Ins.of_exa f6 (W 27 rfl))) (by decide) (Nat.le_of_ble_eq_true rfl) n_a3 dd_jdk_44_method_10_20 rfl ?_
  intro T7 h7 X7 K7 A7
  have A7' : own_Arr Z h7 a3 k3 (.object "java/lang/Object") [(.ref x0)] := A7
  have age_a3 : h0.size ≤ a3 := Nat.le_trans (Nat.le_refl _) (Nat.le_of_eq (Eq.symm g3))
  have f8 := (E3.keep K7)
  exact own_ret X7 hGe (t := (.array (.object "java/lang/Object"))) rfl rfl (Or.inr (Or.inr (Or.inr (Or.inr ⟨rfl, rfl, rfl⟩)))) dd_jdk_44_method_10_21 (by decide) (by decide) ⟨a3, _, rfl, (((Keep.refl h0 []).trans K3 all0).trans K7 (allS (Or.inr age_a3) all0)), age_a3, A7', f8⟩
theorem dd_jdk_44_method_3_10 : decode jdk_44_method_3_code 10 = .ok (.iconst 2, 1) := by decide +kernel
theorem dd_jdk_44_method_3_11 : decode jdk_44_method_3_code 11 = .ok (.goto 4, 3) := by decide +kernel
theorem ef_own_ils2 (m : MethodId) (x0 : Addr) : entryFrame m #[(.ref x0)] 1 = mkF m 0 #[.val (.ref x0)] [] := by first | (simp [entryFrame, mkF, argsToLocals, Value.category]; done) | rfl
set_option maxRecDepth 65536 in
set_option maxHeartbeats 40000000 in
theorem own_ils2 (l : Launch) (Z : State) (a0 : Array Value) (hw : ∀ d ∈ tables_1, d.before a0 Z = true) (n0 : Nat) (c0 em ea ey : Addr) (x0 x1 : Addr) (h0 : Heap) (O0 : Old Z n0 h0) (I : own_IL Z h0 em ey c0 [x0, x1]) (EM : own_EMP Z em ea) (EY : own_MTY Z ey) :
    own_Met l Z n0 (⟨"java/util/ImmutableCollections$List12", "size", "()I"⟩ : MethodName) jdk_44_method_3_code 1 (some .int) ({ frames := 0, cells := 0, slots := 0, locals := 0 } : Room) #[(.ref c0)] h0 (fun v h => v = some (.int 2) ∧ h0 = h) := by
  refine own_enter (own := "java/util/ImmutableCollections$List12") (nm := "size") (plainFor_of_name pn_7) rfl rfl O0 ?_
  have W : ∀ (k : Nat) {d : Jvm.Cond}, tables_1[k]? = some d → d.before a0 Z = true := fun k d q => hw d (List.mem_of_getElem? q)
  intro G p e s m below meth c T0 hGe X0
  rw [ef_own_ils2 m c0]
  have p_L : (Exa Z h0 c0 "java/util/ImmutableCollections$List12" ∧ Fld Z h0 c0 "java/util/ImmutableCollections$List12" "e0" "Ljava/lang/Object;" (.ref x0) ∧ Fld Z h0 c0 "java/util/ImmutableCollections$List12" "e1" "Ljava/lang/Object;" (.ref x1)) := I.1
  refine own_aload_n (pc' := 1) X0 dd_jdk_44_method_3_0 rfl rfl rfl ?_
  refine own_get (pc' := 4) X0 (host := "") (Or.inl (W 432 rfl)) Via.refl p_L.2.2 dd_jdk_44_method_3_1 rfl ?_
  intro T1 X1
  refine own_getSN (pc' := 7) X1 (W 446 rfl) (own_sta X1 EY.1) dd_jdk_44_method_3_4 rfl ?_
  intro T2 X2
  refine own_acmp (pc' := 10) (same := false) X2 dd_jdk_44_method_3_7 rfl rfl (by simp [I.2]) (by decide) (by decide) ?_
  refine own_iconst (pc' := 11) X2 dd_jdk_44_method_3_10 rfl (z := (2 : Int32)) (by decide) ?_
  refine own_goto (pc' := 15) X2 dd_jdk_44_method_3_11 (by decide) (by decide) ?_
  exact own_ret X2 hGe (t := .int) rfl rfl (Or.inl ⟨rfl, by simp, _, rfl⟩) dd_jdk_44_method_3_15 (by decide) (by decide) ⟨rfl, rfl⟩
theorem ef_own_ile2 (m : MethodId) (x0 : Addr) : entryFrame m #[(.ref x0)] 1 = mkF m 0 #[.val (.ref x0)] [] := by first | (simp [entryFrame, mkF, argsToLocals, Value.category]; done) | rfl
set_option maxRecDepth 65536 in
set_option maxHeartbeats 40000000 in
theorem own_ile2 (l : Launch) (Z : State) (a0 : Array Value) (hw : ∀ d ∈ tables_1, d.before a0 Z = true) (n0 : Nat) (c0 em ea ey : Addr) (x0 x1 : Addr) (h0 : Heap) (O0 : Old Z n0 h0) (I : own_IL Z h0 em ey c0 [x0, x1]) (EM : own_EMP Z em ea) (EY : own_MTY Z ey) :
    own_Met l Z n0 (⟨"java/util/ImmutableCollections$List12", "isEmpty", "()Z"⟩ : MethodName) jdk_44_method_4_code 1 (some .boolean) ({ frames := 0, cells := 0, slots := 0, locals := 0 } : Room) #[(.ref c0)] h0 (fun v h => v = some (.int 0) ∧ h0 = h) := by
  refine own_enter (own := "java/util/ImmutableCollections$List12") (nm := "isEmpty") (plainFor_of_name pn_7) rfl rfl O0 ?_
  have W : ∀ (k : Nat) {d : Jvm.Cond}, tables_1[k]? = some d → d.before a0 Z = true := fun k d q => hw d (List.mem_of_getElem? q)
  intro G p e s m below meth c T0 hGe X0
  rw [ef_own_ile2 m c0]
  have p_L : (Exa Z h0 c0 "java/util/ImmutableCollections$List12" ∧ Fld Z h0 c0 "java/util/ImmutableCollections$List12" "e0" "Ljava/lang/Object;" (.ref x0) ∧ Fld Z h0 c0 "java/util/ImmutableCollections$List12" "e1" "Ljava/lang/Object;" (.ref x1)) := I.1
  refine own_iconst (pc' := 1) X0 dd_jdk_44_method_4_0 rfl (z := (0 : Int32)) (by decide) ?_
  exact own_ret X0 hGe (t := .boolean) rfl rfl (Or.inl ⟨rfl, by simp, _, rfl⟩) dd_jdk_44_method_4_1 (by decide) (by decide) ⟨rfl, rfl⟩
theorem ef_own_ilg2_0 (m : MethodId) (x0 : Addr) (x1 : Int32) : entryFrame m #[(.ref x0), (.int x1)] 2 = mkF m 0 #[.val (.ref x0), .val (.int x1)] [] := by first | (simp [entryFrame, mkF, argsToLocals, Value.category]; done) | rfl
set_option maxRecDepth 65536 in
set_option maxHeartbeats 40000000 in
theorem own_ilg2_0 (l : Launch) (Z : State) (a0 : Array Value) (hw : ∀ d ∈ tables_1, d.before a0 Z = true) (n0 : Nat) (c0 em ea ey : Addr) (x0 x1 : Addr) (h0 : Heap) (O0 : Old Z n0 h0) (I : own_IL Z h0 em ey c0 [x0, x1]) (EM : own_EMP Z em ea) (EY : own_MTY Z ey) :
    own_Met l Z n0 (⟨"java/util/ImmutableCollections$List12", "get", "(I)Ljava/lang/Object;"⟩ : MethodName) jdk_44_method_5_code 2 (some (.object "java/lang/Object")) ({ frames := 0, cells := 0, slots := 0, locals := 0 } : Room) #[(.ref c0), (.int (0 : Int32))] h0 (fun v h => v = some (.ref x0) ∧ h0 = h) := by
  refine own_enter (own := "java/util/ImmutableCollections$List12") (nm := "get") (plainFor_of_name pn_7) rfl rfl O0 ?_
  have W : ∀ (k : Nat) {d : Jvm.Cond}, tables_1[k]? = some d → d.before a0 Z = true := fun k d q => hw d (List.mem_of_getElem? q)
  intro G p e s m below meth c T0 hGe X0
  rw [ef_own_ilg2_0 m c0 ((0 : Int32))]
  have p_L : (Exa Z h0 c0 "java/util/ImmutableCollections$List12" ∧ Fld Z h0 c0 "java/util/ImmutableCollections$List12" "e0" "Ljava/lang/Object;" (.ref x0) ∧ Fld Z h0 c0 "java/util/ImmutableCollections$List12" "e1" "Ljava/lang/Object;" (.ref x1)) := I.1
  refine own_iload_n (pc' := 1) X0 dd_jdk_44_method_5_0 rfl rfl ?_
  refine own_ifN (pc' := 4) X0 dd_jdk_44_method_5_1 rfl ((teq rfl).2) ?_
  refine own_aload_n (pc' := 5) X0 dd_jdk_44_method_5_4 rfl rfl rfl ?_
  refine own_get (pc' := 8) X0 (host := "") (Or.inl (W 430 rfl)) Via.refl p_L.2.1 dd_jdk_44_method_5_5 rfl ?_
  intro T1 X1
  exact own_ret X1 hGe (t := (.object "java/lang/Object")) rfl rfl (Or.inr (Or.inr (Or.inr (Or.inr ⟨rfl, rfl, rfl⟩)))) dd_jdk_44_method_5_8 (by decide) (by decide) ⟨rfl, rfl⟩
theorem dd_jdk_44_method_5_9 : decode jdk_44_method_5_code 9 = .ok (.iload_n 1, 1) := by decide +kernel
theorem dd_jdk_44_method_5_10 : decode jdk_44_method_5_code 10 = .ok (.iconst 1, 1) := by decide +kernel
theorem dd_jdk_44_method_5_11 : decode jdk_44_method_5_code 11 = .ok (.if_icmp .ne 18, 3) := by decide +kernel
theorem dd_jdk_44_method_5_14 : decode jdk_44_method_5_code 14 = .ok (.aload_n 0, 1) := by decide +kernel
theorem dd_jdk_44_method_5_15 : decode jdk_44_method_5_code 15 = .ok (.getfield 24, 3) := by decide +kernel
theorem dd_jdk_44_method_5_18 : decode jdk_44_method_5_code 18 = .ok (.getstatic 19, 3) := by decide +kernel
theorem dd_jdk_44_method_5_21 : decode jdk_44_method_5_code 21 = .ok (.if_acmp .eq 8, 3) := by decide +kernel
theorem dd_jdk_44_method_5_24 : decode jdk_44_method_5_code 24 = .ok (.aload_n 0, 1) := by decide +kernel
theorem dd_jdk_44_method_5_25 : decode jdk_44_method_5_code 25 = .ok (.getfield 24, 3) := by decide +kernel
theorem dd_jdk_44_method_5_28 : decode jdk_44_method_5_code 28 = .ok (.areturn, 1) := by decide +kernel
theorem ef_own_ilg2_1 (m : MethodId) (x0 : Addr) (x1 : Int32) : entryFrame m #[(.ref x0), (.int x1)] 2 = mkF m 0 #[.val (.ref x0), .val (.int x1)] [] := by first | (simp [entryFrame, mkF, argsToLocals, Value.category]; done) | rfl
set_option maxRecDepth 65536 in
set_option maxHeartbeats 40000000 in
theorem own_ilg2_1 (l : Launch) (Z : State) (a0 : Array Value) (hw : ∀ d ∈ tables_1, d.before a0 Z = true) (n0 : Nat) (c0 em ea ey : Addr) (x0 x1 : Addr) (h0 : Heap) (O0 : Old Z n0 h0) (I : own_IL Z h0 em ey c0 [x0, x1]) (EM : own_EMP Z em ea) (EY : own_MTY Z ey) :
    own_Met l Z n0 (⟨"java/util/ImmutableCollections$List12", "get", "(I)Ljava/lang/Object;"⟩ : MethodName) jdk_44_method_5_code 2 (some (.object "java/lang/Object")) ({ frames := 0, cells := 0, slots := 0, locals := 0 } : Room) #[(.ref c0), (.int (1 : Int32))] h0 (fun v h => v = some (.ref x1) ∧ h0 = h) := by
  refine own_enter (own := "java/util/ImmutableCollections$List12") (nm := "get") (plainFor_of_name pn_7) rfl rfl O0 ?_
  have W : ∀ (k : Nat) {d : Jvm.Cond}, tables_1[k]? = some d → d.before a0 Z = true := fun k d q => hw d (List.mem_of_getElem? q)
  intro G p e s m below meth c T0 hGe X0
  rw [ef_own_ilg2_1 m c0 ((1 : Int32))]
  have p_L : (Exa Z h0 c0 "java/util/ImmutableCollections$List12" ∧ Fld Z h0 c0 "java/util/ImmutableCollections$List12" "e0" "Ljava/lang/Object;" (.ref x0) ∧ Fld Z h0 c0 "java/util/ImmutableCollections$List12" "e1" "Ljava/lang/Object;" (.ref x1)) := I.1
  refine own_iload_n (pc' := 1) X0 dd_jdk_44_method_5_0 rfl rfl ?_
  refine own_ifY (pc' := 9) X0 dd_jdk_44_method_5_1 ((feq (by decide)).2) (by decide) (by decide) ?_
  refine own_iload_n (pc' := 10) X0 dd_jdk_44_method_5_9 rfl rfl ?_
  refine own_iconst (pc' := 11) X0 dd_jdk_44_method_5_10 rfl (z := (1 : Int32)) (by decide) ?_
  refine own_icmpN (pc' := 14) X0 dd_jdk_44_method_5_11 rfl ((teq rfl).2) ?_
  refine own_aload_n (pc' := 15) X0 dd_jdk_44_method_5_14 rfl rfl rfl ?_
  refine own_get (pc' := 18) X0 (host := "") (Or.inl (W 432 rfl)) Via.refl p_L.2.2 dd_jdk_44_method_5_15 rfl ?_
  intro T1 X1
  refine own_getSN (pc' := 21) X1 (W 446 rfl) (own_sta X1 EY.1) dd_jdk_44_method_5_18 rfl ?_
  intro T2 X2
  refine own_acmp (pc' := 24) (same := false) X2 dd_jdk_44_method_5_21 rfl rfl (by simp [I.2]) (by decide) (by decide) ?_
  refine own_aload_n (pc' := 25) X2 dd_jdk_44_method_5_24 rfl rfl rfl ?_
  refine own_get (pc' := 28) X2 (host := "") (Or.inl (W 432 rfl)) Via.refl p_L.2.2 dd_jdk_44_method_5_25 rfl ?_
  intro T3 X3
  exact own_ret X3 hGe (t := (.object "java/lang/Object")) rfl rfl (Or.inr (Or.inr (Or.inr (Or.inr ⟨rfl, rfl, rfl⟩)))) dd_jdk_44_method_5_28 (by decide) (by decide) ⟨rfl, rfl⟩
theorem dd_jdk_44_method_10_22 : decode jdk_44_method_10_code 22 = .ok (.iconst 2, 1) := by decide +kernel
theorem dd_jdk_44_method_10_23 : decode jdk_44_method_10_code 23 = .ok (.anewarray 32, 3) := by decide +kernel
theorem dd_jdk_44_method_10_26 : decode jdk_44_method_10_code 26 = .ok (.dup, 1) := by decide +kernel
theorem dd_jdk_44_method_10_27 : decode jdk_44_method_10_code 27 = .ok (.iconst 0, 1) := by decide +kernel
theorem dd_jdk_44_method_10_28 : decode jdk_44_method_10_code 28 = .ok (.aload_n 0, 1) := by decide +kernel
theorem dd_jdk_44_method_10_29 : decode jdk_44_method_10_code 29 = .ok (.getfield 13, 3) := by decide +kernel
theorem dd_jdk_44_method_10_32 : decode jdk_44_method_10_code 32 = .ok (.aastore, 1) := by decide +kernel
theorem dd_jdk_44_method_10_33 : decode jdk_44_method_10_code 33 = .ok (.dup, 1) := by decide +kernel
theorem dd_jdk_44_method_10_34 : decode jdk_44_method_10_code 34 = .ok (.iconst 1, 1) := by decide +kernel
theorem dd_jdk_44_method_10_35 : decode jdk_44_method_10_code 35 = .ok (.aload_n 0, 1) := by decide +kernel
theorem dd_jdk_44_method_10_36 : decode jdk_44_method_10_code 36 = .ok (.getfield 24, 3) := by decide +kernel
theorem dd_jdk_44_method_10_39 : decode jdk_44_method_10_code 39 = .ok (.aastore, 1) := by decide +kernel
theorem dd_jdk_44_method_10_40 : decode jdk_44_method_10_code 40 = .ok (.areturn, 1) := by decide +kernel
theorem ef_own_ilt2 (m : MethodId) (x0 : Addr) : entryFrame m #[(.ref x0)] 1 = mkF m 0 #[.val (.ref x0)] [] := by first | (simp [entryFrame, mkF, argsToLocals, Value.category]; done) | rfl
set_option maxRecDepth 65536 in
set_option maxHeartbeats 40000000 in
theorem own_ilt2 (l : Launch) (Z : State) (a0 : Array Value) (hw : ∀ d ∈ tables_1, d.before a0 Z = true) (n0 : Nat) (c0 em ea ey : Addr) (x0 x1 : Addr) (mr : Addr) (h0 : Heap) (O0 : Old Z n0 h0) (I : own_IL Z h0 em ey c0 [x0, x1]) (EM : own_EMP Z em ea) (EY : own_MTY Z ey) (MR : own_Mir Z "[Ljava/lang/Object;" mr) (p_x0 : Exa Z h0 x0 "java/util/KeyValueHolder") (p_x1 : Exa Z h0 x1 "java/util/KeyValueHolder") :
    own_Met l Z n0 (⟨"java/util/ImmutableCollections$List12", "toArray", "()[Ljava/lang/Object;"⟩ : MethodName) jdk_44_method_10_code 1 (some (.array (.object "java/lang/Object"))) ({ frames := 3, cells := 1, slots := 3, locals := 48 } : Room) #[(.ref c0)] h0 (fun v h => ∃ (d : Addr) (k : ClassId), v = some (.ref d) ∧ Keep h0 h [] ∧ h0.size ≤ d ∧ own_Arr Z h d k (.object "java/lang/Object") [(.ref x0), (.ref x1)] ∧ Exa Z h d "[Ljava/lang/Object;") := by
  refine own_enter (own := "java/util/ImmutableCollections$List12") (nm := "toArray") (plainFor_of_name pn_7) rfl rfl O0 ?_
  have W : ∀ (k : Nat) {d : Jvm.Cond}, tables_1[k]? = some d → d.before a0 Z = true := fun k d q => hw d (List.mem_of_getElem? q)
  intro G p e s m below meth c T0 hGe X0
  rw [ef_own_ilt2 m c0]
  have p_L : (Exa Z h0 c0 "java/util/ImmutableCollections$List12" ∧ Fld Z h0 c0 "java/util/ImmutableCollections$List12" "e0" "Ljava/lang/Object;" (.ref x0) ∧ Fld Z h0 c0 "java/util/ImmutableCollections$List12" "e1" "Ljava/lang/Object;" (.ref x1)) := I.1
  refine own_aload_n (pc' := 1) X0 dd_jdk_44_method_10_0 rfl rfl rfl ?_
  refine own_get (pc' := 4) X0 (host := "") (Or.inl (W 432 rfl)) Via.refl p_L.2.2 dd_jdk_44_method_10_1 rfl ?_
  intro T1 X1
  refine own_getSN (pc' := 7) X1 (W 446 rfl) (own_sta X1 EY.1) dd_jdk_44_method_10_4 rfl ?_
  intro T2 X2
  refine own_acmp (pc' := 22) (same := false) X2 dd_jdk_44_method_10_7 rfl rfl (by simp [I.2]) (by decide) (by decide) ?_
  refine own_iconst (pc' := 23) X2 dd_jdk_44_method_10_22 rfl (z := (2 : Int32)) (by decide) ?_
  refine own_anewR (pc' := 26) (cells' := 1) (slots' := 2) (n := 2) (cap := 2) (ad := "[Ljava/lang/Object;") X2 (W 453 rfl) (W 26 rfl) (by decide) (by decide) (by decide) dd_jdk_44_method_10_23 rfl rfl (by decide) (by decide) rfl (by decide) (by decide) ?_
  intro T3 h3 a3 k3 g3 X3 K3 A3 E3 V3
  have n_a3 : n0 ≤ a3 := by rw [g3]; exact own_n0 X2
  have A3' : own_Arr Z h3 a3 k3 (.object "java/lang/Object") [.null, .null] := A3
  refine own_dup (pc' := 27) X3 dd_jdk_44_method_10_26 rfl rfl ?_
  refine own_iconst (pc' := 28) X3 dd_jdk_44_method_10_27 rfl (z := (0 : Int32)) (by decide) ?_
  refine own_aload_n (pc' := 29) X3 dd_jdk_44_method_10_28 rfl rfl rfl ?_
  have f4 := (p_L.2.1.keep K3 nin0)
  refine own_get (pc' := 32) X3 (host := "") (Or.inl (W 430 rfl)) Via.refl f4 dd_jdk_44_method_10_29 rfl ?_
  intro T5 X5
  have f6 := (p_x0.keep K3)
  refine own_aastore (pc' := 33) (i := 0) X5 A3' rfl rfl (own_stoR A3' V3 (Ins.of_exa f6 (W 27 rfl))) (by decide) (Nat.le_of_ble_eq_true rfl) n_a3 dd_jdk_44_method_10_32 rfl ?_
  intro T7 h7 X7 K7 A7
  have A7' : own_Arr Z h7 a3 k3 (.object "java/lang/Object") [(.ref x0), .null] := A7
  refine own_dup (pc' := 34) X7 dd_jdk_44_method_10_33 rfl rfl ?_
  refine own_iconst (pc' := 35) X7 dd_jdk_44_method_10_34 rfl (z := (1 : Int32)) (by decide) ?_
  refine own_aload_n (pc' := 36) X7 dd_jdk_44_method_10_35 rfl rfl rfl ?_
  have ne_c0_a3 : c0 ≠ a3 := own_ne p_L.1.lt (Nat.le_refl _) (Nat.le_of_eq (Eq.symm g3))
  have f8 := ((p_L.2.2.keep K3 nin0).keep K7 (ninS ne_c0_a3 nin0))
  refine own_get (pc' := 39) X7 (host := "") (Or.inl (W 432 rfl)) Via.refl f8 dd_jdk_44_method_10_36 rfl ?_
  intro T9 X9
  have f10 := ((p_x1.keep K3).keep K7)
  refine own_aastore (pc' := 40) (i := 1) X9 A7' rfl rfl (own_stoR A7' V3 (Ins.of_exa f10 (W 27 rfl))) (by decide) (Nat.le_of_ble_eq_true rfl) n_a3 dd_jdk_44_method_10_39 rfl ?_
  intro T11 h11 X11 K11 A11
  have A11' : own_Arr Z h11 a3 k3 (.object "java/lang/Object") [(.ref x0), (.ref x1)] := A11
  have age_a3 : h0.size ≤ a3 := Nat.le_trans (Nat.le_refl _) (Nat.le_of_eq (Eq.symm g3))
  have f12 := ((E3.keep K7).keep K11)
  exact own_ret X11 hGe (t := (.array (.object "java/lang/Object"))) rfl rfl (Or.inr (Or.inr (Or.inr (Or.inr ⟨rfl, rfl, rfl⟩)))) dd_jdk_44_method_10_40 (by decide) (by decide) ⟨a3, _, rfl, ((((Keep.refl h0 []).trans K3 all0).trans K7 (allS (Or.inr age_a3) all0)).trans K11 (allS (Or.inr age_a3) all0)), age_a3, A11', f12⟩
theorem ef_own_ils3 (m : MethodId) (x0 : Addr) : entryFrame m #[(.ref x0)] 1 = mkF m 0 #[.val (.ref x0)] [] := by first | (simp [entryFrame, mkF, argsToLocals, Value.category]; done) | rfl
set_option maxRecDepth 65536 in
set_option maxHeartbeats 40000000 in
theorem own_ils3 (l : Launch) (Z : State) (a0 : Array Value) (hw : ∀ d ∈ tables_1, d.before a0 Z = true) (n0 : Nat) (c0 em ea ey : Addr) (x0 x1 x2 : Addr) (h0 : Heap) (O0 : Old Z n0 h0) (I : own_IL Z h0 em ey c0 [x0, x1, x2]) (EM : own_EMP Z em ea) (EY : own_MTY Z ey) :
    own_Met l Z n0 (⟨"java/util/ImmutableCollections$ListN", "size", "()I"⟩ : MethodName) jdk_45_method_3_code 1 (some .int) ({ frames := 0, cells := 0, slots := 0, locals := 0 } : Room) #[(.ref c0)] h0 (fun v h => v = some (.int 3) ∧ h0 = h) := by
  refine own_enter (own := "java/util/ImmutableCollections$ListN") (nm := "size") (plainFor_of_name pn_8) rfl rfl O0 ?_
  have W : ∀ (k : Nat) {d : Jvm.Cond}, tables_1[k]? = some d → d.before a0 Z = true := fun k d q => hw d (List.mem_of_getElem? q)
  intro G p e s m below meth c T0 hGe X0
  rw [ef_own_ils3 m c0]
  obtain ⟨q0, kq, p_L, p_A, p_Q⟩ := I
  refine own_aload_n (pc' := 1) X0 dd_jdk_45_method_3_0 rfl rfl rfl ?_
  refine own_get (pc' := 4) X0 (host := "") (Or.inl (W 232 rfl)) Via.refl p_L.2.1 dd_jdk_45_method_3_1 rfl ?_
  intro T1 X1
  refine own_arraylength (pc' := 5) (z := (3 : Int32)) X1 p_A rfl dd_jdk_45_method_3_4 rfl ?_
  exact own_ret X1 hGe (t := .int) rfl rfl (Or.inl ⟨rfl, by simp, _, rfl⟩) dd_jdk_45_method_3_5 (by decide) (by decide) ⟨rfl, rfl⟩
theorem dd_jdk_45_method_2_12 : decode jdk_45_method_2_code 12 = .ok (.iconst 0, 1) := by decide +kernel
theorem ef_own_ile3 (m : MethodId) (x0 : Addr) : entryFrame m #[(.ref x0)] 1 = mkF m 0 #[.val (.ref x0)] [] := by first | (simp [entryFrame, mkF, argsToLocals, Value.category]; done) | rfl
set_option maxRecDepth 65536 in
set_option maxHeartbeats 40000000 in
theorem own_ile3 (l : Launch) (Z : State) (a0 : Array Value) (hw : ∀ d ∈ tables_1, d.before a0 Z = true) (n0 : Nat) (c0 em ea ey : Addr) (x0 x1 x2 : Addr) (h0 : Heap) (O0 : Old Z n0 h0) (I : own_IL Z h0 em ey c0 [x0, x1, x2]) (EM : own_EMP Z em ea) (EY : own_MTY Z ey) :
    own_Met l Z n0 (⟨"java/util/ImmutableCollections$ListN", "isEmpty", "()Z"⟩ : MethodName) jdk_45_method_2_code 1 (some .boolean) ({ frames := 0, cells := 0, slots := 0, locals := 0 } : Room) #[(.ref c0)] h0 (fun v h => v = some (.int 0) ∧ h0 = h) := by
  refine own_enter (own := "java/util/ImmutableCollections$ListN") (nm := "isEmpty") (plainFor_of_name pn_8) rfl rfl O0 ?_
  have W : ∀ (k : Nat) {d : Jvm.Cond}, tables_1[k]? = some d → d.before a0 Z = true := fun k d q => hw d (List.mem_of_getElem? q)
  intro G p e s m below meth c T0 hGe X0
  rw [ef_own_ile3 m c0]
  obtain ⟨q0, kq, p_L, p_A, p_Q⟩ := I
  refine own_aload_n (pc' := 1) X0 dd_jdk_45_method_2_0 rfl rfl rfl ?_
  refine own_get (pc' := 4) X0 (host := "") (Or.inl (W 232 rfl)) Via.refl p_L.2.1 dd_jdk_45_method_2_1 rfl ?_
  intro T1 X1
  refine own_arraylength (pc' := 5) (z := (3 : Int32)) X1 p_A rfl dd_jdk_45_method_2_4 rfl ?_
  refine own_ifY (pc' := 12) X1 dd_jdk_45_method_2_5 ((feq (by decide)).2) (by decide) (by decide) ?_
  refine own_iconst (pc' := 13) X1 dd_jdk_45_method_2_12 rfl (z := (0 : Int32)) (by decide) ?_
  exact own_ret X1 hGe (t := .boolean) rfl rfl (Or.inl ⟨rfl, by simp, _, rfl⟩) dd_jdk_45_method_2_13 (by decide) (by decide) ⟨rfl, rfl⟩
theorem dd_jdk_45_method_4_0 : decode jdk_45_method_4_code 0 = .ok (.aload_n 0, 1) := by decide +kernel
theorem dd_jdk_45_method_4_1 : decode jdk_45_method_4_code 1 = .ok (.getfield 7, 3) := by decide +kernel
theorem dd_jdk_45_method_4_4 : decode jdk_45_method_4_code 4 = .ok (.iload_n 1, 1) := by decide +kernel
theorem dd_jdk_45_method_4_5 : decode jdk_45_method_4_code 5 = .ok (.aaload, 1) := by decide +kernel
theorem dd_jdk_45_method_4_6 : decode jdk_45_method_4_code 6 = .ok (.areturn, 1) := by decide +kernel
theorem ef_own_ilg3_0 (m : MethodId) (x0 : Addr) (x1 : Int32) : entryFrame m #[(.ref x0), (.int x1)] 2 = mkF m 0 #[.val (.ref x0), .val (.int x1)] [] := by first | (simp [entryFrame, mkF, argsToLocals, Value.category]; done) | rfl
set_option maxRecDepth 65536 in
set_option maxHeartbeats 40000000 in
theorem own_ilg3_0 (l : Launch) (Z : State) (a0 : Array Value) (hw : ∀ d ∈ tables_1, d.before a0 Z = true) (n0 : Nat) (c0 em ea ey : Addr) (x0 x1 x2 : Addr) (h0 : Heap) (O0 : Old Z n0 h0) (I : own_IL Z h0 em ey c0 [x0, x1, x2]) (EM : own_EMP Z em ea) (EY : own_MTY Z ey) :
    own_Met l Z n0 (⟨"java/util/ImmutableCollections$ListN", "get", "(I)Ljava/lang/Object;"⟩ : MethodName) jdk_45_method_4_code 2 (some (.object "java/lang/Object")) ({ frames := 0, cells := 0, slots := 0, locals := 0 } : Room) #[(.ref c0), (.int (0 : Int32))] h0 (fun v h => v = some (.ref x0) ∧ h0 = h) := by
  refine own_enter (own := "java/util/ImmutableCollections$ListN") (nm := "get") (plainFor_of_name pn_8) rfl rfl O0 ?_
  have W : ∀ (k : Nat) {d : Jvm.Cond}, tables_1[k]? = some d → d.before a0 Z = true := fun k d q => hw d (List.mem_of_getElem? q)
  intro G p e s m below meth c T0 hGe X0
  rw [ef_own_ilg3_0 m c0 ((0 : Int32))]
  obtain ⟨q0, kq, p_L, p_A, p_Q⟩ := I
  refine own_aload_n (pc' := 1) X0 dd_jdk_45_method_4_0 rfl rfl rfl ?_
  refine own_get (pc' := 4) X0 (host := "") (Or.inl (W 232 rfl)) Via.refl p_L.2.1 dd_jdk_45_method_4_1 rfl ?_
  intro T1 X1
  refine own_iload_n (pc' := 5) X1 dd_jdk_45_method_4_4 rfl rfl ?_
  refine own_aaload (pc' := 6) (i := 0) (v := (.ref x0)) X1 p_A rfl (by decide) rfl dd_jdk_45_method_4_5 rfl ?_
  exact own_ret X1 hGe (t := (.object "java/lang/Object")) rfl rfl (Or.inr (Or.inr (Or.inr (Or.inr ⟨rfl, rfl, rfl⟩)))) dd_jdk_45_method_4_6 (by decide) (by decide) ⟨rfl, rfl⟩
theorem ef_own_ilg3_1 (m : MethodId) (x0 : Addr) (x1 : Int32) : entryFrame m #[(.ref x0), (.int x1)] 2 = mkF m 0 #[.val (.ref x0), .val (.int x1)] [] := by first | (simp [entryFrame, mkF, argsToLocals, Value.category]; done) | rfl
set_option maxRecDepth 65536 in
set_option maxHeartbeats 40000000 in
theorem own_ilg3_1 (l : Launch) (Z : State) (a0 : Array Value) (hw : ∀ d ∈ tables_1, d.before a0 Z = true) (n0 : Nat) (c0 em ea ey : Addr) (x0 x1 x2 : Addr) (h0 : Heap) (O0 : Old Z n0 h0) (I : own_IL Z h0 em ey c0 [x0, x1, x2]) (EM : own_EMP Z em ea) (EY : own_MTY Z ey) :
    own_Met l Z n0 (⟨"java/util/ImmutableCollections$ListN", "get", "(I)Ljava/lang/Object;"⟩ : MethodName) jdk_45_method_4_code 2 (some (.object "java/lang/Object")) ({ frames := 0, cells := 0, slots := 0, locals := 0 } : Room) #[(.ref c0), (.int (1 : Int32))] h0 (fun v h => v = some (.ref x1) ∧ h0 = h) := by
  refine own_enter (own := "java/util/ImmutableCollections$ListN") (nm := "get") (plainFor_of_name pn_8) rfl rfl O0 ?_
  have W : ∀ (k : Nat) {d : Jvm.Cond}, tables_1[k]? = some d → d.before a0 Z = true := fun k d q => hw d (List.mem_of_getElem? q)
  intro G p e s m below meth c T0 hGe X0
  rw [ef_own_ilg3_1 m c0 ((1 : Int32))]
  obtain ⟨q0, kq, p_L, p_A, p_Q⟩ := I
  refine own_aload_n (pc' := 1) X0 dd_jdk_45_method_4_0 rfl rfl rfl ?_
  refine own_get (pc' := 4) X0 (host := "") (Or.inl (W 232 rfl)) Via.refl p_L.2.1 dd_jdk_45_method_4_1 rfl ?_
  intro T1 X1
  refine own_iload_n (pc' := 5) X1 dd_jdk_45_method_4_4 rfl rfl ?_
  refine own_aaload (pc' := 6) (i := 1) (v := (.ref x1)) X1 p_A rfl (by decide) rfl dd_jdk_45_method_4_5 rfl ?_
  exact own_ret X1 hGe (t := (.object "java/lang/Object")) rfl rfl (Or.inr (Or.inr (Or.inr (Or.inr ⟨rfl, rfl, rfl⟩)))) dd_jdk_45_method_4_6 (by decide) (by decide) ⟨rfl, rfl⟩
theorem ef_own_ilg3_2 (m : MethodId) (x0 : Addr) (x1 : Int32) : entryFrame m #[(.ref x0), (.int x1)] 2 = mkF m 0 #[.val (.ref x0), .val (.int x1)] [] := by first | (simp [entryFrame, mkF, argsToLocals, Value.category]; done) | rfl
set_option maxRecDepth 65536 in
set_option maxHeartbeats 40000000 in
theorem own_ilg3_2 (l : Launch) (Z : State) (a0 : Array Value) (hw : ∀ d ∈ tables_1, d.before a0 Z = true) (n0 : Nat) (c0 em ea ey : Addr) (x0 x1 x2 : Addr) (h0 : Heap) (O0 : Old Z n0 h0) (I : own_IL Z h0 em ey c0 [x0, x1, x2]) (EM : own_EMP Z em ea) (EY : own_MTY Z ey) :
    own_Met l Z n0 (⟨"java/util/ImmutableCollections$ListN", "get", "(I)Ljava/lang/Object;"⟩ : MethodName) jdk_45_method_4_code 2 (some (.object "java/lang/Object")) ({ frames := 0, cells := 0, slots := 0, locals := 0 } : Room) #[(.ref c0), (.int (2 : Int32))] h0 (fun v h => v = some (.ref x2) ∧ h0 = h) := by
  refine own_enter (own := "java/util/ImmutableCollections$ListN") (nm := "get") (plainFor_of_name pn_8) rfl rfl O0 ?_
  have W : ∀ (k : Nat) {d : Jvm.Cond}, tables_1[k]? = some d → d.before a0 Z = true := fun k d q => hw d (List.mem_of_getElem? q)
  intro G p e s m below meth c T0 hGe X0
  rw [ef_own_ilg3_2 m c0 ((2 : Int32))]
  obtain ⟨q0, kq, p_L, p_A, p_Q⟩ := I
  refine own_aload_n (pc' := 1) X0 dd_jdk_45_method_4_0 rfl rfl rfl ?_
  refine own_get (pc' := 4) X0 (host := "") (Or.inl (W 232 rfl)) Via.refl p_L.2.1 dd_jdk_45_method_4_1 rfl ?_
  intro T1 X1
  refine own_iload_n (pc' := 5) X1 dd_jdk_45_method_4_4 rfl rfl ?_
  refine own_aaload (pc' := 6) (i := 2) (v := (.ref x2)) X1 p_A rfl (by decide) rfl dd_jdk_45_method_4_5 rfl ?_
  exact own_ret X1 hGe (t := (.object "java/lang/Object")) rfl rfl (Or.inr (Or.inr (Or.inr (Or.inr ⟨rfl, rfl, rfl⟩)))) dd_jdk_45_method_4_6 (by decide) (by decide) ⟨rfl, rfl⟩
theorem ef_own_min3_3 (m : MethodId) (x0 : Int32) (x1 : Int32) : entryFrame m #[(.int x0), (.int x1)] 2 = mkF m 0 #[.val (.int x0), .val (.int x1)] [] := by first | (simp [entryFrame, mkF, argsToLocals, Value.category]; done) | rfl
set_option maxRecDepth 65536 in
set_option maxHeartbeats 40000000 in
theorem own_min3_3 (l : Launch) (Z : State) (a0 : Array Value) (hw : ∀ d ∈ tables_1, d.before a0 Z = true) (n0 : Nat)  (h0 : Heap) (O0 : Old Z n0 h0)  :
    own_Met l Z n0 (⟨"java/lang/Math", "min", "(II)I"⟩ : MethodName) jdk_29_method_69_code 2 (some .int) ({ frames := 0, cells := 0, slots := 0, locals := 0 } : Room) #[(.int (3 : Int32)), (.int (3 : Int32))] h0 (fun v h => v = some (.int 3) ∧ h0 = h) := by
  refine own_enter (own := "java/lang/Math") (nm := "min") pf_11 rfl rfl O0 ?_
  have W : ∀ (k : Nat) {d : Jvm.Cond}, tables_1[k]? = some d → d.before a0 Z = true := fun k d q => hw d (List.mem_of_getElem? q)
  intro G p e s m below meth c T0 hGe X0
  rw [ef_own_min3_3 m ((3 : Int32)) ((3 : Int32))]
  refine own_iload_n (pc' := 1) X0 dd_jdk_29_method_69_0 rfl rfl ?_
  refine own_iload_n (pc' := 2) X0 dd_jdk_29_method_69_1 rfl rfl ?_
  refine own_icmpN (pc' := 5) X0 dd_jdk_29_method_69_2 rfl ((flt (by decide)).2.2.1) ?_
  refine own_iload_n (pc' := 6) X0 dd_jdk_29_method_69_5 rfl rfl ?_
  refine own_goto (pc' := 10) X0 dd_jdk_29_method_69_6 (by decide) (by decide) ?_
  exact own_ret X0 hGe (t := .int) rfl rfl (Or.inl ⟨rfl, by simp, _, rfl⟩) dd_jdk_29_method_69_10 (by decide) (by decide) ⟨rfl, rfl⟩
theorem ef_own_cpc3_3 (m : MethodId) (x0 : Addr) (x1 : Int32) (x2 : Addr) : entryFrame m #[(.ref x0), (.int x1), (.ref x2)] 4 = mkF m 0 #[.val (.ref x0), .val (.int x1), .val (.ref x2), .unset] [] := by first | (simp [entryFrame, mkF, argsToLocals, Value.category]; done) | rfl
set_option maxRecDepth 65536 in
set_option maxHeartbeats 40000000 in
theorem own_cpc3_3 (l : Launch) (Z : State) (a0 : Array Value) (hw : ∀ d ∈ tables_1, d.before a0 Z = true) (n0 : Nat) (a : Addr) (ka : ClassId) (mr : Addr) (x0 x1 x2 : Addr) (h0 : Heap) (O0 : Old Z n0 h0) (p_A : own_Arr Z h0 a ka (.object "java/lang/Object") [(.ref x0), (.ref x1), (.ref x2)]) (p_E : Exa Z h0 a "[Ljava/lang/Object;") (MR : own_Mir Z "[Ljava/lang/Object;" mr) (p_x0 : Exa Z h0 x0 "java/util/KeyValueHolder") (p_x1 : Exa Z h0 x1 "java/util/KeyValueHolder") (p_x2 : Exa Z h0 x2 "java/util/KeyValueHolder") :
    own_Met l Z n0 (⟨"java/util/Arrays", "copyOf", "([Ljava/lang/Object;ILjava/lang/Class;)[Ljava/lang/Object;"⟩ : MethodName) jdk_65_method_120_code 4 (some (.array (.object "java/lang/Object"))) ({ frames := 1, cells := 1, slots := 3, locals := 20 } : Room) #[(.ref a), (.int (3 : Int32)), (.ref mr)] h0 (fun v h => ∃ (d : Addr) (k : ClassId), v = some (.ref d) ∧ Keep h0 h [] ∧ h0.size ≤ d ∧ own_Arr Z h d k (.object "java/lang/Object") [(.ref x0), (.ref x1), (.ref x2)] ∧ Exa Z h d "[Ljava/lang/Object;") := by
  refine own_enter (own := "java/util/Arrays") (nm := "copyOf") (plainFor_of_name pn_12) rfl rfl O0 ?_
  have W : ∀ (k : Nat) {d : Jvm.Cond}, tables_1[k]? = some d → d.before a0 Z = true := fun k d q => hw d (List.mem_of_getElem? q)
  intro G p e s m below meth c T0 hGe X0
  rw [ef_own_cpc3_3 m a ((3 : Int32)) mr]
  refine own_aload_n (pc' := 1) X0 dd_jdk_65_method_120_0 rfl rfl rfl ?_
  refine own_ldcC (pc' := 3) X0 (W 195 rfl) MR dd_jdk_65_method_120_1 rfl ?_
  intro T1 X1
  refine own_acmp (pc' := 6) (same := true) X1 dd_jdk_65_method_120_3 rfl rfl (by simp) (by decide) (by decide) ?_
  refine own_iload_n (pc' := 7) X1 dd_jdk_65_method_120_6 rfl rfl ?_
  refine own_anewR (pc' := 10) (cells' := 1) (slots' := 3) (n := 3) (cap := 3) (ad := "[Ljava/lang/Object;") X1 (W 196 rfl) (W 26 rfl) (by decide) (by decide) (by decide) dd_jdk_65_method_120_7 rfl rfl (by decide) (by decide) rfl (by decide) (by decide) ?_
  intro T2 h2 a2 k2 g2 X2 K2 A2 E2 V2
  have n_a2 : n0 ≤ a2 := by rw [g2]; exact own_n0 X1
  have A2' : own_Arr Z h2 a2 k2 (.object "java/lang/Object") [.null, .null, .null] := A2
  refine own_goto (pc' := 24) X2 dd_jdk_65_method_120_10 (by decide) (by decide) ?_
  refine own_astore_n (pc' := 25) X2 dd_jdk_65_method_120_24 rfl rfl (Ls' := #[.val (.ref a), .val (.int (3 : Int32)), .val (.ref mr), .val (.ref a2)]) rfl ?_
  refine own_aload_n (pc' := 26) X2 dd_jdk_65_method_120_25 rfl rfl rfl ?_
  refine own_iconst (pc' := 27) X2 dd_jdk_65_method_120_26 rfl (z := (0 : Int32)) (by decide) ?_
  refine own_aload_n (pc' := 28) X2 dd_jdk_65_method_120_27 rfl rfl rfl ?_
  refine own_iconst (pc' := 29) X2 dd_jdk_65_method_120_28 rfl (z := (0 : Int32)) (by decide) ?_
  refine own_aload_n (pc' := 30) X2 dd_jdk_65_method_120_29 rfl rfl rfl ?_
  have f3 := (p_A.keep K2 nin0)
  refine own_arraylength (pc' := 31) (z := (3 : Int32)) X2 f3 rfl dd_jdk_65_method_120_30 rfl ?_
  refine own_iload_n (pc' := 32) X2 dd_jdk_65_method_120_31 rfl rfl ?_
  refine own_callSM (pc' := 35) (cells' := 1) (slots' := 3) (argsL := [(.int (3 : Int32)), (.int (3 : Int32))]) (rest := [(.int (0 : Int32)), (.ref a2), (.int (0 : Int32)), (.ref a)]) (W := 4) (y := (⟨"java/lang/Math", "min", "(II)I"⟩ : MethodName)) X2 (W 197 rfl) (W 198 rfl) (by decide) (own_min3_3 l Z a0 hw n0  h2 (own_old X2) ) (W 199 rfl) (W 82 rfl) (by decide) (by decide) rfl (lenOf pd_1 rfl) rfl rfl dd_jdk_65_method_120_32 rfl rfl rfl rfl (by decide) (by decide) ?_
  intro v4 T4 h4 X4 q4
  obtain ⟨rfl, rfl⟩ := q4
  show G T4 (mkF m 35 #[.val (.ref a), .val (.int (3 : Int32)), .val (.ref mr), .val (.ref a2)] [(.int (3 : Int32)), (.int (0 : Int32)), (.ref a2), (.int (0 : Int32)), (.ref a)])
  have f5 := (p_x2.keep K2)
  have f6 := (p_x1.keep K2)
  have f7 := (p_x0.keep K2)
  refine own_arraycopy (pc' := 38) (W := 0) (sp := 0) (dp := 0) (n := 3) X4 (W 200 rfl) (W 203 rfl) (W 201 rfl) (W 202 rfl) f3 A2' (Or.inr ⟨rfl, rfl, ⟨own_stoR A2' V2 (Ins.of_exa f7 (W 27 rfl)), ⟨own_stoR A2' V2 (Ins.of_exa f6 (W 27 rfl)), ⟨own_stoR A2' V2 (Ins.of_exa f5 (W 27 rfl)), trivial⟩⟩⟩⟩) (by decide) (by decide) (by decide) (Nat.le_of_ble_eq_true rfl) (Nat.le_of_ble_eq_true rfl) n_a2 rfl rfl dd_jdk_65_method_120_35 rfl (by decide) (by decide) ?_
  intro T8 h8 X8 K8 A8
  have A8' : own_Arr Z h8 a2 k2 (.object "java/lang/Object") [(.ref x0), (.ref x1), (.ref x2)] := by exact A8
  refine own_aload_n (pc' := 39) X8 dd_jdk_65_method_120_38 rfl rfl rfl ?_
  have age_a2 : h0.size ≤ a2 := Nat.le_trans (Nat.le_refl _) (Nat.le_of_eq (Eq.symm g2))
  have f9 := (E2.keep K8)
  exact own_ret X8 hGe (t := (.array (.object "java/lang/Object"))) rfl rfl (Or.inr (Or.inr (Or.inr (Or.inr ⟨rfl, rfl, rfl⟩)))) dd_jdk_65_method_120_39 (by decide) (by decide) ⟨a2, _, rfl, (((Keep.refl h0 []).trans K2 all0).trans K8 (allS (Or.inr age_a2) all0)), age_a2, A8', f9⟩
theorem ef_own_cp3_3 (m : MethodId) (x0 : Addr) (x1 : Int32) : entryFrame m #[(.ref x0), (.int x1)] 2 = mkF m 0 #[.val (.ref x0), .val (.int x1)] [] := by first | (simp [entryFrame, mkF, argsToLocals, Value.category]; done) | rfl
set_option maxRecDepth 65536 in
set_option maxHeartbeats 40000000 in
theorem own_cp3_3 (l : Launch) (Z : State) (a0 : Array Value) (hw : ∀ d ∈ tables_1, d.before a0 Z = true) (n0 : Nat) (a : Addr) (ka : ClassId) (mr : Addr) (x0 x1 x2 : Addr) (h0 : Heap) (O0 : Old Z n0 h0) (p_A : own_Arr Z h0 a ka (.object "java/lang/Object") [(.ref x0), (.ref x1), (.ref x2)]) (p_E : Exa Z h0 a "[Ljava/lang/Object;") (MR : own_Mir Z "[Ljava/lang/Object;" mr) (p_x0 : Exa Z h0 x0 "java/util/KeyValueHolder") (p_x1 : Exa Z h0 x1 "java/util/KeyValueHolder") (p_x2 : Exa Z h0 x2 "java/util/KeyValueHolder") :
    own_Met l Z n0 (⟨"java/util/Arrays", "copyOf", "([Ljava/lang/Object;I)[Ljava/lang/Object;"⟩ : MethodName) jdk_65_method_119_code 2 (some (.array (.object "java/lang/Object"))) ({ frames := 2, cells := 1, slots := 3, locals := 35 } : Room) #[(.ref a), (.int (3 : Int32))] h0 (fun v h => ∃ (d : Addr) (k : ClassId), v = some (.ref d) ∧ Keep h0 h [] ∧ h0.size ≤ d ∧ own_Arr Z h d k (.object "java/lang/Object") [(.ref x0), (.ref x1), (.ref x2)] ∧ Exa Z h d "[Ljava/lang/Object;") := by
  refine own_enter (own := "java/util/Arrays") (nm := "copyOf") (plainFor_of_name pn_12) rfl rfl O0 ?_
  have W : ∀ (k : Nat) {d : Jvm.Cond}, tables_1[k]? = some d → d.before a0 Z = true := fun k d q => hw d (List.mem_of_getElem? q)
  intro G p e s m below meth c T0 hGe X0
  rw [ef_own_cp3_3 m a ((3 : Int32))]
  refine own_aload_n (pc' := 1) X0 dd_jdk_65_method_119_0 rfl rfl rfl ?_
  refine own_iload_n (pc' := 2) X0 dd_jdk_65_method_119_1 rfl rfl ?_
  refine own_aload_n (pc' := 3) X0 dd_jdk_65_method_119_2 rfl rfl rfl ?_
  refine own_gcls (pc' := 6) (W := 2) X0 (W 186 rfl) (W 187 rfl) (W 141 rfl) (W 189 rfl) (W 188 rfl) (W 190 rfl) p_E MR rfl dd_jdk_65_method_119_3 rfl (by decide) rfl (by decide) ?_
  intro T1 X1
  refine own_callSM (pc' := 9) (cells' := 1) (slots' := 3) (argsL := [(.ref a), (.int (3 : Int32)), (.ref mr)]) (rest := []) (W := 0) (y := (⟨"java/util/Arrays", "copyOf", "([Ljava/lang/Object;ILjava/lang/Class;)[Ljava/lang/Object;"⟩ : MethodName)) X1 (W 192 rfl) (W 193 rfl) (by decide) (own_cpc3_3 l Z a0 hw n0 a ka mr x0 x1 x2 h0 (own_old X1) p_A p_E MR p_x0 p_x1 p_x2) (W 194 rfl) (W 184 rfl) (by decide) (by decide) rfl (lenOf pd_9 rfl) rfl rfl dd_jdk_65_method_119_6 rfl rfl rfl rfl (by decide) (by decide) ?_
  intro v2 T2 h2 X2 q2
  obtain ⟨d2, k2, rfl, K2, z2, A2, E2⟩ := q2
  show G T2 (mkF m 9 #[.val (.ref a), .val (.int (3 : Int32))] [(.ref d2)])
  have age_d2 : h0.size ≤ d2 := Nat.le_trans (Nat.le_refl _) z2
  exact own_ret X2 hGe (t := (.array (.object "java/lang/Object"))) rfl rfl (Or.inr (Or.inr (Or.inr (Or.inr ⟨rfl, rfl, rfl⟩)))) dd_jdk_65_method_119_9 (by decide) (by decide) ⟨d2, _, rfl, ((Keep.refl h0 []).trans K2 all0), age_d2, A2, E2⟩
theorem ef_own_ilt3 (m : MethodId) (x0 : Addr) : entryFrame m #[(.ref x0)] 1 = mkF m 0 #[.val (.ref x0)] [] := by first | (simp [entryFrame, mkF, argsToLocals, Value.category]; done) | rfl
set_option maxRecDepth 65536 in
set_option maxHeartbeats 40000000 in
theorem own_ilt3 (l : Launch) (Z : State) (a0 : Array Value) (hw : ∀ d ∈ tables_1, d.before a0 Z = true) (n0 : Nat) (c0 em ea ey : Addr) (x0 x1 x2 : Addr) (mr : Addr) (h0 : Heap) (O0 : Old Z n0 h0) (I : own_IL Z h0 em ey c0 [x0, x1, x2]) (EM : own_EMP Z em ea) (EY : own_MTY Z ey) (MR : own_Mir Z "[Ljava/lang/Object;" mr) (p_x0 : Exa Z h0 x0 "java/util/KeyValueHolder") (p_x1 : Exa Z h0 x1 "java/util/KeyValueHolder") (p_x2 : Exa Z h0 x2 "java/util/KeyValueHolder") :
    own_Met l Z n0 (⟨"java/util/ImmutableCollections$ListN", "toArray", "()[Ljava/lang/Object;"⟩ : MethodName) jdk_45_method_7_code 1 (some (.array (.object "java/lang/Object"))) ({ frames := 3, cells := 1, slots := 3, locals := 48 } : Room) #[(.ref c0)] h0 (fun v h => ∃ (d : Addr) (k : ClassId), v = some (.ref d) ∧ Keep h0 h [] ∧ h0.size ≤ d ∧ own_Arr Z h d k (.object "java/lang/Object") [(.ref x0), (.ref x1), (.ref x2)] ∧ Exa Z h d "[Ljava/lang/Object;") := by
  refine own_enter (own := "java/util/ImmutableCollections$ListN") (nm := "toArray") (plainFor_of_name pn_8) rfl rfl O0 ?_
  have W : ∀ (k : Nat) {d : Jvm.Cond}, tables_1[k]? = some d → d.before a0 Z = true := fun k d q => hw d (List.mem_of_getElem? q)
  intro G p e s m below meth c T0 hGe X0
  rw [ef_own_ilt3 m c0]
  obtain ⟨q0, kq, p_L, p_A, p_Q⟩ := I
  refine own_aload_n (pc' := 1) X0 dd_jdk_45_method_7_0 rfl rfl rfl ?_
  refine own_get (pc' := 4) X0 (host := "") (Or.inl (W 232 rfl)) Via.refl p_L.2.1 dd_jdk_45_method_7_1 rfl ?_
  intro T1 X1
  refine own_aload_n (pc' := 5) X1 dd_jdk_45_method_7_4 rfl rfl rfl ?_
  refine own_get (pc' := 8) X1 (host := "") (Or.inl (W 232 rfl)) Via.refl p_L.2.1 dd_jdk_45_method_7_5 rfl ?_
  intro T2 X2
  refine own_arraylength (pc' := 9) (z := (3 : Int32)) X2 p_A rfl dd_jdk_45_method_7_8 rfl ?_
  refine own_callSM (pc' := 12) (cells' := 1) (slots' := 3) (argsL := [(.ref q0), (.int (3 : Int32))]) (rest := []) (W := 0) (y := (⟨"java/util/Arrays", "copyOf", "([Ljava/lang/Object;I)[Ljava/lang/Object;"⟩ : MethodName)) X2 (W 361 rfl) (W 183 rfl) (by decide) (own_cp3_3 l Z a0 hw n0 q0 kq mr x0 x1 x2 h0 (own_old X2) p_A p_Q MR p_x0 p_x1 p_x2) (W 185 rfl) (W 184 rfl) (by decide) (by decide) rfl (lenOf pd_10 rfl) rfl rfl dd_jdk_45_method_7_9 rfl rfl rfl rfl (by decide) (by decide) ?_
  intro v3 T3 h3 X3 q3
  obtain ⟨d3, k3, rfl, K3, z3, A3, E3⟩ := q3
  show G T3 (mkF m 12 #[.val (.ref c0)] [(.ref d3)])
  have age_d3 : h0.size ≤ d3 := Nat.le_trans (Nat.le_refl _) z3
  exact own_ret X3 hGe (t := (.array (.object "java/lang/Object"))) rfl rfl (Or.inr (Or.inr (Or.inr (Or.inr ⟨rfl, rfl, rfl⟩)))) dd_jdk_45_method_7_12 (by decide) (by decide) ⟨d3, _, rfl, ((Keep.refl h0 []).trans K3 all0), age_d3, A3, E3⟩
set_option maxRecDepth 65536 in
set_option maxHeartbeats 4000000 in
theorem own_il_size (l : Launch) (Z : State) (a0 : Array Value) (hw : ∀ d ∈ tables_1, d.before a0 Z = true) (n0 : Nat) (c0 em ea ey : Addr) (xs : List Addr) (h0 : Heap) (O0 : Old Z n0 h0) (I : own_IL Z h0 em ey c0 xs) (EM : own_EMP Z em ea) (EY : own_MTY Z ey) : own_IC l Z a0 n0 (⟨"java/util/List", "size", "()I"⟩ : MethodName) c0 [] h0 1 ({ frames := 0, cells := 0, slots := 0, locals := 0 } : Room) (fun v h => v = some (.int (Int32.ofNat xs.length)) ∧ h0 = h) := by
  have W : ∀ (k : Nat) {d : Jvm.Cond}, tables_1[k]? = some d → d.before a0 Z = true := fun k d q => hw d (List.mem_of_getElem? q)
  rcases own_l3 I.len with rfl | ⟨x0, rfl⟩ | ⟨x0, x1, rfl⟩ | ⟨x0, x1, x2, rfl⟩
  · obtain rfl : em = c0 := I
    exact ⟨(⟨"java/util/ImmutableCollections$ListN", "size", "()I"⟩ : MethodName), "java/util/ImmutableCollections$ListN", _, _, _, _, (W 293 rfl), (W 294 rfl), (W 295 rfl), (W 296 rfl), (W 278 rfl), (EM.2.1.keep (own_oldK O0)), own_ils0 l Z a0 hw n0 em em ea ey  h0 O0 own_IL0 EM EY, (W 297 rfl), (W 213 rfl), by decide, by decide, by decide, by decide, by decide⟩
  · exact ⟨(⟨"java/util/ImmutableCollections$List12", "size", "()I"⟩ : MethodName), "java/util/ImmutableCollections$List12", _, _, _, _, (W 441 rfl), (W 442 rfl), (W 443 rfl), (W 444 rfl), (W 438 rfl), I.1, own_ils1 l Z a0 hw n0 c0 em ea ey x0 h0 O0 I EM EY, (W 445 rfl), (W 420 rfl), by decide, by decide, by decide, by decide, by decide⟩
  · exact ⟨(⟨"java/util/ImmutableCollections$List12", "size", "()I"⟩ : MethodName), "java/util/ImmutableCollections$List12", _, _, _, _, (W 441 rfl), (W 442 rfl), (W 443 rfl), (W 444 rfl), (W 438 rfl), I.1.1, own_ils2 l Z a0 hw n0 c0 em ea ey x0 x1 h0 O0 I EM EY, (W 445 rfl), (W 420 rfl), by decide, by decide, by decide, by decide, by decide⟩
  · exact ⟨(⟨"java/util/ImmutableCollections$ListN", "size", "()I"⟩ : MethodName), "java/util/ImmutableCollections$ListN", _, _, _, _, (W 293 rfl), (W 294 rfl), (W 295 rfl), (W 296 rfl), (W 278 rfl), (by obtain ⟨q0, kq, p_L, _⟩ := I; exact p_L.1), own_ils3 l Z a0 hw n0 c0 em ea ey x0 x1 x2 h0 O0 I EM EY, (W 297 rfl), (W 213 rfl), by decide, by decide, by decide, by decide, by decide⟩

set_option maxRecDepth 65536 in
set_option maxHeartbeats 4000000 in
theorem own_il_emp (l : Launch) (Z : State) (a0 : Array Value) (hw : ∀ d ∈ tables_1, d.before a0 Z = true) (n0 : Nat) (c0 em ea ey : Addr) (xs : List Addr) (h0 : Heap) (O0 : Old Z n0 h0) (I : own_IL Z h0 em ey c0 xs) (EM : own_EMP Z em ea) (EY : own_MTY Z ey) : own_IC l Z a0 n0 (⟨"java/util/List", "isEmpty", "()Z"⟩ : MethodName) c0 [] h0 1 ({ frames := 0, cells := 0, slots := 0, locals := 0 } : Room) (fun v h => v = some (.int (if xs.length = 0 then 1 else 0)) ∧ h0 = h) := by
  have W : ∀ (k : Nat) {d : Jvm.Cond}, tables_1[k]? = some d → d.before a0 Z = true := fun k d q => hw d (List.mem_of_getElem? q)
  rcases own_l3 I.len with rfl | ⟨x0, rfl⟩ | ⟨x0, x1, rfl⟩ | ⟨x0, x1, x2, rfl⟩
  · obtain rfl : em = c0 := I
    exact ⟨(⟨"java/util/ImmutableCollections$ListN", "isEmpty", "()Z"⟩ : MethodName), "java/util/ImmutableCollections$ListN", _, _, _, _, (W 274 rfl), (W 275 rfl), (W 276 rfl), (W 277 rfl), (W 278 rfl), (EM.2.1.keep (own_oldK O0)), own_ile0 l Z a0 hw n0 em em ea ey  h0 O0 own_IL0 EM EY, (W 279 rfl), (W 213 rfl), by decide, by decide, by decide, by decide, by decide⟩
  · exact ⟨(⟨"java/util/ImmutableCollections$List12", "isEmpty", "()Z"⟩ : MethodName), "java/util/ImmutableCollections$List12", _, _, _, _, (W 434 rfl), (W 435 rfl), (W 436 rfl), (W 437 rfl), (W 438 rfl), I.1, own_ile1 l Z a0 hw n0 c0 em ea ey x0 h0 O0 I EM EY, (W 439 rfl), (W 420 rfl), by decide, by decide, by decide, by decide, by decide⟩
  · exact ⟨(⟨"java/util/ImmutableCollections$List12", "isEmpty", "()Z"⟩ : MethodName), "java/util/ImmutableCollections$List12", _, _, _, _, (W 434 rfl), (W 435 rfl), (W 436 rfl), (W 437 rfl), (W 438 rfl), I.1.1, own_ile2 l Z a0 hw n0 c0 em ea ey x0 x1 h0 O0 I EM EY, (W 439 rfl), (W 420 rfl), by decide, by decide, by decide, by decide, by decide⟩
  · exact ⟨(⟨"java/util/ImmutableCollections$ListN", "isEmpty", "()Z"⟩ : MethodName), "java/util/ImmutableCollections$ListN", _, _, _, _, (W 274 rfl), (W 275 rfl), (W 276 rfl), (W 277 rfl), (W 278 rfl), (by obtain ⟨q0, kq, p_L, _⟩ := I; exact p_L.1), own_ile3 l Z a0 hw n0 c0 em ea ey x0 x1 x2 h0 O0 I EM EY, (W 279 rfl), (W 213 rfl), by decide, by decide, by decide, by decide, by decide⟩

set_option maxRecDepth 65536 in
set_option maxHeartbeats 4000000 in
theorem own_il_arr (l : Launch) (Z : State) (a0 : Array Value) (hw : ∀ d ∈ tables_1, d.before a0 Z = true) (n0 : Nat) (c0 em ea ey : Addr) (xs : List Addr) (mr : Addr) (h0 : Heap) (O0 : Old Z n0 h0) (I : own_IL Z h0 em ey c0 xs) (EM : own_EMP Z em ea) (EY : own_MTY Z ey) (p_Q0 : Exa Z Z.heap ea "[Ljava/lang/Object;") (MR : own_Mir Z "[Ljava/lang/Object;" mr) (hE : ∀ x ∈ xs, Exa Z h0 x "java/util/KeyValueHolder") : own_IC l Z a0 n0 (⟨"java/util/Collection", "toArray", "()[Ljava/lang/Object;"⟩ : MethodName) c0 [] h0 1 ({ frames := 3, cells := 1, slots := 3, locals := 48 } : Room) (fun v h => ∃ (d : Addr) (k : ClassId), v = some (.ref d) ∧ Keep h0 h [] ∧ h0.size ≤ d ∧ own_Arr Z h d k (.object "java/lang/Object") (xs.map Value.ref) ∧ Exa Z h d "[Ljava/lang/Object;") := by
  have W : ∀ (k : Nat) {d : Jvm.Cond}, tables_1[k]? = some d → d.before a0 Z = true := fun k d q => hw d (List.mem_of_getElem? q)
  rcases own_l3 I.len with rfl | ⟨x0, rfl⟩ | ⟨x0, x1, rfl⟩ | ⟨x0, x1, x2, rfl⟩
  · obtain rfl : em = c0 := I
    exact ⟨(⟨"java/util/ImmutableCollections$ListN", "toArray", "()[Ljava/lang/Object;"⟩ : MethodName), "java/util/ImmutableCollections$ListN", _, _, _, _, (W 356 rfl), (W 357 rfl), (W 358 rfl), (W 359 rfl), (W 346 rfl), (EM.2.1.keep (own_oldK O0)), own_ilt0 l Z a0 hw n0 em em ea ey  mr h0 O0 own_IL0 EM EY p_Q0 MR, (W 360 rfl), (W 213 rfl), by decide, by decide, by decide, by decide, by decide⟩
  · exact ⟨(⟨"java/util/ImmutableCollections$List12", "toArray", "()[Ljava/lang/Object;"⟩ : MethodName), "java/util/ImmutableCollections$List12", _, _, _, _, (W 448 rfl), (W 449 rfl), (W 450 rfl), (W 451 rfl), (W 447 rfl), I.1, own_ilt1 l Z a0 hw n0 c0 em ea ey x0 mr h0 O0 I EM EY MR (hE _ (by simp)), (W 452 rfl), (W 420 rfl), by decide, by decide, by decide, by decide, by decide⟩
  · exact ⟨(⟨"java/util/ImmutableCollections$List12", "toArray", "()[Ljava/lang/Object;"⟩ : MethodName), "java/util/ImmutableCollections$List12", _, _, _, _, (W 448 rfl), (W 449 rfl), (W 450 rfl), (W 451 rfl), (W 447 rfl), I.1.1, own_ilt2 l Z a0 hw n0 c0 em ea ey x0 x1 mr h0 O0 I EM EY MR (hE _ (by simp)) (hE _ (by simp)), (W 452 rfl), (W 420 rfl), by decide, by decide, by decide, by decide, by decide⟩
  · exact ⟨(⟨"java/util/ImmutableCollections$ListN", "toArray", "()[Ljava/lang/Object;"⟩ : MethodName), "java/util/ImmutableCollections$ListN", _, _, _, _, (W 356 rfl), (W 357 rfl), (W 358 rfl), (W 359 rfl), (W 346 rfl), (by obtain ⟨q0, kq, p_L, _⟩ := I; exact p_L.1), own_ilt3 l Z a0 hw n0 c0 em ea ey x0 x1 x2 mr h0 O0 I EM EY MR (hE _ (by simp)) (hE _ (by simp)) (hE _ (by simp)), (W 360 rfl), (W 213 rfl), by decide, by decide, by decide, by decide, by decide⟩

set_option maxRecDepth 65536 in
set_option maxHeartbeats 4000000 in
theorem own_il_get (l : Launch) (Z : State) (a0 : Array Value) (hw : ∀ d ∈ tables_1, d.before a0 Z = true) (n0 : Nat) (c0 em ea ey x : Addr) (i : Nat) (xs : List Addr) (h0 : Heap) (O0 : Old Z n0 h0) (I : own_IL Z h0 em ey c0 xs) (EM : own_EMP Z em ea) (EY : own_MTY Z ey) (hx : xs[i]? = some x) : own_IC l Z a0 n0 (⟨"java/util/List", "get", "(I)Ljava/lang/Object;"⟩ : MethodName) c0 [.int (Int32.ofNat i)] h0 2 ({ frames := 0, cells := 0, slots := 0, locals := 0 } : Room) (fun v h => v = some (.ref x) ∧ h0 = h) := by
  have W : ∀ (k : Nat) {d : Jvm.Cond}, tables_1[k]? = some d → d.before a0 Z = true := fun k d q => hw d (List.mem_of_getElem? q)
  rcases own_l3 I.len with rfl | ⟨x0, rfl⟩ | ⟨x0, x1, rfl⟩ | ⟨x0, x1, x2, rfl⟩
  · cases hx
  · match i, hx with
    | 0, hx =>
      obtain rfl := Option.some.inj hx
      exact ⟨(⟨"java/util/ImmutableCollections$List12", "get", "(I)Ljava/lang/Object;"⟩ : MethodName), "java/util/ImmutableCollections$List12", _, _, _, _, (W 457 rfl), (W 458 rfl), (W 459 rfl), (W 460 rfl), (W 438 rfl), I.1, own_ilg1_0 l Z a0 hw n0 c0 em ea ey _ h0 O0 I EM EY, (W 461 rfl), (W 420 rfl), by decide, by decide, by decide, by decide, by decide⟩
    | _ + 1, hx => cases hx
  · match i, hx with
    | 0, hx =>
      obtain rfl := Option.some.inj hx
      exact ⟨(⟨"java/util/ImmutableCollections$List12", "get", "(I)Ljava/lang/Object;"⟩ : MethodName), "java/util/ImmutableCollections$List12", _, _, _, _, (W 457 rfl), (W 458 rfl), (W 459 rfl), (W 460 rfl), (W 438 rfl), I.1.1, own_ilg2_0 l Z a0 hw n0 c0 em ea ey _ _ h0 O0 I EM EY, (W 461 rfl), (W 420 rfl), by decide, by decide, by decide, by decide, by decide⟩
    | 1, hx =>
      obtain rfl := Option.some.inj hx
      exact ⟨(⟨"java/util/ImmutableCollections$List12", "get", "(I)Ljava/lang/Object;"⟩ : MethodName), "java/util/ImmutableCollections$List12", _, _, _, _, (W 457 rfl), (W 458 rfl), (W 459 rfl), (W 460 rfl), (W 438 rfl), I.1.1, own_ilg2_1 l Z a0 hw n0 c0 em ea ey _ _ h0 O0 I EM EY, (W 461 rfl), (W 420 rfl), by decide, by decide, by decide, by decide, by decide⟩
    | _ + 2, hx => cases hx
  · match i, hx with
    | 0, hx =>
      obtain rfl := Option.some.inj hx
      exact ⟨(⟨"java/util/ImmutableCollections$ListN", "get", "(I)Ljava/lang/Object;"⟩ : MethodName), "java/util/ImmutableCollections$ListN", _, _, _, _, (W 304 rfl), (W 305 rfl), (W 306 rfl), (W 307 rfl), (W 278 rfl), (by obtain ⟨q0, kq, p_L, _⟩ := I; exact p_L.1), own_ilg3_0 l Z a0 hw n0 c0 em ea ey _ _ _ h0 O0 I EM EY, (W 308 rfl), (W 213 rfl), by decide, by decide, by decide, by decide, by decide⟩
    | 1, hx =>
      obtain rfl := Option.some.inj hx
      exact ⟨(⟨"java/util/ImmutableCollections$ListN", "get", "(I)Ljava/lang/Object;"⟩ : MethodName), "java/util/ImmutableCollections$ListN", _, _, _, _, (W 304 rfl), (W 305 rfl), (W 306 rfl), (W 307 rfl), (W 278 rfl), (by obtain ⟨q0, kq, p_L, _⟩ := I; exact p_L.1), own_ilg3_1 l Z a0 hw n0 c0 em ea ey _ _ _ h0 O0 I EM EY, (W 308 rfl), (W 213 rfl), by decide, by decide, by decide, by decide, by decide⟩
    | 2, hx =>
      obtain rfl := Option.some.inj hx
      exact ⟨(⟨"java/util/ImmutableCollections$ListN", "get", "(I)Ljava/lang/Object;"⟩ : MethodName), "java/util/ImmutableCollections$ListN", _, _, _, _, (W 304 rfl), (W 305 rfl), (W 306 rfl), (W 307 rfl), (W 278 rfl), (by obtain ⟨q0, kq, p_L, _⟩ := I; exact p_L.1), own_ilg3_2 l Z a0 hw n0 c0 em ea ey _ _ _ h0 O0 I EM EY, (W 308 rfl), (W 213 rfl), by decide, by decide, by decide, by decide, by decide⟩
    | _ + 3, hx => cases hx

set_option maxRecDepth 65536 in
theorem own_il_ob (Z : State) (a0 : Array Value) (hw : ∀ d ∈ tables_1, d.before a0 Z = true) (n0 : Nat) (c0 em ea ey : Addr) (xs : List Addr) (h0 : Heap) (O0 : Old Z n0 h0) (I : own_IL Z h0 em ey c0 xs) (EM : own_EMP Z em ea) : own_Ob a0 Z h0 c0 := by
  have W : ∀ (k : Nat) {d : Jvm.Cond}, tables_1[k]? = some d → d.before a0 Z = true := fun k d q => hw d (List.mem_of_getElem? q)
  rcases own_l3 I.len with rfl | ⟨x0, rfl⟩ | ⟨x0, x1, rfl⟩ | ⟨x0, x1, x2, rfl⟩
  · obtain rfl : em = c0 := I
    exact ⟨_, (EM.2.1.keep (own_oldK O0)), (W 317 rfl)⟩
  · exact ⟨_, I.1, (W 440 rfl)⟩
  · exact ⟨_, I.1.1, (W 440 rfl)⟩
  · exact ⟨_, (by obtain ⟨q0, kq, p_L, _⟩ := I; exact p_L.1), (W 317 rfl)⟩

set_option maxRecDepth 65536 in
theorem own_il_col (Z : State) (a0 : Array Value) (hw : ∀ d ∈ tables_1, d.before a0 Z = true) (n0 : Nat) (c0 em ea ey : Addr) (xs : List Addr) (h0 : Heap) (O0 : Old Z n0 h0) (I : own_IL Z h0 em ey c0 xs) (EM : own_EMP Z em ea) : Ins Z h0 c0 "java/util/Collection" true := by
  have W : ∀ (k : Nat) {d : Jvm.Cond}, tables_1[k]? = some d → d.before a0 Z = true := fun k d q => hw d (List.mem_of_getElem? q)
  rcases own_l3 I.len with rfl | ⟨x0, rfl⟩ | ⟨x0, x1, rfl⟩ | ⟨x0, x1, x2, rfl⟩
  · obtain rfl : em = c0 := I
    exact Ins.of_exa (EM.2.1.keep (own_oldK O0)) (W 346 rfl)
  · exact Ins.of_exa I.1 (W 447 rfl)
  · exact Ins.of_exa I.1.1 (W 447 rfl)
  · exact Ins.of_exa (by obtain ⟨q0, kq, p_L, _⟩ := I; exact p_L.1) (W 346 rfl)

theorem dd_jdk_38_method_8_0 : decode jdk_38_method_8_code 0 = .ok (.aload_n 0, 1) := by decide +kernel
theorem dd_jdk_38_method_8_1 : decode jdk_38_method_8_code 1 = .ok (.getfield 48, 3) := by decide +kernel
theorem dd_jdk_38_method_8_4 : decode jdk_38_method_8_code 4 = .ok (.ireturn, 1) := by decide +kernel
theorem ef_own_alz (m : MethodId) (x0 : Addr) : entryFrame m #[(.ref x0)] 1 = mkF m 0 #[.val (.ref x0)] [] := by first | (simp [entryFrame, mkF, argsToLocals, Value.category]; done) | rfl
set_option maxRecDepth 65536 in
set_option maxHeartbeats 40000000 in
theorem own_alz (l : Launch) (Z : State) (a0 : Array Value) (hw : ∀ d ∈ tables_1, d.before a0 Z = true) (n0 : Nat) (a : Addr) (z : Int32) (h0 : Heap) (O0 : Old Z n0 h0) (p_S : Fld Z h0 a "java/util/ArrayList" "size" "I" (.int z)) :
    own_Met l Z n0 (⟨"java/util/ArrayList", "size", "()I"⟩ : MethodName) jdk_38_method_8_code 1 (some .int) ({ frames := 0, cells := 0, slots := 0, locals := 0 } : Room) #[(.ref a)] h0 (fun v h => v = some (.int z) ∧ h0 = h) := by
  refine own_enter (own := "java/util/ArrayList") (nm := "size") (plainFor_of_name pn_2) rfl rfl O0 ?_
  have W : ∀ (k : Nat) {d : Jvm.Cond}, tables_1[k]? = some d → d.before a0 Z = true := fun k d q => hw d (List.mem_of_getElem? q)
  intro G p e s m below meth c T0 hGe X0
  rw [ef_own_alz m a]
  refine own_aload_n (pc' := 1) X0 dd_jdk_38_method_8_0 rfl rfl rfl ?_
  refine own_get (pc' := 4) X0 (host := "") (Or.inl (W 63 rfl)) Via.refl p_S dd_jdk_38_method_8_1 rfl ?_
  intro T1 X1
  exact own_ret X1 hGe (t := .int) rfl rfl (Or.inl ⟨rfl, by simp, _, rfl⟩) dd_jdk_38_method_8_4 (by decide) (by decide) ⟨rfl, rfl⟩
theorem dd_jdk_41_method_11_0 : decode jdk_41_method_11_code 0 = .ok (.iload_n 0, 1) := by decide +kernel
theorem dd_jdk_41_method_11_1 : decode jdk_41_method_11_code 1 = .ok (.ifCond .lt 8, 3) := by decide +kernel
theorem dd_jdk_41_method_11_4 : decode jdk_41_method_11_code 4 = .ok (.iload_n 0, 1) := by decide +kernel
theorem dd_jdk_41_method_11_5 : decode jdk_41_method_11_code 5 = .ok (.iload_n 1, 1) := by decide +kernel
theorem dd_jdk_41_method_11_6 : decode jdk_41_method_11_code 6 = .ok (.if_icmp .lt 10, 3) := by decide +kernel
theorem dd_jdk_41_method_11_16 : decode jdk_41_method_11_code 16 = .ok (.iload_n 0, 1) := by decide +kernel
theorem dd_jdk_41_method_11_17 : decode jdk_41_method_11_code 17 = .ok (.ireturn, 1) := by decide +kernel
theorem pn_13 : plainName "jdk/internal/util/Preconditions" = true := by first | (simp [plainName, overriddenIn]; done) | decide +kernel
theorem ef_own_pci (m : MethodId) (x0 : Int32) (x1 : Int32) : entryFrame m #[(.int x0), (.int x1), .null] 3 = mkF m 0 #[.val (.int x0), .val (.int x1), .val .null] [] := by first | (simp [entryFrame, mkF, argsToLocals, Value.category]; done) | rfl
set_option maxRecDepth 65536 in
set_option maxHeartbeats 40000000 in
theorem own_pci (l : Launch) (Z : State) (a0 : Array Value) (hw : ∀ d ∈ tables_1, d.before a0 Z = true) (n0 : Nat) (i n : Nat) (h0 : Heap) (O0 : Old Z n0 h0) (p_i : i < n) (p_n : n < 2 ^ 31) :
    own_Met l Z n0 (⟨"jdk/internal/util/Preconditions", "checkIndex", "(IILjava/util/function/BiFunction;)I"⟩ : MethodName) jdk_41_method_11_code 3 (some .int) ({ frames := 0, cells := 0, slots := 0, locals := 0 } : Room) #[(.int (Int32.ofNat i)), (.int (Int32.ofNat n)), .null] h0 (fun v h => v = some (.int (Int32.ofNat i)) ∧ h0 = h) := by
  refine own_enter (own := "jdk/internal/util/Preconditions") (nm := "checkIndex") (plainFor_of_name pn_13) rfl rfl O0 ?_
  have W : ∀ (k : Nat) {d : Jvm.Cond}, tables_1[k]? = some d → d.before a0 Z = true := fun k d q => hw d (List.mem_of_getElem? q)
  intro G p e s m below meth c T0 hGe X0
  rw [ef_own_pci m ((Int32.ofNat i)) ((Int32.ofNat n))]
  refine own_iload_n (pc' := 1) X0 dd_jdk_41_method_11_0 rfl rfl ?_
  refine own_ifN (pc' := 4) X0 dd_jdk_41_method_11_1 rfl ((flt (own_i32le (n := 0) (Nat.zero_le _) (by omega))).1) ?_
  refine own_iload_n (pc' := 5) X0 dd_jdk_41_method_11_4 rfl rfl ?_
  refine own_iload_n (pc' := 6) X0 dd_jdk_41_method_11_5 rfl rfl ?_
  refine own_icmpY (pc' := 16) X0 dd_jdk_41_method_11_6 ((tlt (own_i32lt p_i p_n)).1) (by decide) (by decide) ?_
  refine own_iload_n (pc' := 17) X0 dd_jdk_41_method_11_16 rfl rfl ?_
  exact own_ret X0 hGe (t := .int) rfl rfl (Or.inl ⟨rfl, by simp, _, rfl⟩) dd_jdk_41_method_11_17 (by decide) (by decide) ⟨rfl, rfl⟩
theorem dd_jdk_31_method_17_0 : decode jdk_31_method_17_code 0 = .ok (.iload_n 0, 1) := by decide +kernel
theorem dd_jdk_31_method_17_1 : decode jdk_31_method_17_code 1 = .ok (.iload_n 1, 1) := by decide +kernel
theorem dd_jdk_31_method_17_2 : decode jdk_31_method_17_code 2 = .ok (.aconst_null, 1) := by decide +kernel
theorem dd_jdk_31_method_17_3 : decode jdk_31_method_17_code 3 = .ok (.invokestatic 105, 3) := by decide +kernel
theorem pd_14 : parseMethodDescriptor "(IILjava/util/function/BiFunction;)I" = some ⟨[.int, .int, (.object "java/util/function/BiFunction")], some .int⟩ := by decide +kernel
theorem dd_jdk_31_method_17_6 : decode jdk_31_method_17_code 6 = .ok (.ireturn, 1) := by decide +kernel
theorem ef_own_oci (m : MethodId) (x0 : Int32) (x1 : Int32) : entryFrame m #[(.int x0), (.int x1)] 2 = mkF m 0 #[.val (.int x0), .val (.int x1)] [] := by first | (simp [entryFrame, mkF, argsToLocals, Value.category]; done) | rfl
set_option maxRecDepth 65536 in
set_option maxHeartbeats 40000000 in
theorem own_oci (l : Launch) (Z : State) (a0 : Array Value) (hw : ∀ d ∈ tables_1, d.before a0 Z = true) (n0 : Nat) (i n : Nat) (h0 : Heap) (O0 : Old Z n0 h0) (p_i : i < n) (p_n : n < 2 ^ 31) :
    own_Met l Z n0 (⟨"java/util/Objects", "checkIndex", "(II)I"⟩ : MethodName) jdk_31_method_17_code 2 (some .int) ({ frames := 1, cells := 0, slots := 0, locals := 14 } : Room) #[(.int (Int32.ofNat i)), (.int (Int32.ofNat n))] h0 (fun v h => v = some (.int (Int32.ofNat i)) ∧ h0 = h) := by
  refine own_enter (own := "java/util/Objects") (nm := "checkIndex") (plainFor_of_name pn_4) rfl rfl O0 ?_
  have W : ∀ (k : Nat) {d : Jvm.Cond}, tables_1[k]? = some d → d.before a0 Z = true := fun k d q => hw d (List.mem_of_getElem? q)
  intro G p e s m below meth c T0 hGe X0
  rw [ef_own_oci m ((Int32.ofNat i)) ((Int32.ofNat n))]
  refine own_iload_n (pc' := 1) X0 dd_jdk_31_method_17_0 rfl rfl ?_
  refine own_iload_n (pc' := 2) X0 dd_jdk_31_method_17_1 rfl rfl ?_
  refine own_aconst_null (pc' := 3) X0 dd_jdk_31_method_17_2 rfl ?_
  refine own_callSM (pc' := 6) (cells' := 0) (slots' := 0) (argsL := [(.int (Int32.ofNat i)), (.int (Int32.ofNat n)), .null]) (rest := []) (W := 0) (y := (⟨"jdk/internal/util/Preconditions", "checkIndex", "(IILjava/util/function/BiFunction;)I"⟩ : MethodName)) X0 (W 336 rfl) (W 337 rfl) (by decide) (own_pci l Z a0 hw n0 i n h0 (own_old X0) p_i p_n) (W 339 rfl) (W 338 rfl) (by decide) (by decide) rfl (lenOf pd_14 rfl) rfl rfl dd_jdk_31_method_17_3 rfl rfl rfl rfl (by decide) (by decide) ?_
  intro v1 T1 h1 X1 q1
  obtain ⟨rfl, rfl⟩ := q1
  show G T1 (mkF m 6 #[.val (.int (Int32.ofNat i)), .val (.int (Int32.ofNat n))] [(.int (Int32.ofNat i))])
  exact own_ret X1 hGe (t := .int) rfl rfl (Or.inl ⟨rfl, by simp, _, rfl⟩) dd_jdk_31_method_17_6 (by decide) (by decide) ⟨rfl, rfl⟩
theorem dd_jdk_38_method_18_0 : decode jdk_38_method_18_code 0 = .ok (.aload_n 0, 1) := by decide +kernel
theorem dd_jdk_38_method_18_1 : decode jdk_38_method_18_code 1 = .ok (.getfield 9, 3) := by decide +kernel
theorem dd_jdk_38_method_18_4 : decode jdk_38_method_18_code 4 = .ok (.iload_n 1, 1) := by decide +kernel
theorem dd_jdk_38_method_18_5 : decode jdk_38_method_18_code 5 = .ok (.aaload, 1) := by decide +kernel
theorem dd_jdk_38_method_18_6 : decode jdk_38_method_18_code 6 = .ok (.areturn, 1) := by decide +kernel
theorem ef_own_aed (m : MethodId) (x0 : Addr) (x1 : Int32) : entryFrame m #[(.ref x0), (.int x1)] 2 = mkF m 0 #[.val (.ref x0), .val (.int x1)] [] := by first | (simp [entryFrame, mkF, argsToLocals, Value.category]; done) | rfl
set_option maxRecDepth 65536 in
set_option maxHeartbeats 40000000 in
theorem own_aed (l : Launch) (Z : State) (a0 : Array Value) (hw : ∀ d ∈ tables_1, d.before a0 Z = true) (n0 : Nat) (a ar x : Addr) (kr : ClassId) (vs : List Value) (i n : Nat) (h0 : Heap) (O0 : Old Z n0 h0) (p_E : Exa Z h0 a "java/util/ArrayList") (p_F : Fld Z h0 a "java/util/ArrayList" "elementData" "[Ljava/lang/Object;" (.ref ar)) (p_S : Fld Z h0 a "java/util/ArrayList" "size" "I" (.int (Int32.ofNat n))) (p_A : own_Arr Z h0 ar kr (.object "java/lang/Object") vs) (p_v : vs[i]? = some (.ref x)) (p_i : i < n) (p_n : n < 2 ^ 31) :
    own_Met l Z n0 (⟨"java/util/ArrayList", "elementData", "(I)Ljava/lang/Object;"⟩ : MethodName) jdk_38_method_18_code 2 (some (.object "java/lang/Object")) ({ frames := 0, cells := 0, slots := 0, locals := 0 } : Room) #[(.ref a), (.int (Int32.ofNat i))] h0 (fun v h => v = some (.ref x) ∧ h0 = h) := by
  refine own_enter (own := "java/util/ArrayList") (nm := "elementData") (plainFor_of_name pn_2) rfl rfl O0 ?_
  have W : ∀ (k : Nat) {d : Jvm.Cond}, tables_1[k]? = some d → d.before a0 Z = true := fun k d q => hw d (List.mem_of_getElem? q)
  intro G p e s m below meth c T0 hGe X0
  rw [ef_own_aed m a ((Int32.ofNat i))]
  refine own_aload_n (pc' := 1) X0 dd_jdk_38_method_18_0 rfl rfl rfl ?_
  refine own_get (pc' := 4) X0 (host := "") (Or.inl (W 50 rfl)) Via.refl p_F dd_jdk_38_method_18_1 rfl ?_
  intro T1 X1
  refine own_iload_n (pc' := 5) X1 dd_jdk_38_method_18_4 rfl rfl ?_
  refine own_aaload (pc' := 6) (i := i) (v := (.ref x)) X1 p_A rfl (own_i32 (by omega)) p_v dd_jdk_38_method_18_5 rfl ?_
  exact own_ret X1 hGe (t := (.object "java/lang/Object")) rfl rfl (Or.inr (Or.inr (Or.inr (Or.inr ⟨rfl, rfl, rfl⟩)))) dd_jdk_38_method_18_6 (by decide) (by decide) ⟨rfl, rfl⟩
theorem dd_jdk_38_method_20_0 : decode jdk_38_method_20_code 0 = .ok (.iload_n 1, 1) := by decide +kernel
theorem dd_jdk_38_method_20_1 : decode jdk_38_method_20_code 1 = .ok (.aload_n 0, 1) := by decide +kernel
theorem dd_jdk_38_method_20_2 : decode jdk_38_method_20_code 2 = .ok (.getfield 48, 3) := by decide +kernel
theorem dd_jdk_38_method_20_5 : decode jdk_38_method_20_code 5 = .ok (.invokestatic 118, 3) := by decide +kernel
theorem dd_jdk_38_method_20_8 : decode jdk_38_method_20_code 8 = .ok (.pop, 1) := by decide +kernel
theorem dd_jdk_38_method_20_9 : decode jdk_38_method_20_code 9 = .ok (.aload_n 0, 1) := by decide +kernel
theorem dd_jdk_38_method_20_10 : decode jdk_38_method_20_code 10 = .ok (.iload_n 1, 1) := by decide +kernel
theorem dd_jdk_38_method_20_11 : decode jdk_38_method_20_code 11 = .ok (.invokevirtual 123, 3) := by decide +kernel
theorem pd_15 : parseMethodDescriptor "(I)Ljava/lang/Object;" = some ⟨[.int], some (.object "java/lang/Object")⟩ := by decide +kernel
theorem dd_jdk_38_method_20_14 : decode jdk_38_method_20_code 14 = .ok (.areturn, 1) := by decide +kernel
theorem ef_own_alg (m : MethodId) (x0 : Addr) (x1 : Int32) : entryFrame m #[(.ref x0), (.int x1)] 2 = mkF m 0 #[.val (.ref x0), .val (.int x1)] [] := by first | (simp [entryFrame, mkF, argsToLocals, Value.category]; done) | rfl
set_option maxRecDepth 65536 in
set_option maxHeartbeats 40000000 in
theorem own_alg (l : Launch) (Z : State) (a0 : Array Value) (hw : ∀ d ∈ tables_1, d.before a0 Z = true) (n0 : Nat) (a ar x : Addr) (kr : ClassId) (vs : List Value) (i n : Nat) (h0 : Heap) (O0 : Old Z n0 h0) (p_E : Exa Z h0 a "java/util/ArrayList") (p_F : Fld Z h0 a "java/util/ArrayList" "elementData" "[Ljava/lang/Object;" (.ref ar)) (p_S : Fld Z h0 a "java/util/ArrayList" "size" "I" (.int (Int32.ofNat n))) (p_A : own_Arr Z h0 ar kr (.object "java/lang/Object") vs) (p_v : vs[i]? = some (.ref x)) (p_i : i < n) (p_n : n < 2 ^ 31) :
    own_Met l Z n0 (⟨"java/util/ArrayList", "get", "(I)Ljava/lang/Object;"⟩ : MethodName) jdk_38_method_20_code 2 (some (.object "java/lang/Object")) ({ frames := 2, cells := 0, slots := 0, locals := 27 } : Room) #[(.ref a), (.int (Int32.ofNat i))] h0 (fun v h => v = some (.ref x) ∧ h0 = h) := by
  refine own_enter (own := "java/util/ArrayList") (nm := "get") (plainFor_of_name pn_2) rfl rfl O0 ?_
  have W : ∀ (k : Nat) {d : Jvm.Cond}, tables_1[k]? = some d → d.before a0 Z = true := fun k d q => hw d (List.mem_of_getElem? q)
  intro G p e s m below meth c T0 hGe X0
  rw [ef_own_alg m a ((Int32.ofNat i))]
  refine own_iload_n (pc' := 1) X0 dd_jdk_38_method_20_0 rfl rfl ?_
  refine own_aload_n (pc' := 2) X0 dd_jdk_38_method_20_1 rfl rfl rfl ?_
  refine own_get (pc' := 5) X0 (host := "") (Or.inl (W 63 rfl)) Via.refl p_S dd_jdk_38_method_20_2 rfl ?_
  intro T1 X1
  refine own_callSM (pc' := 8) (cells' := 0) (slots' := 0) (argsL := [(.int (Int32.ofNat i)), (.int (Int32.ofNat n))]) (rest := []) (W := 0) (y := (⟨"java/util/Objects", "checkIndex", "(II)I"⟩ : MethodName)) X1 (W 333 rfl) (W 334 rfl) (by decide) (own_oci l Z a0 hw n0 i n h0 (own_old X1) p_i p_n) (W 335 rfl) (W 19 rfl) (by decide) (by decide) rfl (lenOf pd_1 rfl) rfl rfl dd_jdk_38_method_20_5 rfl rfl rfl rfl (by decide) (by decide) ?_
  intro v2 T2 h2 X2 q2
  obtain ⟨rfl, rfl⟩ := q2
  show G T2 (mkF m 8 #[.val (.ref a), .val (.int (Int32.ofNat i))] [(.int (Int32.ofNat i))])
  refine own_pop (pc' := 9) X2 dd_jdk_38_method_20_8 rfl rfl ?_
  refine own_aload_n (pc' := 10) X2 dd_jdk_38_method_20_9 rfl rfl rfl ?_
  refine own_iload_n (pc' := 11) X2 dd_jdk_38_method_20_10 rfl rfl ?_
  refine own_callVM (pc' := 14) (cells' := 0) (slots' := 0) (argsL := [(.int (Int32.ofNat i))]) (rest := []) (W := 0) (y := (⟨"java/util/ArrayList", "elementData", "(I)Ljava/lang/Object;"⟩ : MethodName)) (z := (⟨"java/util/ArrayList", "elementData", "(I)Ljava/lang/Object;"⟩ : MethodName)) (a := a) X2 (W 340 rfl) (W 341 rfl) (fun s' hZ' => notFace_of_selects (args := #[]) (mvT hZ' (W 343 rfl))) (W 343 rfl) (W 342 rfl) (by decide) p_E (own_aed l Z a0 hw n0 a ar x kr vs i n h0 (own_old X2) p_E p_F p_S p_A p_v p_i p_n) (W 344 rfl) (W 30 rfl) (by decide) (by decide) rfl (lenOf pd_15 rfl) rfl rfl dd_jdk_38_method_20_11 rfl rfl rfl rfl (by decide) (by decide) ?_
  intro v3 T3 h3 X3 q3
  obtain ⟨rfl, rfl⟩ := q3
  show G T3 (mkF m 14 #[.val (.ref a), .val (.int (Int32.ofNat i))] [(.ref x)])
  exact own_ret X3 hGe (t := (.object "java/lang/Object")) rfl rfl (Or.inr (Or.inr (Or.inr (Or.inr ⟨rfl, rfl, rfl⟩)))) dd_jdk_38_method_20_14 (by decide) (by decide) ⟨rfl, rfl⟩
theorem dd_jdk_38_method_1_0 : decode jdk_38_method_1_code 0 = .ok (.aload_n 0, 1) := by decide +kernel
theorem dd_jdk_38_method_1_1 : decode jdk_38_method_1_code 1 = .ok (.invokespecial 1, 3) := by decide +kernel
theorem dd_jdk_38_method_1_4 : decode jdk_38_method_1_code 4 = .ok (.iload_n 1, 1) := by decide +kernel
theorem dd_jdk_38_method_1_5 : decode jdk_38_method_1_code 5 = .ok (.ifCond .le 14, 3) := by decide +kernel
theorem dd_jdk_38_method_1_8 : decode jdk_38_method_1_code 8 = .ok (.aload_n 0, 1) := by decide +kernel
theorem dd_jdk_38_method_1_9 : decode jdk_38_method_1_code 9 = .ok (.iload_n 1, 1) := by decide +kernel
theorem dd_jdk_38_method_1_10 : decode jdk_38_method_1_code 10 = .ok (.anewarray 7, 3) := by decide +kernel
theorem dd_jdk_38_method_1_13 : decode jdk_38_method_1_code 13 = .ok (.putfield 9, 3) := by decide +kernel
theorem dd_jdk_38_method_1_16 : decode jdk_38_method_1_code 16 = .ok (.goto 44, 3) := by decide +kernel
theorem dd_jdk_38_method_1_60 : decode jdk_38_method_1_code 60 = .ok (.return_, 1) := by decide +kernel
theorem ef_own_alin (m : MethodId) (x0 : Addr) (x1 : Int32) : entryFrame m #[(.ref x0), (.int x1)] 2 = mkF m 0 #[.val (.ref x0), .val (.int x1)] [] := by first | (simp [entryFrame, mkF, argsToLocals, Value.category]; done) | rfl
set_option maxRecDepth 65536 in
set_option maxHeartbeats 40000000 in
theorem own_alin (l : Launch) (Z : State) (a0 : Array Value) (hw : ∀ d ∈ tables_1, d.before a0 Z = true) (n0 : Nat) (a : Addr) (n : Nat) (h0 : Heap) (O0 : Old Z n0 h0) (n_a : n0 ≤ a) (p_L : (Exa Z h0 a "java/util/ArrayList" ∧ Fld Z h0 a "java/util/ArrayList" "elementData" "[Ljava/lang/Object;" .null ∧ Fld Z h0 a "java/util/ArrayList" "size" "I" (.int 0) ∧ Fld Z h0 a "java/util/AbstractList" "modCount" "I" (.int 0))) (p_1 : 0 < n) (p_6 : n ≤ 6) :
    own_Met l Z n0 (⟨"java/util/ArrayList", "<init>", "(I)V"⟩ : MethodName) jdk_38_method_1_code 2 none ({ frames := 3, cells := 1, slots := 6, locals := 36 } : Room) #[(.ref a), (.int (Int32.ofNat n))] h0 (fun v h => v = none ∧ ∃ (e : Addr) (k : ClassId), Keep h0 h [a] ∧ h0.size ≤ e ∧ (Exa Z h a "java/util/ArrayList" ∧ Fld Z h a "java/util/ArrayList" "elementData" "[Ljava/lang/Object;" (.ref e) ∧ Fld Z h a "java/util/ArrayList" "size" "I" (.int 0) ∧ Fld Z h a "java/util/AbstractList" "modCount" "I" (.int 0)) ∧ own_Arr Z h e k (.object "java/lang/Object") (List.replicate n Value.null) ∧ Exa Z h e "[Ljava/lang/Object;" ∧ Ovr Z k "java/lang/Object") := by
  refine own_enter (own := "java/util/ArrayList") (nm := "<init>") (plainFor_of_name pn_2) rfl rfl O0 ?_
  have W : ∀ (k : Nat) {d : Jvm.Cond}, tables_1[k]? = some d → d.before a0 Z = true := fun k d q => hw d (List.mem_of_getElem? q)
  intro G p e s m below meth c T0 hGe X0
  rw [ef_own_alin m a ((Int32.ofNat n))]
  refine own_aload_n (pc' := 1) X0 dd_jdk_38_method_1_0 rfl rfl rfl ?_
  refine own_callIM (pc' := 4) (cells' := 0) (slots' := 0) (argsL := []) (rest := []) (W := 0) (y := (⟨"java/util/AbstractList", "<init>", "()V"⟩ : MethodName)) (a := a) X0 (W 34 rfl) (W 35 rfl) rfl (by decide) (own_abi l Z a0 hw n0 a h0 (own_old X0) n_a p_L) (W 39 rfl) (W 38 rfl) (by decide) (by decide) rfl (lenOf pd_0 rfl) rfl rfl dd_jdk_38_method_1_1 rfl rfl rfl rfl (by decide) (by decide) ?_
  intro v1 T1 h1 X1 q1
  obtain ⟨rfl, K1, P1⟩ := q1
  show G T1 (mkF m 4 #[.val (.ref a), .val (.int (Int32.ofNat n))] [])
  refine own_iload_n (pc' := 5) X1 dd_jdk_38_method_1_4 rfl rfl ?_
  refine own_ifN (pc' := 8) X1 dd_jdk_38_method_1_5 rfl ((tlt (own_i32lt (i := 0) p_1 (by omega))).2.2.2) ?_
  refine own_aload_n (pc' := 9) X1 dd_jdk_38_method_1_8 rfl rfl rfl ?_
  refine own_iload_n (pc' := 10) X1 dd_jdk_38_method_1_9 rfl rfl ?_
  refine own_anewR (pc' := 13) (cells' := 1) (slots' := 6) (n := n) (cap := 6) (ad := "[Ljava/lang/Object;") X1 (W 84 rfl) (W 26 rfl) (by decide) (own_i32 (by omega)) (by omega) dd_jdk_38_method_1_10 rfl rfl (by omega) (by decide) rfl (by decide) (by decide) ?_
  intro T2 h2 a2 k2 g2 X2 K2 A2 E2 V2
  have n_a2 : n0 ≤ a2 := by rw [g2]; exact own_n0 X1
  have f3 := (P1.2.1.keep K2 nin0)
  have f4 := (P1.1.keep K2)
  refine own_put (pc' := 16) X2 (host := "") (Or.inl (W 50 rfl)) Via.refl f3 f4 (Or.inl (W 51 rfl)) (W 29 rfl) (ty := (.array (.object "java/lang/Object"))) (by decide) rfl rfl n_a dd_jdk_38_method_1_13 rfl ?_
  intro T5 h5 X5 W5 K5
  have f5_ := f3.same W5
  refine own_goto (pc' := 60) X5 dd_jdk_38_method_1_16 (by decide) (by decide) ?_
  have age_a2 : h0.size ≤ a2 := Nat.le_trans (Nat.le_trans K1.1 (Nat.le_refl _)) (Nat.le_of_eq (Eq.symm g2))
  have f6 := (f4.keep K5)
  have f7 := ((P1.2.2.1.keep K2 nin0).other W5 (Or.inr (slot_ne (Or.inl (W 64 rfl)) (Or.inl (W 51 rfl)) (by decide) (t := .int) (t' := (.array (.object "java/lang/Object"))) (by decide) (by decide))))
  have f8 := ((P1.2.2.2.keep K2 nin0).other W5 (Or.inr (slot_ne (Or.inl (W 48 rfl)) (Or.inl (W 51 rfl)) (by decide) (t := .int) (t' := (.array (.object "java/lang/Object"))) (by decide) (by decide))))
  have ne_a_a2 : a ≠ a2 := own_ne p_L.1.lt (Nat.le_trans K1.1 (Nat.le_refl _)) (Nat.le_of_eq (Eq.symm g2))
  have f9 := (A2.keep K5 (ninS (Ne.symm ne_a_a2) nin0))
  have f10 := (E2.keep K5)
  exact own_retV X5 hGe rfl dd_jdk_38_method_1_60 (by decide) (by decide) ⟨rfl, a2, _, ((((Keep.refl h0 [a]).trans K1 (allS (Or.inl (List.mem_of_getElem? (i := 0) rfl)) all0)).trans K2 all0).trans K5 (allS (Or.inl (List.mem_of_getElem? (i := 0) rfl)) all0)), age_a2, ⟨f6, f5_, f7, f8⟩, f9, f10, V2⟩
theorem dd_jdk_38_method_41_0 : decode jdk_38_method_41_code 0 = .ok (.aload_n 1, 1) := by decide +kernel
theorem dd_jdk_38_method_41_1 : decode jdk_38_method_41_code 1 = .ok (.invokeinterface 42 1, 5) := by decide +kernel
theorem dd_jdk_38_method_41_6 : decode jdk_38_method_41_code 6 = .ok (.astore_n 2, 1) := by decide +kernel
theorem dd_jdk_38_method_41_7 : decode jdk_38_method_41_code 7 = .ok (.aload_n 0, 1) := by decide +kernel
theorem dd_jdk_38_method_41_8 : decode jdk_38_method_41_code 8 = .ok (.dup, 1) := by decide +kernel
theorem dd_jdk_38_method_41_9 : decode jdk_38_method_41_code 9 = .ok (.getfield 63, 3) := by decide +kernel
theorem dd_jdk_38_method_41_12 : decode jdk_38_method_41_code 12 = .ok (.iconst 1, 1) := by decide +kernel
theorem dd_jdk_38_method_41_13 : decode jdk_38_method_41_code 13 = .ok (.iadd, 1) := by decide +kernel
theorem dd_jdk_38_method_41_14 : decode jdk_38_method_41_code 14 = .ok (.putfield 63, 3) := by decide +kernel
theorem dd_jdk_38_method_41_17 : decode jdk_38_method_41_code 17 = .ok (.aload_n 2, 1) := by decide +kernel
theorem dd_jdk_38_method_41_18 : decode jdk_38_method_41_code 18 = .ok (.arraylength, 1) := by decide +kernel
theorem dd_jdk_38_method_41_19 : decode jdk_38_method_41_code 19 = .ok (.istore_n 3, 1) := by decide +kernel
theorem dd_jdk_38_method_41_20 : decode jdk_38_method_41_code 20 = .ok (.iload_n 3, 1) := by decide +kernel
theorem dd_jdk_38_method_41_21 : decode jdk_38_method_41_code 21 = .ok (.ifCond .ne 5, 3) := by decide +kernel
theorem dd_jdk_38_method_41_24 : decode jdk_38_method_41_code 24 = .ok (.iconst 0, 1) := by decide +kernel
theorem dd_jdk_38_method_41_25 : decode jdk_38_method_41_code 25 = .ok (.ireturn, 1) := by decide +kernel
theorem dd_jdk_38_method_41_26 : decode jdk_38_method_41_code 26 = .ok (.iload_n 3, 1) := by decide +kernel
theorem dd_jdk_38_method_41_27 : decode jdk_38_method_41_code 27 = .ok (.aload_n 0, 1) := by decide +kernel
theorem dd_jdk_38_method_41_28 : decode jdk_38_method_41_code 28 = .ok (.getfield 9, 3) := by decide +kernel
theorem dd_jdk_38_method_41_31 : decode jdk_38_method_41_code 31 = .ok (.dup, 1) := by decide +kernel
theorem dd_jdk_38_method_41_32 : decode jdk_38_method_41_code 32 = .ok (.astore 4, 2) := by decide +kernel
theorem dd_jdk_38_method_41_34 : decode jdk_38_method_41_code 34 = .ok (.arraylength, 1) := by decide +kernel
theorem dd_jdk_38_method_41_35 : decode jdk_38_method_41_code 35 = .ok (.aload_n 0, 1) := by decide +kernel
theorem dd_jdk_38_method_41_36 : decode jdk_38_method_41_code 36 = .ok (.getfield 48, 3) := by decide +kernel
theorem dd_jdk_38_method_41_39 : decode jdk_38_method_41_code 39 = .ok (.dup, 1) := by decide +kernel
theorem dd_jdk_38_method_41_40 : decode jdk_38_method_41_code 40 = .ok (.istore 5, 2) := by decide +kernel
theorem dd_jdk_38_method_41_42 : decode jdk_38_method_41_code 42 = .ok (.isub, 1) := by decide +kernel
theorem dd_jdk_38_method_41_43 : decode jdk_38_method_41_code 43 = .ok (.if_icmp .le 13, 3) := by decide +kernel
theorem dd_jdk_38_method_41_56 : decode jdk_38_method_41_code 56 = .ok (.aload_n 2, 1) := by decide +kernel
theorem dd_jdk_38_method_41_57 : decode jdk_38_method_41_code 57 = .ok (.iconst 0, 1) := by decide +kernel
theorem dd_jdk_38_method_41_58 : decode jdk_38_method_41_code 58 = .ok (.aload 4, 2) := by decide +kernel
theorem dd_jdk_38_method_41_60 : decode jdk_38_method_41_code 60 = .ok (.iload 5, 2) := by decide +kernel
theorem dd_jdk_38_method_41_62 : decode jdk_38_method_41_code 62 = .ok (.iload_n 3, 1) := by decide +kernel
theorem dd_jdk_38_method_41_63 : decode jdk_38_method_41_code 63 = .ok (.invokestatic 112, 3) := by decide +kernel
theorem dd_jdk_38_method_41_66 : decode jdk_38_method_41_code 66 = .ok (.aload_n 0, 1) := by decide +kernel
theorem dd_jdk_38_method_41_67 : decode jdk_38_method_41_code 67 = .ok (.iload 5, 2) := by decide +kernel
theorem dd_jdk_38_method_41_69 : decode jdk_38_method_41_code 69 = .ok (.iload_n 3, 1) := by decide +kernel
theorem dd_jdk_38_method_41_70 : decode jdk_38_method_41_code 70 = .ok (.iadd, 1) := by decide +kernel
theorem dd_jdk_38_method_41_71 : decode jdk_38_method_41_code 71 = .ok (.putfield 48, 3) := by decide +kernel
theorem dd_jdk_38_method_41_74 : decode jdk_38_method_41_code 74 = .ok (.iconst 1, 1) := by decide +kernel
theorem dd_jdk_38_method_41_75 : decode jdk_38_method_41_code 75 = .ok (.ireturn, 1) := by decide +kernel
theorem ef_own_aal (m : MethodId) (x0 : Addr) (x1 : Addr) : entryFrame m #[(.ref x0), (.ref x1)] 6 = mkF m 0 #[.val (.ref x0), .val (.ref x1), .unset, .unset, .unset, .unset] [] := by first | (simp [entryFrame, mkF, argsToLocals, Value.category]; done) | rfl
set_option maxRecDepth 65536 in
set_option maxHeartbeats 40000000 in
theorem own_aal (l : Launch) (Z : State) (a0 : Array Value) (hw : ∀ d ∈ tables_1, d.before a0 Z = true) (n0 : Nat) (a ar : Addr) (kr : ClassId) (mc : Int32) (sz : Nat) (vs : List Value) (c0 em ea ey mr : Addr) (xs : List Addr) (h0 : Heap) (O0 : Old Z n0 h0) (n_a : n0 ≤ a) (n_ar : n0 ≤ ar) (p_M : (Exa Z h0 a "java/util/ArrayList" ∧ Fld Z h0 a "java/util/ArrayList" "elementData" "[Ljava/lang/Object;" (.ref ar) ∧ Fld Z h0 a "java/util/ArrayList" "size" "I" (.int (Int32.ofNat sz)) ∧ Fld Z h0 a "java/util/AbstractList" "modCount" "I" (.int mc))) (p_R : own_Arr Z h0 ar kr (.object "java/lang/Object") vs) (V : Ovr Z kr "java/lang/Object") (p_ne : a ≠ ar) (p_I : own_IL Z h0 em ey c0 xs) (EM : own_EMP Z em ea) (EY : own_MTY Z ey) (p_Q0 : Exa Z Z.heap ea "[Ljava/lang/Object;") (MR : own_Mir Z "[Ljava/lang/Object;" mr) (hE : ∀ x ∈ xs, Exa Z h0 x "java/util/KeyValueHolder") (p_6 : vs.length ≤ 6) (p_z : sz + xs.length ≤ vs.length) :
    own_Met l Z n0 (⟨"java/util/ArrayList", "addAll", "(Ljava/util/Collection;)Z"⟩ : MethodName) jdk_38_method_41_code 6 (some .boolean) ({ frames := 4, cells := 1, slots := 3, locals := 60 } : Room) #[(.ref a), (.ref c0)] h0 (fun v h => ∃ z : Int32, v = some (.int z) ∧ Keep h0 h [a, ar] ∧ (∃ mc, (Exa Z h a "java/util/ArrayList" ∧ Fld Z h a "java/util/ArrayList" "elementData" "[Ljava/lang/Object;" (.ref ar) ∧ Fld Z h a "java/util/ArrayList" "size" "I" (.int (Int32.ofNat (sz + xs.length))) ∧ Fld Z h a "java/util/AbstractList" "modCount" "I" (.int mc))) ∧ own_Arr Z h ar kr (.object "java/lang/Object") (vs.take sz ++ xs.map Value.ref ++ vs.drop (sz + xs.length))) := by
  refine own_enter (own := "java/util/ArrayList") (nm := "addAll") (plainFor_of_name pn_2) rfl rfl O0 ?_
  have W : ∀ (k : Nat) {d : Jvm.Cond}, tables_1[k]? = some d → d.before a0 Z = true := fun k d q => hw d (List.mem_of_getElem? q)
  intro G p e s m below meth c T0 hGe X0
  rw [ef_own_aal m a c0]
  refine own_aload_n (pc' := 1) X0 dd_jdk_38_method_41_0 rfl rfl rfl ?_
  refine own_callIC (pc' := 6) (cells' := 1) (slots' := 3) (argsL := []) (rest := []) (W := 0) (y := (⟨"java/util/Collection", "toArray", "()[Ljava/lang/Object;"⟩ : MethodName)) (a := c0) X0 (W 355 rfl) (W 175 rfl) (fun s' a' hZ' => mvT hZ' (W 176 rfl)) (by decide) (own_il_arr l Z a0 hw n0 c0 em ea ey xs mr h0 (own_old X0) p_I EM EY p_Q0 MR hE) (by decide) (by decide) rfl (lenOf pd_11 rfl) rfl rfl dd_jdk_38_method_41_1 rfl rfl rfl rfl (by decide) (by decide) ?_
  intro v1 T1 h1 X1 q1
  obtain ⟨d1, k1, rfl, K1, z1, A1, E1⟩ := q1
  show G T1 (mkF m 6 #[.val (.ref a), .val (.ref c0), .unset, .unset, .unset, .unset] [(.ref d1)])
  refine own_astore_n (pc' := 7) X1 dd_jdk_38_method_41_6 rfl rfl (Ls' := #[.val (.ref a), .val (.ref c0), .val (.ref d1), .unset, .unset, .unset]) rfl ?_
  refine own_aload_n (pc' := 8) X1 dd_jdk_38_method_41_7 rfl rfl rfl ?_
  refine own_dup (pc' := 9) X1 dd_jdk_38_method_41_8 rfl rfl ?_
  have f2 := (p_M.2.2.2.keep K1 nin0)
  refine own_get (pc' := 12) X1 (host := "") (Or.inl (W 61 rfl)) (Via.of (W 62 rfl)) f2 dd_jdk_38_method_41_9 rfl ?_
  intro T3 X3
  refine own_iconst (pc' := 13) X3 dd_jdk_38_method_41_12 rfl (z := (1 : Int32)) (by decide) ?_
  refine own_iadd (pc' := 14) X3 dd_jdk_38_method_41_13 rfl (r := (mc + (1 : Int32))) rfl ?_
  have f4 := (p_M.1.keep K1)
  refine own_put (pc' := 17) X3 (host := "") (Or.inl (W 61 rfl)) (Via.of (W 62 rfl)) f2 f4 (Or.inl (W 48 rfl)) (W 29 rfl) (ty := .int) (by decide) rfl rfl n_a dd_jdk_38_method_41_14 rfl ?_
  intro T5 h5 X5 W5 K5
  have f5_ := f2.same W5
  refine own_aload_n (pc' := 18) X5 dd_jdk_38_method_41_17 rfl rfl rfl ?_
  have ne_a_d1 : a ≠ d1 := own_ne p_M.1.lt (Nat.le_refl _) z1
  have f6 := (A1.keep K5 (ninS (Ne.symm ne_a_d1) nin0))
  refine own_arraylength (pc' := 19) (z := (Int32.ofNat xs.length)) X5 f6 (by rw [List.length_map]) dd_jdk_38_method_41_18 rfl ?_
  refine own_istore_n (pc' := 20) X5 dd_jdk_38_method_41_19 rfl (Ls' := #[.val (.ref a), .val (.ref c0), .val (.ref d1), .val (.int (Int32.ofNat xs.length)), .unset, .unset]) rfl ?_
  refine own_iload_n (pc' := 21) X5 dd_jdk_38_method_41_20 rfl rfl ?_
  by_cases hx : xs.length = 0
  · have e_ : xs = [] := List.eq_nil_of_length_eq_zero hx
    refine own_ifN (pc' := 24) X5 dd_jdk_38_method_41_21 rfl ((teq ((own_i32z (by omega)).mpr hx)).2) ?_
    refine own_iconst (pc' := 25) X5 dd_jdk_38_method_41_24 rfl (z := (0 : Int32)) (by decide) ?_
    have f7 := (f4.keep K5)
    have f8 := ((p_M.2.1.keep K1 nin0).other W5 (Or.inr (slot_ne (Or.inl (W 51 rfl)) (Or.inl (W 48 rfl)) (by decide) (t := (.array (.object "java/lang/Object"))) (t' := .int) (by decide) (by decide))))
    have f9 := ((p_M.2.2.1.keep K1 nin0).other W5 (Or.inr (slot_ne (Or.inl (W 64 rfl)) (Or.inl (W 48 rfl)) (by decide) (t := .int) (t' := .int) (by decide) (by decide))))
    have f10 := ((p_R.keep K1 nin0).keep K5 (ninS (Ne.symm p_ne) nin0))
    exact own_ret X5 hGe (t := .boolean) rfl rfl (Or.inl ⟨rfl, by simp, _, rfl⟩) dd_jdk_38_method_41_25 (by decide) (by decide) ⟨_, rfl, (((Keep.refl h0 [a, ar]).trans K1 all0).trans K5 (allS (Or.inl (List.mem_of_getElem? (i := 0) rfl)) all0)), ⟨_, by rw [hx]; exact ⟨f7, f8, f9, f5_⟩⟩, by rw [e_]; simpa using f10⟩
  · refine own_ifY (pc' := 26) X5 dd_jdk_38_method_41_21 ((feq (fun q => hx ((own_i32z (by omega)).mp q))).2) (by decide) (by decide) ?_
    refine own_iload_n (pc' := 27) X5 dd_jdk_38_method_41_26 rfl rfl ?_
    refine own_aload_n (pc' := 28) X5 dd_jdk_38_method_41_27 rfl rfl rfl ?_
    have f11 := ((p_M.2.1.keep K1 nin0).other W5 (Or.inr (slot_ne (Or.inl (W 51 rfl)) (Or.inl (W 48 rfl)) (by decide) (t := (.array (.object "java/lang/Object"))) (t' := .int) (by decide) (by decide))))
    refine own_get (pc' := 31) X5 (host := "") (Or.inl (W 50 rfl)) Via.refl f11 dd_jdk_38_method_41_28 rfl ?_
    intro T12 X12
    refine own_dup (pc' := 32) X12 dd_jdk_38_method_41_31 rfl rfl ?_
    refine own_astore (pc' := 34) X12 dd_jdk_38_method_41_32 rfl rfl (Ls' := #[.val (.ref a), .val (.ref c0), .val (.ref d1), .val (.int (Int32.ofNat xs.length)), .val (.ref ar), .unset]) rfl ?_
    have f13 := ((p_R.keep K1 nin0).keep K5 (ninS (Ne.symm p_ne) nin0))
    refine own_arraylength (pc' := 35) (z := (Int32.ofNat vs.length)) X12 f13 rfl dd_jdk_38_method_41_34 rfl ?_
    refine own_aload_n (pc' := 36) X12 dd_jdk_38_method_41_35 rfl rfl rfl ?_
    have f14 := ((p_M.2.2.1.keep K1 nin0).other W5 (Or.inr (slot_ne (Or.inl (W 64 rfl)) (Or.inl (W 48 rfl)) (by decide) (t := .int) (t' := .int) (by decide) (by decide))))
    refine own_get (pc' := 39) X12 (host := "") (Or.inl (W 63 rfl)) Via.refl f14 dd_jdk_38_method_41_36 rfl ?_
    intro T15 X15
    refine own_dup (pc' := 40) X15 dd_jdk_38_method_41_39 rfl rfl ?_
    refine own_istore (pc' := 42) X15 dd_jdk_38_method_41_40 rfl (Ls' := #[.val (.ref a), .val (.ref c0), .val (.ref d1), .val (.int (Int32.ofNat xs.length)), .val (.ref ar), .val (.int (Int32.ofNat sz))]) rfl ?_
    refine own_isub (pc' := 43) X15 dd_jdk_38_method_41_42 rfl (r := (Int32.ofNat (vs.length - sz))) (own_i32sub (by omega) (by omega)) ?_
    refine own_icmpY (pc' := 56) X15 dd_jdk_38_method_41_43 ((flt (own_i32le (by omega) (by omega))).2.2.2) (by decide) (by decide) ?_
    refine own_aload_n (pc' := 57) X15 dd_jdk_38_method_41_56 rfl rfl rfl ?_
    refine own_iconst (pc' := 58) X15 dd_jdk_38_method_41_57 rfl (z := (0 : Int32)) (by decide) ?_
    refine own_aload (pc' := 60) X15 dd_jdk_38_method_41_58 rfl rfl rfl ?_
    refine own_iload (pc' := 62) X15 dd_jdk_38_method_41_60 rfl rfl ?_
    refine own_iload_n (pc' := 63) X15 dd_jdk_38_method_41_62 rfl rfl ?_
    have hO : ∀ x ∈ xs, own_Ob a0 Z h5 x := fun x q => ⟨_, (hE x q).keep (((Keep.refl h0 [a, ar]).trans K1 all0).trans K5 (allS (Or.inl (List.mem_of_getElem? (i := 0) rfl)) all0)), (W 27 rfl)⟩
    refine own_arraycopy (pc' := 66) (W := 0) (sp := 0) (dp := sz) (n := xs.length) X15 (W 362 rfl) (W 203 rfl) (W 201 rfl) (W 202 rfl) f6 f13 (Or.inr ⟨rfl, rfl, by rw [List.drop_zero, show xs.length = (xs.map Value.ref).length by simp, List.take_length]; exact own_stoL f13 V xs hO⟩) (by decide) (own_i32 (by omega)) (own_i32 (by omega)) (by simp) p_z n_ar rfl rfl dd_jdk_38_method_41_63 rfl (by decide) (by decide) ?_
    intro T16 h16 X16 K16 A16
    have A16' : own_Arr Z h16 ar kr (.object "java/lang/Object") (vs.take sz ++ xs.map Value.ref ++ vs.drop (sz + xs.length)) := by have q := A16; rwa [List.drop_zero, show (xs.map Value.ref).take xs.length = xs.map Value.ref from List.take_of_length_le (by simp)] at q
    refine own_aload_n (pc' := 67) X16 dd_jdk_38_method_41_66 rfl rfl rfl ?_
    refine own_iload (pc' := 69) X16 dd_jdk_38_method_41_67 rfl rfl ?_
    refine own_iload_n (pc' := 70) X16 dd_jdk_38_method_41_69 rfl rfl ?_
    refine own_iadd (pc' := 71) X16 dd_jdk_38_method_41_70 rfl (r := (Int32.ofNat (sz + xs.length))) (own_i32add (by omega)) ?_
    have f17 := (f14.keep K16 (ninS p_ne nin0))
    have f18 := ((f4.keep K5).keep K16)
    refine own_put (pc' := 74) X16 (host := "") (Or.inl (W 63 rfl)) Via.refl f17 f18 (Or.inl (W 64 rfl)) (W 29 rfl) (ty := .int) (by decide) rfl rfl n_a dd_jdk_38_method_41_71 rfl ?_
    intro T19 h19 X19 W19 K19
    have f19_ := f17.same W19
    refine own_iconst (pc' := 75) X19 dd_jdk_38_method_41_74 rfl (z := (1 : Int32)) (by decide) ?_
    have f20 := (f18.keep K19)
    have f21 := ((f11.keep K16 (ninS p_ne nin0)).other W19 (Or.inr (slot_ne (Or.inl (W 51 rfl)) (Or.inl (W 64 rfl)) (by decide) (t := (.array (.object "java/lang/Object"))) (t' := .int) (by decide) (by decide))))
    have f22 := ((f5_.keep K16 (ninS p_ne nin0)).other W19 (Or.inr (slot_ne (Or.inl (W 48 rfl)) (Or.inl (W 64 rfl)) (by decide) (t := .int) (t' := .int) (by decide) (by decide))))
    have f23 := (A16'.keep K19 (ninS (Ne.symm p_ne) nin0))
    exact own_ret X19 hGe (t := .boolean) rfl rfl (Or.inl ⟨rfl, by simp, _, rfl⟩) dd_jdk_38_method_41_75 (by decide) (by decide) ⟨_, rfl, (((((Keep.refl h0 [a, ar]).trans K1 all0).trans K5 (allS (Or.inl (List.mem_of_getElem? (i := 0) rfl)) all0)).trans K16 (allS (Or.inl (List.mem_of_getElem? (i := 1) rfl)) all0)).trans K19 (allS (Or.inl (List.mem_of_getElem? (i := 0) rfl)) all0)), ⟨_, ⟨f20, f21, f19_, f22⟩⟩, f23⟩
theorem dd_jdk_119_method_1_0 : decode jdk_119_method_1_code 0 = .ok (.aload_n 0, 1) := by decide +kernel
theorem dd_jdk_119_method_1_1 : decode jdk_119_method_1_code 1 = .ok (.invokespecial 1, 3) := by decide +kernel
theorem dd_jdk_119_method_1_4 : decode jdk_119_method_1_code 4 = .ok (.aload_n 1, 1) := by decide +kernel
theorem dd_jdk_119_method_1_5 : decode jdk_119_method_1_code 5 = .ok (.ifnonnull 11, 3) := by decide +kernel
theorem dd_jdk_119_method_1_16 : decode jdk_119_method_1_code 16 = .ok (.aload_n 0, 1) := by decide +kernel
theorem dd_jdk_119_method_1_17 : decode jdk_119_method_1_code 17 = .ok (.aload_n 1, 1) := by decide +kernel
theorem dd_jdk_119_method_1_18 : decode jdk_119_method_1_code 18 = .ok (.putfield 10, 3) := by decide +kernel
theorem dd_jdk_119_method_1_21 : decode jdk_119_method_1_code 21 = .ok (.return_, 1) := by decide +kernel
theorem pn_14 : plainName "java/util/Collections$UnmodifiableCollection" = true := by first | (simp [plainName, overriddenIn]; done) | decide +kernel
theorem ef_own_uci (m : MethodId) (x0 : Addr) (x1 : Addr) : entryFrame m #[(.ref x0), (.ref x1)] 2 = mkF m 0 #[.val (.ref x0), .val (.ref x1)] [] := by first | (simp [entryFrame, mkF, argsToLocals, Value.category]; done) | rfl
set_option maxRecDepth 65536 in
set_option maxHeartbeats 40000000 in
theorem own_uci (l : Launch) (Z : State) (a0 : Array Value) (hw : ∀ d ∈ tables_1, d.before a0 Z = true) (n0 : Nat) (a x : Addr) (h0 : Heap) (O0 : Old Z n0 h0) (n_a : n0 ≤ a) (p_L : (Exa Z h0 a "java/util/Collections$UnmodifiableRandomAccessList" ∧ Fld Z h0 a "java/util/Collections$UnmodifiableCollection" "c" "Ljava/util/Collection;" .null ∧ Fld Z h0 a "java/util/Collections$UnmodifiableList" "list" "Ljava/util/List;" .null)) :
    own_Met l Z n0 (⟨"java/util/Collections$UnmodifiableCollection", "<init>", "(Ljava/util/Collection;)V"⟩ : MethodName) jdk_119_method_1_code 2 none ({ frames := 1, cells := 0, slots := 0, locals := 12 } : Room) #[(.ref a), (.ref x)] h0 (fun v h => v = none ∧ Keep h0 h [a] ∧ (Exa Z h a "java/util/Collections$UnmodifiableRandomAccessList" ∧ Fld Z h a "java/util/Collections$UnmodifiableCollection" "c" "Ljava/util/Collection;" (.ref x) ∧ Fld Z h a "java/util/Collections$UnmodifiableList" "list" "Ljava/util/List;" .null)) := by
  refine own_enter (own := "java/util/Collections$UnmodifiableCollection") (nm := "<init>") (plainFor_of_name pn_14) rfl rfl O0 ?_
  have W : ∀ (k : Nat) {d : Jvm.Cond}, tables_1[k]? = some d → d.before a0 Z = true := fun k d q => hw d (List.mem_of_getElem? q)
  intro G p e s m below meth c T0 hGe X0
  rw [ef_own_uci m a x]
  refine own_aload_n (pc' := 1) X0 dd_jdk_119_method_1_0 rfl rfl rfl ?_
  refine own_initO (pc' := 4) (W := 0) X0 (W 397 rfl) (W 15 rfl) (W 16 rfl) rfl dd_jdk_119_method_1_1 rfl (by decide) rfl (by decide) ?_
  intro T1 X1
  refine own_aload_n (pc' := 5) X1 dd_jdk_119_method_1_4 rfl rfl rfl ?_
  refine own_ifnonnullY (pc' := 16) X1 dd_jdk_119_method_1_5 (by decide) (by decide) ?_
  refine own_aload_n (pc' := 17) X1 dd_jdk_119_method_1_16 rfl rfl rfl ?_
  refine own_aload_n (pc' := 18) X1 dd_jdk_119_method_1_17 rfl rfl rfl ?_
  refine own_put (pc' := 21) X1 (host := "") (Or.inl (W 398 rfl)) Via.refl p_L.2.1 p_L.1 (Or.inr ⟨(W 399 rfl), rfl, rfl⟩) (W 380 rfl) (ty := (.object "java/util/Collection")) (by decide) rfl rfl n_a dd_jdk_119_method_1_18 rfl ?_
  intro T2 h2 X2 W2 K2
  have f2_ := p_L.2.1.same W2
  have f3 := (p_L.1.keep K2)
  have f4 := (p_L.2.2.other W2 (Or.inr (slot_ne (Or.inr (W 401 rfl)) (Or.inr (W 399 rfl)) (by decide) (t := (.object "java/util/List")) (t' := (.object "java/util/Collection")) (by decide) (by decide))))
  exact own_retV X2 hGe rfl dd_jdk_119_method_1_21 (by decide) (by decide) ⟨rfl, ((Keep.refl h0 [a]).trans K2 (allS (Or.inl (List.mem_of_getElem? (i := 0) rfl)) all0)), ⟨f3, f2_, f4⟩⟩
theorem dd_jdk_120_method_1_0 : decode jdk_120_method_1_code 0 = .ok (.aload_n 0, 1) := by decide +kernel
theorem dd_jdk_120_method_1_1 : decode jdk_120_method_1_code 1 = .ok (.aload_n 1, 1) := by decide +kernel
theorem dd_jdk_120_method_1_2 : decode jdk_120_method_1_code 2 = .ok (.invokespecial 1, 3) := by decide +kernel
theorem pd_16 : parseMethodDescriptor "(Ljava/util/Collection;)V" = some ⟨[(.object "java/util/Collection")], none⟩ := by decide +kernel
theorem dd_jdk_120_method_1_5 : decode jdk_120_method_1_code 5 = .ok (.aload_n 0, 1) := by decide +kernel
theorem dd_jdk_120_method_1_6 : decode jdk_120_method_1_code 6 = .ok (.aload_n 1, 1) := by decide +kernel
theorem dd_jdk_120_method_1_7 : decode jdk_120_method_1_code 7 = .ok (.putfield 7, 3) := by decide +kernel
theorem dd_jdk_120_method_1_10 : decode jdk_120_method_1_code 10 = .ok (.return_, 1) := by decide +kernel
theorem pn_15 : plainName "java/util/Collections$UnmodifiableList" = true := by first | (simp [plainName, overriddenIn]; done) | decide +kernel
theorem ef_own_uli (m : MethodId) (x0 : Addr) (x1 : Addr) : entryFrame m #[(.ref x0), (.ref x1)] 2 = mkF m 0 #[.val (.ref x0), .val (.ref x1)] [] := by first | (simp [entryFrame, mkF, argsToLocals, Value.category]; done) | rfl
set_option maxRecDepth 65536 in
set_option maxHeartbeats 40000000 in
theorem own_uli (l : Launch) (Z : State) (a0 : Array Value) (hw : ∀ d ∈ tables_1, d.before a0 Z = true) (n0 : Nat) (a x : Addr) (h0 : Heap) (O0 : Old Z n0 h0) (n_a : n0 ≤ a) (p_L : (Exa Z h0 a "java/util/Collections$UnmodifiableRandomAccessList" ∧ Fld Z h0 a "java/util/Collections$UnmodifiableCollection" "c" "Ljava/util/Collection;" .null ∧ Fld Z h0 a "java/util/Collections$UnmodifiableList" "list" "Ljava/util/List;" .null)) :
    own_Met l Z n0 (⟨"java/util/Collections$UnmodifiableList", "<init>", "(Ljava/util/List;)V"⟩ : MethodName) jdk_120_method_1_code 2 none ({ frames := 2, cells := 0, slots := 0, locals := 25 } : Room) #[(.ref a), (.ref x)] h0 (fun v h => v = none ∧ Keep h0 h [a] ∧ (Exa Z h a "java/util/Collections$UnmodifiableRandomAccessList" ∧ Fld Z h a "java/util/Collections$UnmodifiableCollection" "c" "Ljava/util/Collection;" (.ref x) ∧ Fld Z h a "java/util/Collections$UnmodifiableList" "list" "Ljava/util/List;" (.ref x))) := by
  refine own_enter (own := "java/util/Collections$UnmodifiableList") (nm := "<init>") (plainFor_of_name pn_15) rfl rfl O0 ?_
  have W : ∀ (k : Nat) {d : Jvm.Cond}, tables_1[k]? = some d → d.before a0 Z = true := fun k d q => hw d (List.mem_of_getElem? q)
  intro G p e s m below meth c T0 hGe X0
  rw [ef_own_uli m a x]
  refine own_aload_n (pc' := 1) X0 dd_jdk_120_method_1_0 rfl rfl rfl ?_
  refine own_aload_n (pc' := 2) X0 dd_jdk_120_method_1_1 rfl rfl rfl ?_
  refine own_callIM (pc' := 5) (cells' := 0) (slots' := 0) (argsL := [(.ref x)]) (rest := []) (W := 0) (y := (⟨"java/util/Collections$UnmodifiableCollection", "<init>", "(Ljava/util/Collection;)V"⟩ : MethodName)) (a := a) X0 (W 391 rfl) (W 392 rfl) rfl (by decide) (own_uci l Z a0 hw n0 a x h0 (own_old X0) n_a p_L) (W 396 rfl) (W 395 rfl) (by decide) (by decide) rfl (lenOf pd_16 rfl) rfl rfl dd_jdk_120_method_1_2 rfl rfl rfl rfl (by decide) (by decide) ?_
  intro v1 T1 h1 X1 q1
  obtain ⟨rfl, K1, P1⟩ := q1
  show G T1 (mkF m 5 #[.val (.ref a), .val (.ref x)] [])
  refine own_aload_n (pc' := 6) X1 dd_jdk_120_method_1_5 rfl rfl rfl ?_
  refine own_aload_n (pc' := 7) X1 dd_jdk_120_method_1_6 rfl rfl rfl ?_
  refine own_put (pc' := 10) X1 (host := "") (Or.inl (W 400 rfl)) Via.refl P1.2.2 P1.1 (Or.inr ⟨(W 401 rfl), rfl, rfl⟩) (W 380 rfl) (ty := (.object "java/util/List")) (by decide) rfl rfl n_a dd_jdk_120_method_1_7 rfl ?_
  intro T2 h2 X2 W2 K2
  have f2_ := P1.2.2.same W2
  have f3 := (P1.1.keep K2)
  have f4 := (P1.2.1.other W2 (Or.inr (slot_ne (Or.inr (W 399 rfl)) (Or.inr (W 401 rfl)) (by decide) (t := (.object "java/util/Collection")) (t' := (.object "java/util/List")) (by decide) (by decide))))
  exact own_retV X2 hGe rfl dd_jdk_120_method_1_10 (by decide) (by decide) ⟨rfl, (((Keep.refl h0 [a]).trans K1 (allS (Or.inl (List.mem_of_getElem? (i := 0) rfl)) all0)).trans K2 (allS (Or.inl (List.mem_of_getElem? (i := 0) rfl)) all0)), ⟨f3, f4, f2_⟩⟩
theorem dd_jdk_121_method_1_0 : decode jdk_121_method_1_code 0 = .ok (.aload_n 0, 1) := by decide +kernel
theorem dd_jdk_121_method_1_1 : decode jdk_121_method_1_code 1 = .ok (.aload_n 1, 1) := by decide +kernel
theorem dd_jdk_121_method_1_2 : decode jdk_121_method_1_code 2 = .ok (.invokespecial 1, 3) := by decide +kernel
theorem pd_17 : parseMethodDescriptor "(Ljava/util/List;)V" = some ⟨[(.object "java/util/List")], none⟩ := by decide +kernel
theorem dd_jdk_121_method_1_5 : decode jdk_121_method_1_code 5 = .ok (.return_, 1) := by decide +kernel
theorem pn_16 : plainName "java/util/Collections$UnmodifiableRandomAccessList" = true := by first | (simp [plainName, overriddenIn]; done) | decide +kernel
theorem ef_own_uri (m : MethodId) (x0 : Addr) (x1 : Addr) : entryFrame m #[(.ref x0), (.ref x1)] 2 = mkF m 0 #[.val (.ref x0), .val (.ref x1)] [] := by first | (simp [entryFrame, mkF, argsToLocals, Value.category]; done) | rfl
set_option maxRecDepth 65536 in
set_option maxHeartbeats 40000000 in
theorem own_uri (l : Launch) (Z : State) (a0 : Array Value) (hw : ∀ d ∈ tables_1, d.before a0 Z = true) (n0 : Nat) (a x : Addr) (h0 : Heap) (O0 : Old Z n0 h0) (n_a : n0 ≤ a) (p_L : (Exa Z h0 a "java/util/Collections$UnmodifiableRandomAccessList" ∧ Fld Z h0 a "java/util/Collections$UnmodifiableCollection" "c" "Ljava/util/Collection;" .null ∧ Fld Z h0 a "java/util/Collections$UnmodifiableList" "list" "Ljava/util/List;" .null)) :
    own_Met l Z n0 (⟨"java/util/Collections$UnmodifiableRandomAccessList", "<init>", "(Ljava/util/List;)V"⟩ : MethodName) jdk_121_method_1_code 2 none ({ frames := 3, cells := 0, slots := 0, locals := 38 } : Room) #[(.ref a), (.ref x)] h0 (fun v h => v = none ∧ Keep h0 h [a] ∧ (Exa Z h a "java/util/Collections$UnmodifiableRandomAccessList" ∧ Fld Z h a "java/util/Collections$UnmodifiableCollection" "c" "Ljava/util/Collection;" (.ref x) ∧ Fld Z h a "java/util/Collections$UnmodifiableList" "list" "Ljava/util/List;" (.ref x))) := by
  refine own_enter (own := "java/util/Collections$UnmodifiableRandomAccessList") (nm := "<init>") (plainFor_of_name pn_16) rfl rfl O0 ?_
  have W : ∀ (k : Nat) {d : Jvm.Cond}, tables_1[k]? = some d → d.before a0 Z = true := fun k d q => hw d (List.mem_of_getElem? q)
  intro G p e s m below meth c T0 hGe X0
  rw [ef_own_uri m a x]
  refine own_aload_n (pc' := 1) X0 dd_jdk_121_method_1_0 rfl rfl rfl ?_
  refine own_aload_n (pc' := 2) X0 dd_jdk_121_method_1_1 rfl rfl rfl ?_
  refine own_callIM (pc' := 5) (cells' := 0) (slots' := 0) (argsL := [(.ref x)]) (rest := []) (W := 0) (y := (⟨"java/util/Collections$UnmodifiableList", "<init>", "(Ljava/util/List;)V"⟩ : MethodName)) (a := a) X0 (W 385 rfl) (W 386 rfl) rfl (by decide) (own_uli l Z a0 hw n0 a x h0 (own_old X0) n_a p_L) (W 390 rfl) (W 389 rfl) (by decide) (by decide) rfl (lenOf pd_17 rfl) rfl rfl dd_jdk_121_method_1_2 rfl rfl rfl rfl (by decide) (by decide) ?_
  intro v1 T1 h1 X1 q1
  obtain ⟨rfl, K1, P1⟩ := q1
  show G T1 (mkF m 5 #[.val (.ref a), .val (.ref x)] [])
  exact own_retV X1 hGe rfl dd_jdk_121_method_1_5 (by decide) (by decide) ⟨rfl, ((Keep.refl h0 [a]).trans K1 (allS (Or.inl (List.mem_of_getElem? (i := 0) rfl)) all0)), ⟨P1.1, P1.2.1, P1.2.2⟩⟩
theorem dd_jdk_79_method_35_0 : decode jdk_79_method_35_code 0 = .ok (.aload_n 0, 1) := by decide +kernel
theorem dd_jdk_79_method_35_1 : decode jdk_79_method_35_code 1 = .ok (.invokeinterface 211 1, 5) := by decide +kernel
theorem dd_jdk_79_method_35_6 : decode jdk_79_method_35_code 6 = .ok (.ldc 212, 2) := by decide +kernel
theorem dd_jdk_79_method_35_8 : decode jdk_79_method_35_code 8 = .ok (.if_acmp .eq 14, 3) := by decide +kernel
theorem dd_jdk_79_method_35_22 : decode jdk_79_method_35_code 22 = .ok (.aload_n 0, 1) := by decide +kernel
theorem dd_jdk_79_method_35_23 : decode jdk_79_method_35_code 23 = .ok (.areturn, 1) := by decide +kernel
theorem dd_jdk_79_method_35_11 : decode jdk_79_method_35_code 11 = .ok (.aload_n 0, 1) := by decide +kernel
theorem dd_jdk_79_method_35_12 : decode jdk_79_method_35_code 12 = .ok (.invokeinterface 214 1, 5) := by decide +kernel
theorem dd_jdk_79_method_35_17 : decode jdk_79_method_35_code 17 = .ok (.ldc 215, 2) := by decide +kernel
theorem dd_jdk_79_method_35_19 : decode jdk_79_method_35_code 19 = .ok (.if_acmp .ne 5, 3) := by decide +kernel
theorem dd_jdk_79_method_35_24 : decode jdk_79_method_35_code 24 = .ok (.aload_n 0, 1) := by decide +kernel
theorem dd_jdk_79_method_35_25 : decode jdk_79_method_35_code 25 = .ok (.instanceof 13, 3) := by decide +kernel
theorem dd_jdk_79_method_35_28 : decode jdk_79_method_35_code 28 = .ok (.ifCond .eq 14, 3) := by decide +kernel
theorem dd_jdk_79_method_35_31 : decode jdk_79_method_35_code 31 = .ok (.new 215, 3) := by decide +kernel
theorem dd_jdk_79_method_35_34 : decode jdk_79_method_35_code 34 = .ok (.dup, 1) := by decide +kernel
theorem dd_jdk_79_method_35_35 : decode jdk_79_method_35_code 35 = .ok (.aload_n 0, 1) := by decide +kernel
theorem dd_jdk_79_method_35_36 : decode jdk_79_method_35_code 36 = .ok (.invokespecial 217, 3) := by decide +kernel
theorem dd_jdk_79_method_35_39 : decode jdk_79_method_35_code 39 = .ok (.goto 11, 3) := by decide +kernel
theorem dd_jdk_79_method_35_50 : decode jdk_79_method_35_code 50 = .ok (.areturn, 1) := by decide +kernel
theorem pn_17 : plainName "java/util/Collections" = true := by first | (simp [plainName, overriddenIn]; done) | decide +kernel
theorem ef_own_uml (m : MethodId) (x0 : Addr) : entryFrame m #[(.ref x0)] 1 = mkF m 0 #[.val (.ref x0)] [] := by first | (simp [entryFrame, mkF, argsToLocals, Value.category]; done) | rfl
set_option maxRecDepth 65536 in
set_option maxHeartbeats 40000000 in
theorem own_uml (l : Launch) (Z : State) (a0 : Array Value) (hw : ∀ d ∈ tables_1, d.before a0 Z = true) (n0 : Nat) (x ma mu mw : Addr) (h0 : Heap) (O0 : Old Z n0 h0) (p_E : Exa Z h0 x "java/util/ArrayList") (MA : own_Mir Z "java/util/ArrayList" ma) (MU : own_Mir Z "java/util/Collections$UnmodifiableList" mu) (MW : own_Mir Z "java/util/Collections$UnmodifiableRandomAccessList" mw) :
    own_Met l Z n0 (⟨"java/util/Collections", "unmodifiableList", "(Ljava/util/List;)Ljava/util/List;"⟩ : MethodName) jdk_79_method_35_code 1 (some (.object "java/util/List")) ({ frames := 4, cells := 1, slots := 2, locals := 52 } : Room) #[(.ref x)] h0 (fun v h => (v = some (.ref x) ∧ h0 = h) ∨ ∃ c : Addr, v = some (.ref c) ∧ Keep h0 h [] ∧ h0.size ≤ c ∧ (Exa Z h c "java/util/Collections$UnmodifiableRandomAccessList" ∧ Fld Z h c "java/util/Collections$UnmodifiableCollection" "c" "Ljava/util/Collection;" (.ref x) ∧ Fld Z h c "java/util/Collections$UnmodifiableList" "list" "Ljava/util/List;" (.ref x))) := by
  refine own_enter (own := "java/util/Collections") (nm := "unmodifiableList") (plainFor_of_name pn_17) rfl rfl O0 ?_
  have W : ∀ (k : Nat) {d : Jvm.Cond}, tables_1[k]? = some d → d.before a0 Z = true := fun k d q => hw d (List.mem_of_getElem? q)
  intro G p e s m below meth c T0 hGe X0
  rw [ef_own_uml m x]
  refine own_aload_n (pc' := 1) X0 dd_jdk_79_method_35_0 rfl rfl rfl ?_
  refine own_gclsI (pc' := 6) (W := 0) (xi := (⟨"java/util/List", "getClass", "()Ljava/lang/Class;"⟩ : MethodName)) X0 (W 367 rfl) (W 187 rfl) (fun s' a' hZ' => own_mvFO hZ' (W 368 rfl)) (W 369 rfl) (W 188 rfl) (W 370 rfl) (W 371 rfl) (W 59 rfl) (W 190 rfl) (by decide) (by decide) rfl rfl p_E MA rfl dd_jdk_79_method_35_1 rfl (by decide) rfl (by decide) ?_
  intro T1 X1
  refine own_ldcC (pc' := 8) X1 (W 373 rfl) MU dd_jdk_79_method_35_6 rfl ?_
  intro T2 X2
  by_cases hu2 : ma = mu
  · refine own_acmp (pc' := 22) (same := true) X2 dd_jdk_79_method_35_8 rfl rfl (by simp [hu2]) (by decide) (by decide) ?_
    refine own_aload_n (pc' := 23) X2 dd_jdk_79_method_35_22 rfl rfl rfl ?_
    exact own_ret X2 hGe (t := (.object "java/util/List")) rfl rfl (Or.inr (Or.inr (Or.inr (Or.inr ⟨rfl, rfl, rfl⟩)))) dd_jdk_79_method_35_23 (by decide) (by decide) (Or.inl ⟨rfl, rfl⟩)
  · refine own_acmp (pc' := 11) (same := false) X2 dd_jdk_79_method_35_8 rfl rfl (by simp [hu2]) (by decide) (by decide) ?_
    refine own_aload_n (pc' := 12) X2 dd_jdk_79_method_35_11 rfl rfl rfl ?_
    refine own_gclsI (pc' := 17) (W := 0) (xi := (⟨"java/util/List", "getClass", "()Ljava/lang/Class;"⟩ : MethodName)) X2 (W 375 rfl) (W 187 rfl) (fun s' a' hZ' => own_mvFO hZ' (W 368 rfl)) (W 369 rfl) (W 188 rfl) (W 370 rfl) (W 371 rfl) (W 59 rfl) (W 190 rfl) (by decide) (by decide) rfl rfl p_E MA rfl dd_jdk_79_method_35_12 rfl (by decide) rfl (by decide) ?_
    intro T3 X3
    refine own_ldcC (pc' := 19) X3 (W 376 rfl) MW dd_jdk_79_method_35_17 rfl ?_
    intro T4 X4
    by_cases hw2 : ma = mw
    · refine own_acmp (pc' := 22) (same := true) X4 dd_jdk_79_method_35_19 rfl rfl (by simp [hw2]) (by decide) (by decide) ?_
      refine own_aload_n (pc' := 23) X4 dd_jdk_79_method_35_22 rfl rfl rfl ?_
      exact own_ret X4 hGe (t := (.object "java/util/List")) rfl rfl (Or.inr (Or.inr (Or.inr (Or.inr ⟨rfl, rfl, rfl⟩)))) dd_jdk_79_method_35_23 (by decide) (by decide) (Or.inl ⟨rfl, rfl⟩)
    · refine own_acmp (pc' := 24) (same := false) X4 dd_jdk_79_method_35_19 rfl rfl (by simp [hw2]) (by decide) (by decide) ?_
      refine own_aload_n (pc' := 25) X4 dd_jdk_79_method_35_24 rfl rfl rfl ?_
      refine own_instY (pc' := 28) X4 (W 378 rfl) (Ins.of_exa p_E (W 379 rfl)) dd_jdk_79_method_35_25 rfl ?_
      intro T5 X5
      refine own_ifN (pc' := 31) X5 dd_jdk_79_method_35_28 rfl ((feq (by decide)).1) ?_
      refine own_new (pc' := 34) (cells' := 1) (slots' := 2) X5 (W 376 rfl) (W 380 rfl) (W 381 rfl) dd_jdk_79_method_35_31 rfl rfl rfl (by decide) (by decide) ?_
      intro T6 h6 a6 g6 X6 K6 E6 D6 U6
      have n_a6 : n0 ≤ a6 := by rw [g6]; exact own_n0 X5
      have F6_c : Fld Z h6 a6 "java/util/Collections$UnmodifiableCollection" "c" "Ljava/util/Collection;" .null := D6 (Or.inr (W 399 rfl)) (ty := (.object "java/util/Collection")) (by decide)
      have F6_list : Fld Z h6 a6 "java/util/Collections$UnmodifiableList" "list" "Ljava/util/List;" .null := D6 (Or.inr (W 401 rfl)) (ty := (.object "java/util/List")) (by decide)
      refine own_dup (pc' := 35) X6 dd_jdk_79_method_35_34 rfl rfl ?_
      refine own_aload_n (pc' := 36) X6 dd_jdk_79_method_35_35 rfl rfl rfl ?_
      refine own_callIM (pc' := 39) (cells' := 1) (slots' := 2) (argsL := [(.ref x)]) (rest := [(.ref a6)]) (W := 1) (y := (⟨"java/util/Collections$UnmodifiableRandomAccessList", "<init>", "(Ljava/util/List;)V"⟩ : MethodName)) (a := a6) X6 (W 382 rfl) (W 383 rfl) rfl (by decide) (own_uri l Z a0 hw n0 a6 x h6 (own_old X6) n_a6 ⟨E6, F6_c, F6_list⟩) (W 384 rfl) (W 381 rfl) (by decide) (by decide) rfl (lenOf pd_17 rfl) rfl rfl dd_jdk_79_method_35_36 rfl rfl rfl rfl (by decide) (by decide) ?_
      intro v7 T7 h7 X7 q7
      obtain ⟨rfl, K7, P7⟩ := q7
      show G T7 (mkF m 39 #[.val (.ref x)] [(.ref a6)])
      refine own_goto (pc' := 50) X7 dd_jdk_79_method_35_39 (by decide) (by decide) ?_
      have age_a6 : h0.size ≤ a6 := Nat.le_trans (Nat.le_refl _) (Nat.le_of_eq (Eq.symm g6))
      exact own_ret X7 hGe (t := (.object "java/util/List")) rfl rfl (Or.inr (Or.inr (Or.inr (Or.inr ⟨rfl, rfl, rfl⟩)))) dd_jdk_79_method_35_50 (by decide) (by decide) (Or.inr ⟨a6, rfl, (((Keep.refl h0 []).trans K6 all0).trans K7 (allS (Or.inr age_a6) all0)), age_a6, ⟨P7.1, P7.2.1, P7.2.2⟩⟩)
theorem dd_jdk_141_method_1_0 : decode jdk_141_method_1_code 0 = .ok (.aload_n 0, 1) := by decide +kernel
theorem dd_jdk_141_method_1_1 : decode jdk_141_method_1_code 1 = .ok (.invokespecial 1, 3) := by decide +kernel
theorem dd_jdk_141_method_1_4 : decode jdk_141_method_1_code 4 = .ok (.aload_n 0, 1) := by decide +kernel
theorem dd_jdk_141_method_1_5 : decode jdk_141_method_1_code 5 = .ok (.aload_n 1, 1) := by decide +kernel
theorem dd_jdk_141_method_1_6 : decode jdk_141_method_1_code 6 = .ok (.invokestatic 7, 3) := by decide +kernel
theorem dd_jdk_141_method_1_9 : decode jdk_141_method_1_code 9 = .ok (.putfield 13, 3) := by decide +kernel
theorem dd_jdk_141_method_1_12 : decode jdk_141_method_1_code 12 = .ok (.aload_n 0, 1) := by decide +kernel
theorem dd_jdk_141_method_1_13 : decode jdk_141_method_1_code 13 = .ok (.aload_n 2, 1) := by decide +kernel
theorem dd_jdk_141_method_1_14 : decode jdk_141_method_1_code 14 = .ok (.invokestatic 7, 3) := by decide +kernel
theorem dd_jdk_141_method_1_17 : decode jdk_141_method_1_code 17 = .ok (.putfield 19, 3) := by decide +kernel
theorem dd_jdk_141_method_1_20 : decode jdk_141_method_1_code 20 = .ok (.return_, 1) := by decide +kernel
theorem pn_18 : plainName "java/util/KeyValueHolder" = true := by first | (simp [plainName, overriddenIn]; done) | decide +kernel
theorem ef_own_kvi (m : MethodId) (x0 : Addr) (x1 : Addr) (x2 : Addr) : entryFrame m #[(.ref x0), (.ref x1), (.ref x2)] 3 = mkF m 0 #[.val (.ref x0), .val (.ref x1), .val (.ref x2)] [] := by first | (simp [entryFrame, mkF, argsToLocals, Value.category]; done) | rfl
set_option maxRecDepth 65536 in
set_option maxHeartbeats 40000000 in
theorem own_kvi (l : Launch) (Z : State) (a0 : Array Value) (hw : ∀ d ∈ tables_1, d.before a0 Z = true) (n0 : Nat) (a x : Addr) (h0 : Heap) (O0 : Old Z n0 h0) (n_a : n0 ≤ a) (p_L : (Exa Z h0 a "java/util/KeyValueHolder" ∧ Fld Z h0 a "java/util/KeyValueHolder" "key" "Ljava/lang/Object;" .null ∧ Fld Z h0 a "java/util/KeyValueHolder" "value" "Ljava/lang/Object;" .null)) :
    own_Met l Z n0 (⟨"java/util/KeyValueHolder", "<init>", "(Ljava/lang/Object;Ljava/lang/Object;)V"⟩ : MethodName) jdk_141_method_1_code 3 none ({ frames := 1, cells := 0, slots := 0, locals := 13 } : Room) #[(.ref a), (.ref x), (.ref x)] h0 (fun v h => v = none ∧ Keep h0 h [a] ∧ Exa Z h a "java/util/KeyValueHolder") := by
  refine own_enter (own := "java/util/KeyValueHolder") (nm := "<init>") (plainFor_of_name pn_18) rfl rfl O0 ?_
  have W : ∀ (k : Nat) {d : Jvm.Cond}, tables_1[k]? = some d → d.before a0 Z = true := fun k d q => hw d (List.mem_of_getElem? q)
  intro G p e s m below meth c T0 hGe X0
  rw [ef_own_kvi m a x x]
  refine own_aload_n (pc' := 1) X0 dd_jdk_141_method_1_0 rfl rfl rfl ?_
  refine own_initO (pc' := 4) (W := 0) X0 (W 14 rfl) (W 15 rfl) (W 16 rfl) rfl dd_jdk_141_method_1_1 rfl (by decide) rfl (by decide) ?_
  intro T1 X1
  refine own_aload_n (pc' := 5) X1 dd_jdk_141_method_1_4 rfl rfl rfl ?_
  refine own_aload_n (pc' := 6) X1 dd_jdk_141_method_1_5 rfl rfl rfl ?_
  refine own_callSM (pc' := 9) (cells' := 0) (slots' := 0) (argsL := [(.ref x)]) (rest := [(.ref a)]) (W := 1) (y := (⟨"java/util/Objects", "requireNonNull", "(Ljava/lang/Object;)Ljava/lang/Object;"⟩ : MethodName)) X1 (W 17 rfl) (W 18 rfl) (by decide) (own_rnn l Z a0 hw n0 x h0 (own_old X1) ) (W 20 rfl) (W 19 rfl) (by decide) (by decide) rfl (lenOf pd_3 rfl) rfl rfl dd_jdk_141_method_1_6 rfl rfl rfl rfl (by decide) (by decide) ?_
  intro v2 T2 h2 X2 q2
  obtain ⟨rfl, rfl⟩ := q2
  show G T2 (mkF m 9 #[.val (.ref a), .val (.ref x), .val (.ref x)] [(.ref x), (.ref a)])
  refine own_put (pc' := 12) X2 (host := "") (Or.inl (W 21 rfl)) Via.refl p_L.2.1 p_L.1 (Or.inr ⟨(W 22 rfl), rfl, rfl⟩) (W 8 rfl) (ty := (.object "java/lang/Object")) (by decide) rfl rfl n_a dd_jdk_141_method_1_9 rfl ?_
  intro T3 h3 X3 W3 K3
  have f3_ := p_L.2.1.same W3
  refine own_aload_n (pc' := 13) X3 dd_jdk_141_method_1_12 rfl rfl rfl ?_
  refine own_aload_n (pc' := 14) X3 dd_jdk_141_method_1_13 rfl rfl rfl ?_
  refine own_callSM (pc' := 17) (cells' := 0) (slots' := 0) (argsL := [(.ref x)]) (rest := [(.ref a)]) (W := 1) (y := (⟨"java/util/Objects", "requireNonNull", "(Ljava/lang/Object;)Ljava/lang/Object;"⟩ : MethodName)) X3 (W 17 rfl) (W 18 rfl) (by decide) (own_rnn l Z a0 hw n0 x h3 (own_old X3) ) (W 20 rfl) (W 19 rfl) (by decide) (by decide) rfl (lenOf pd_3 rfl) rfl rfl dd_jdk_141_method_1_14 rfl rfl rfl rfl (by decide) (by decide) ?_
  intro v4 T4 h4 X4 q4
  obtain ⟨rfl, rfl⟩ := q4
  show G T4 (mkF m 17 #[.val (.ref a), .val (.ref x), .val (.ref x)] [(.ref x), (.ref a)])
  have f5 := (p_L.2.2.other W3 (Or.inr (slot_ne (Or.inr (W 24 rfl)) (Or.inr (W 22 rfl)) (by decide) (t := (.object "java/lang/Object")) (t' := (.object "java/lang/Object")) (by decide) (by decide))))
  have f6 := (p_L.1.keep K3)
  refine own_put (pc' := 20) X4 (host := "") (Or.inl (W 23 rfl)) Via.refl f5 f6 (Or.inr ⟨(W 24 rfl), rfl, rfl⟩) (W 8 rfl) (ty := (.object "java/lang/Object")) (by decide) rfl rfl n_a dd_jdk_141_method_1_17 rfl ?_
  intro T7 h7 X7 W7 K7
  have f7_ := f5.same W7
  have f8 := (f6.keep K7)
  exact own_retV X7 hGe rfl dd_jdk_141_method_1_20 (by decide) (by decide) ⟨rfl, (((Keep.refl h0 [a]).trans K3 (allS (Or.inl (List.mem_of_getElem? (i := 0) rfl)) all0)).trans K7 (allS (Or.inl (List.mem_of_getElem? (i := 0) rfl)) all0)), f8⟩
theorem dd_jdk_72_method_38_0 : decode jdk_72_method_38_code 0 = .ok (.new 98, 3) := by decide +kernel
theorem dd_jdk_72_method_38_3 : decode jdk_72_method_38_code 3 = .ok (.dup, 1) := by decide +kernel
theorem dd_jdk_72_method_38_4 : decode jdk_72_method_38_code 4 = .ok (.aload_n 0, 1) := by decide +kernel
theorem dd_jdk_72_method_38_5 : decode jdk_72_method_38_code 5 = .ok (.aload_n 1, 1) := by decide +kernel
theorem dd_jdk_72_method_38_6 : decode jdk_72_method_38_code 6 = .ok (.invokespecial 100, 3) := by decide +kernel
theorem dd_jdk_72_method_38_9 : decode jdk_72_method_38_code 9 = .ok (.areturn, 1) := by decide +kernel
theorem pn_19 : plainName "java/util/Map" = true := by first | (simp [plainName, overriddenIn]; done) | decide +kernel
theorem ef_own_ent (m : MethodId) (x0 : Addr) (x1 : Addr) : entryFrame m #[(.ref x0), (.ref x1)] 2 = mkF m 0 #[.val (.ref x0), .val (.ref x1)] [] := by first | (simp [entryFrame, mkF, argsToLocals, Value.category]; done) | rfl
set_option maxRecDepth 65536 in
set_option maxHeartbeats 40000000 in
theorem own_ent (l : Launch) (Z : State) (a0 : Array Value) (hw : ∀ d ∈ tables_1, d.before a0 Z = true) (n0 : Nat) (x : Addr) (h0 : Heap) (O0 : Old Z n0 h0)  :
    own_Met l Z n0 (⟨"java/util/Map", "entry", "(Ljava/lang/Object;Ljava/lang/Object;)Ljava/util/Map$Entry;"⟩ : MethodName) jdk_72_method_38_code 2 (some (.object "java/util/Map$Entry")) ({ frames := 2, cells := 1, slots := 2, locals := 28 } : Room) #[(.ref x), (.ref x)] h0 (fun v h => ∃ c : Addr, v = some (.ref c) ∧ Keep h0 h [] ∧ h0.size ≤ c ∧ Exa Z h c "java/util/KeyValueHolder") := by
  refine own_enter (own := "java/util/Map") (nm := "entry") (plainFor_of_name pn_19) rfl rfl O0 ?_
  have W : ∀ (k : Nat) {d : Jvm.Cond}, tables_1[k]? = some d → d.before a0 Z = true := fun k d q => hw d (List.mem_of_getElem? q)
  intro G p e s m below meth c T0 hGe X0
  rw [ef_own_ent m x x]
  refine own_new (pc' := 3) (cells' := 1) (slots' := 2) X0 (W 7 rfl) (W 8 rfl) (W 9 rfl) dd_jdk_72_method_38_0 rfl rfl rfl (by decide) (by decide) ?_
  intro T1 h1 a1 g1 X1 K1 E1 D1 U1
  have n_a1 : n0 ≤ a1 := by rw [g1]; exact own_n0 X0
  have F1_key : Fld Z h1 a1 "java/util/KeyValueHolder" "key" "Ljava/lang/Object;" .null := D1 (Or.inr (W 22 rfl)) (ty := (.object "java/lang/Object")) (by decide)
  have F1_value : Fld Z h1 a1 "java/util/KeyValueHolder" "value" "Ljava/lang/Object;" .null := D1 (Or.inr (W 24 rfl)) (ty := (.object "java/lang/Object")) (by decide)
  refine own_dup (pc' := 4) X1 dd_jdk_72_method_38_3 rfl rfl ?_
  refine own_aload_n (pc' := 5) X1 dd_jdk_72_method_38_4 rfl rfl rfl ?_
  refine own_aload_n (pc' := 6) X1 dd_jdk_72_method_38_5 rfl rfl rfl ?_
  refine own_callIM (pc' := 9) (cells' := 1) (slots' := 2) (argsL := [(.ref x), (.ref x)]) (rest := [(.ref a1)]) (W := 1) (y := (⟨"java/util/KeyValueHolder", "<init>", "(Ljava/lang/Object;Ljava/lang/Object;)V"⟩ : MethodName)) (a := a1) X1 (W 10 rfl) (W 11 rfl) rfl (by decide) (own_kvi l Z a0 hw n0 a1 x h1 (own_old X1) n_a1 ⟨E1, F1_key, F1_value⟩) (W 13 rfl) (W 9 rfl) (by decide) (by decide) rfl (lenOf pd_13 rfl) rfl rfl dd_jdk_72_method_38_6 rfl rfl rfl rfl (by decide) (by decide) ?_
  intro v2 T2 h2 X2 q2
  obtain ⟨rfl, K2, E2⟩ := q2
  show G T2 (mkF m 9 #[.val (.ref x), .val (.ref x)] [(.ref a1)])
  have age_a1 : h0.size ≤ a1 := Nat.le_trans (Nat.le_refl _) (Nat.le_of_eq (Eq.symm g1))
  exact own_ret X2 hGe (t := (.object "java/util/Map$Entry")) rfl rfl (Or.inr (Or.inr (Or.inr (Or.inr ⟨rfl, rfl, rfl⟩)))) dd_jdk_72_method_38_9 (by decide) (by decide) ⟨a1, rfl, (((Keep.refl h0 []).trans K1 all0).trans K2 (allS (Or.inr age_a1) all0)), age_a1, E2⟩
theorem dd_prog_5_method_1_0 : decode prog_5_method_1_code 0 = .ok (.aload_n 0, 1) := by decide +kernel
theorem dd_prog_5_method_1_1 : decode prog_5_method_1_code 1 = .ok (.invokespecial 1, 3) := by decide +kernel
theorem dd_prog_5_method_1_4 : decode prog_5_method_1_code 4 = .ok (.aload_n 0, 1) := by decide +kernel
theorem dd_prog_5_method_1_5 : decode prog_5_method_1_code 5 = .ok (.aload_n 1, 1) := by decide +kernel
theorem dd_prog_5_method_1_6 : decode prog_5_method_1_code 6 = .ok (.putfield 7, 3) := by decide +kernel
theorem dd_prog_5_method_1_9 : decode prog_5_method_1_code 9 = .ok (.aload_n 0, 1) := by decide +kernel
theorem dd_prog_5_method_1_10 : decode prog_5_method_1_code 10 = .ok (.aload_n 2, 1) := by decide +kernel
theorem dd_prog_5_method_1_11 : decode prog_5_method_1_code 11 = .ok (.putfield 13, 3) := by decide +kernel
theorem dd_prog_5_method_1_14 : decode prog_5_method_1_code 14 = .ok (.return_, 1) := by decide +kernel
theorem pn_20 : plainName "com/example/topf/topf/core/AppendedList" = true := by first | (simp [plainName, overriddenIn]; done) | decide +kernel
theorem ef_own_apiN (m : MethodId) (x0 : Addr) (x2 : Addr) : entryFrame m #[(.ref x0), .null, (.ref x2)] 3 = mkF m 0 #[.val (.ref x0), .val .null, .val (.ref x2)] [] := by first | (simp [entryFrame, mkF, argsToLocals, Value.category]; done) | rfl
set_option maxRecDepth 65536 in
set_option maxHeartbeats 40000000 in
theorem own_apiN (l : Launch) (Z : State) (a0 : Array Value) (hw : ∀ d ∈ tables_1, d.before a0 Z = true) (n0 : Nat) (a x : Addr) (h0 : Heap) (O0 : Old Z n0 h0) (n_a : n0 ≤ a) (p_L : (Exa Z h0 a "com/example/topf/topf/core/AppendedList" ∧ Fld Z h0 a "com/example/topf/topf/core/AppendedList" "first" "Lcom/example/topf/topf/core/AppendedList;" .null ∧ Fld Z h0 a "com/example/topf/topf/core/AppendedList" "last" "Ljava/util/List;" .null)) :
    own_Met l Z n0 (⟨"com/example/topf/topf/core/AppendedList", "<init>", "(Lcom/example/topf/topf/core/AppendedList;Ljava/util/List;)V"⟩ : MethodName) prog_5_method_1_code 3 none ({ frames := 1, cells := 0, slots := 0, locals := 12 } : Room) #[(.ref a), .null, (.ref x)] h0 (fun v h => v = none ∧ Keep h0 h [a] ∧ (Exa Z h a "com/example/topf/topf/core/AppendedList" ∧ Fld Z h a "com/example/topf/topf/core/AppendedList" "first" "Lcom/example/topf/topf/core/AppendedList;" .null ∧ Fld Z h a "com/example/topf/topf/core/AppendedList" "last" "Ljava/util/List;" (.ref x))) := by
  refine own_enter (own := "com/example/topf/topf/core/AppendedList") (nm := "<init>") (plainFor_of_name pn_20) rfl rfl O0 ?_
  have W : ∀ (k : Nat) {d : Jvm.Cond}, tables_1[k]? = some d → d.before a0 Z = true := fun k d q => hw d (List.mem_of_getElem? q)
  intro G p e s m below meth c T0 hGe X0
  rw [ef_own_apiN m a x]
  refine own_aload_n (pc' := 1) X0 dd_prog_5_method_1_0 rfl rfl rfl ?_
  refine own_initO (pc' := 4) (W := 0) X0 (W 159 rfl) (W 15 rfl) (W 16 rfl) rfl dd_prog_5_method_1_1 rfl (by decide) rfl (by decide) ?_
  intro T1 X1
  refine own_aload_n (pc' := 5) X1 dd_prog_5_method_1_4 rfl rfl rfl ?_
  refine own_aload_n (pc' := 6) X1 dd_prog_5_method_1_5 rfl rfl rfl ?_
  refine own_put (pc' := 9) X1 (host := "") (Or.inl (W 160 rfl)) Via.refl p_L.2.1 p_L.1 (Or.inr ⟨(W 161 rfl), rfl, rfl⟩) (W 128 rfl) (ty := (.object "com/example/topf/topf/core/AppendedList")) (by decide) rfl rfl n_a dd_prog_5_method_1_6 rfl ?_
  intro T2 h2 X2 W2 K2
  have f2_ := p_L.2.1.same W2
  refine own_aload_n (pc' := 10) X2 dd_prog_5_method_1_9 rfl rfl rfl ?_
  refine own_aload_n (pc' := 11) X2 dd_prog_5_method_1_10 rfl rfl rfl ?_
  have f3 := (p_L.2.2.other W2 (Or.inr (slot_ne (Or.inr (W 163 rfl)) (Or.inr (W 161 rfl)) (by decide) (t := (.object "java/util/List")) (t' := (.object "com/example/topf/topf/core/AppendedList")) (by decide) (by decide))))
  have f4 := (p_L.1.keep K2)
  refine own_put (pc' := 14) X2 (host := "") (Or.inl (W 162 rfl)) Via.refl f3 f4 (Or.inr ⟨(W 163 rfl), rfl, rfl⟩) (W 128 rfl) (ty := (.object "java/util/List")) (by decide) rfl rfl n_a dd_prog_5_method_1_11 rfl ?_
  intro T5 h5 X5 W5 K5
  have f5_ := f3.same W5
  have f6 := (f4.keep K5)
  have f7 := (f2_.other W5 (Or.inr (slot_ne (Or.inr (W 161 rfl)) (Or.inr (W 163 rfl)) (by decide) (t := (.object "com/example/topf/topf/core/AppendedList")) (t' := (.object "java/util/List")) (by decide) (by decide))))
  exact own_retV X5 hGe rfl dd_prog_5_method_1_14 (by decide) (by decide) ⟨rfl, (((Keep.refl h0 [a]).trans K2 (allS (Or.inl (List.mem_of_getElem? (i := 0) rfl)) all0)).trans K5 (allS (Or.inl (List.mem_of_getElem? (i := 0) rfl)) all0)), ⟨f6, f7, f5_⟩⟩
theorem ef_own_apiR (m : MethodId) (x0 : Addr) (x1 : Addr) (x2 : Addr) : entryFrame m #[(.ref x0), (.ref x1), (.ref x2)] 3 = mkF m 0 #[.val (.ref x0), .val (.ref x1), .val (.ref x2)] [] := by first | (simp [entryFrame, mkF, argsToLocals, Value.category]; done) | rfl
set_option maxRecDepth 65536 in
set_option maxHeartbeats 40000000 in
theorem own_apiR (l : Launch) (Z : State) (a0 : Array Value) (hw : ∀ d ∈ tables_1, d.before a0 Z = true) (n0 : Nat) (a x : Addr) (f : Addr) (h0 : Heap) (O0 : Old Z n0 h0) (n_a : n0 ≤ a) (p_L : (Exa Z h0 a "com/example/topf/topf/core/AppendedList" ∧ Fld Z h0 a "com/example/topf/topf/core/AppendedList" "first" "Lcom/example/topf/topf/core/AppendedList;" .null ∧ Fld Z h0 a "com/example/topf/topf/core/AppendedList" "last" "Ljava/util/List;" .null)) :
    own_Met l Z n0 (⟨"com/example/topf/topf/core/AppendedList", "<init>", "(Lcom/example/topf/topf/core/AppendedList;Ljava/util/List;)V"⟩ : MethodName) prog_5_method_1_code 3 none ({ frames := 1, cells := 0, slots := 0, locals := 12 } : Room) #[(.ref a), (.ref f), (.ref x)] h0 (fun v h => v = none ∧ Keep h0 h [a] ∧ (Exa Z h a "com/example/topf/topf/core/AppendedList" ∧ Fld Z h a "com/example/topf/topf/core/AppendedList" "first" "Lcom/example/topf/topf/core/AppendedList;" (.ref f) ∧ Fld Z h a "com/example/topf/topf/core/AppendedList" "last" "Ljava/util/List;" (.ref x))) := by
  refine own_enter (own := "com/example/topf/topf/core/AppendedList") (nm := "<init>") (plainFor_of_name pn_20) rfl rfl O0 ?_
  have W : ∀ (k : Nat) {d : Jvm.Cond}, tables_1[k]? = some d → d.before a0 Z = true := fun k d q => hw d (List.mem_of_getElem? q)
  intro G p e s m below meth c T0 hGe X0
  rw [ef_own_apiR m a f x]
  refine own_aload_n (pc' := 1) X0 dd_prog_5_method_1_0 rfl rfl rfl ?_
  refine own_initO (pc' := 4) (W := 0) X0 (W 159 rfl) (W 15 rfl) (W 16 rfl) rfl dd_prog_5_method_1_1 rfl (by decide) rfl (by decide) ?_
  intro T1 X1
  refine own_aload_n (pc' := 5) X1 dd_prog_5_method_1_4 rfl rfl rfl ?_
  refine own_aload_n (pc' := 6) X1 dd_prog_5_method_1_5 rfl rfl rfl ?_
  refine own_put (pc' := 9) X1 (host := "") (Or.inl (W 160 rfl)) Via.refl p_L.2.1 p_L.1 (Or.inr ⟨(W 161 rfl), rfl, rfl⟩) (W 128 rfl) (ty := (.object "com/example/topf/topf/core/AppendedList")) (by decide) rfl rfl n_a dd_prog_5_method_1_6 rfl ?_
  intro T2 h2 X2 W2 K2
  have f2_ := p_L.2.1.same W2
  refine own_aload_n (pc' := 10) X2 dd_prog_5_method_1_9 rfl rfl rfl ?_
  refine own_aload_n (pc' := 11) X2 dd_prog_5_method_1_10 rfl rfl rfl ?_
  have f3 := (p_L.2.2.other W2 (Or.inr (slot_ne (Or.inr (W 163 rfl)) (Or.inr (W 161 rfl)) (by decide) (t := (.object "java/util/List")) (t' := (.object "com/example/topf/topf/core/AppendedList")) (by decide) (by decide))))
  have f4 := (p_L.1.keep K2)
  refine own_put (pc' := 14) X2 (host := "") (Or.inl (W 162 rfl)) Via.refl f3 f4 (Or.inr ⟨(W 163 rfl), rfl, rfl⟩) (W 128 rfl) (ty := (.object "java/util/List")) (by decide) rfl rfl n_a dd_prog_5_method_1_11 rfl ?_
  intro T5 h5 X5 W5 K5
  have f5_ := f3.same W5
  have f6 := (f4.keep K5)
  have f7 := (f2_.other W5 (Or.inr (slot_ne (Or.inr (W 161 rfl)) (Or.inr (W 163 rfl)) (by decide) (t := (.object "com/example/topf/topf/core/AppendedList")) (t' := (.object "java/util/List")) (by decide) (by decide))))
  exact own_retV X5 hGe rfl dd_prog_5_method_1_14 (by decide) (by decide) ⟨rfl, (((Keep.refl h0 [a]).trans K2 (allS (Or.inl (List.mem_of_getElem? (i := 0) rfl)) all0)).trans K5 (allS (Or.inl (List.mem_of_getElem? (i := 0) rfl)) all0)), ⟨f6, f7, f5_⟩⟩
theorem own_rv {v : Value} (h : v.isRef = true) : v = .null ∨ ∃ y, v = .ref y := by cases v <;> first | exact Or.inl rfl | exact Or.inr ⟨_, rfl⟩ | cases h
theorem dd_prog_56_method_3_0 : decode prog_56_method_3_code 0 = .ok (.aload_n 0, 1) := by decide +kernel
theorem dd_prog_56_method_3_1 : decode prog_56_method_3_code 1 = .ok (.invokespecial 16, 3) := by decide +kernel
theorem dd_prog_56_method_3_4 : decode prog_56_method_3_code 4 = .ok (.aload_n 0, 1) := by decide +kernel
theorem dd_prog_56_method_3_5 : decode prog_56_method_3_code 5 = .ok (.aload_n 1, 1) := by decide +kernel
theorem dd_prog_56_method_3_6 : decode prog_56_method_3_code 6 = .ok (.putfield 21, 3) := by decide +kernel
theorem dd_prog_56_method_3_9 : decode prog_56_method_3_code 9 = .ok (.aload_n 0, 1) := by decide +kernel
theorem dd_prog_56_method_3_10 : decode prog_56_method_3_code 10 = .ok (.aload_n 2, 1) := by decide +kernel
theorem dd_prog_56_method_3_11 : decode prog_56_method_3_code 11 = .ok (.putfield 25, 3) := by decide +kernel
theorem dd_prog_56_method_3_14 : decode prog_56_method_3_code 14 = .ok (.aload_n 0, 1) := by decide +kernel
theorem dd_prog_56_method_3_15 : decode prog_56_method_3_code 15 = .ok (.iload_n 3, 1) := by decide +kernel
theorem dd_prog_56_method_3_16 : decode prog_56_method_3_code 16 = .ok (.putfield 29, 3) := by decide +kernel
theorem dd_prog_56_method_3_19 : decode prog_56_method_3_code 19 = .ok (.return_, 1) := by decide +kernel
theorem pn_21 : plainName "com/example/topf/topf/core/MapValue" = true := by first | (simp [plainName, overriddenIn]; done) | decide +kernel
theorem ef_own_mviN (m : MethodId) (x0 : Addr) (x1 : Addr) (x3 : Int32) : entryFrame m #[(.ref x0), (.ref x1), .null, (.int x3)] 4 = mkF m 0 #[.val (.ref x0), .val (.ref x1), .val .null, .val (.int x3)] [] := by first | (simp [entryFrame, mkF, argsToLocals, Value.category]; done) | rfl
set_option maxRecDepth 65536 in
set_option maxHeartbeats 40000000 in
theorem own_mviN (l : Launch) (Z : State) (a0 : Array Value) (hw : ∀ d ∈ tables_1, d.before a0 Z = true) (n0 : Nat) (a x : Addr) (z : Int32) (h0 : Heap) (O0 : Old Z n0 h0) (n_a : n0 ≤ a) (p_L : (Exa Z h0 a "com/example/topf/topf/core/MapValue" ∧ Fld Z h0 a "com/example/topf/topf/core/MapValue" "entries" "Lcom/example/topf/topf/core/AppendedList;" .null ∧ Fld Z h0 a "com/example/topf/topf/core/MapValue" "mapClass" "Ljava/lang/String;" .null ∧ Fld Z h0 a "com/example/topf/topf/core/MapValue" "merging" "Z" (.int 0))) (p_z : z = 0 ∨ z = 1) :
    own_Met l Z n0 (⟨"com/example/topf/topf/core/MapValue", "<init>", "(Lcom/example/topf/topf/core/AppendedList;Ljava/lang/String;Z)V"⟩ : MethodName) prog_56_method_3_code 4 none ({ frames := 1, cells := 0, slots := 0, locals := 12 } : Room) #[(.ref a), (.ref x), .null, (.int z)] h0 (fun v h => v = none ∧ Keep h0 h [a] ∧ (Exa Z h a "com/example/topf/topf/core/MapValue" ∧ Fld Z h a "com/example/topf/topf/core/MapValue" "entries" "Lcom/example/topf/topf/core/AppendedList;" (.ref x) ∧ Fld Z h a "com/example/topf/topf/core/MapValue" "mapClass" "Ljava/lang/String;" .null ∧ Fld Z h a "com/example/topf/topf/core/MapValue" "merging" "Z" (.int z))) := by
  refine own_enter (own := "com/example/topf/topf/core/MapValue") (nm := "<init>") (plainFor_of_name pn_21) rfl rfl O0 ?_
  have W : ∀ (k : Nat) {d : Jvm.Cond}, tables_1[k]? = some d → d.before a0 Z = true := fun k d q => hw d (List.mem_of_getElem? q)
  intro G p e s m below meth c T0 hGe X0
  rw [ef_own_mviN m a x z]
  refine own_aload_n (pc' := 1) X0 dd_prog_56_method_3_0 rfl rfl rfl ?_
  refine own_initO (pc' := 4) (W := 0) X0 (W 167 rfl) (W 15 rfl) (W 16 rfl) rfl dd_prog_56_method_3_1 rfl (by decide) rfl (by decide) ?_
  intro T1 X1
  refine own_aload_n (pc' := 5) X1 dd_prog_56_method_3_4 rfl rfl rfl ?_
  refine own_aload_n (pc' := 6) X1 dd_prog_56_method_3_5 rfl rfl rfl ?_
  refine own_put (pc' := 9) X1 (host := "") (Or.inl (W 168 rfl)) Via.refl p_L.2.1 p_L.1 (Or.inr ⟨(W 169 rfl), rfl, rfl⟩) (W 118 rfl) (ty := (.object "com/example/topf/topf/core/AppendedList")) (by decide) rfl rfl n_a dd_prog_56_method_3_6 rfl ?_
  intro T2 h2 X2 W2 K2
  have f2_ := p_L.2.1.same W2
  refine own_aload_n (pc' := 10) X2 dd_prog_56_method_3_9 rfl rfl rfl ?_
  refine own_aload_n (pc' := 11) X2 dd_prog_56_method_3_10 rfl rfl rfl ?_
  have f3 := (p_L.2.2.1.other W2 (Or.inr (slot_ne (Or.inr (W 171 rfl)) (Or.inr (W 169 rfl)) (by decide) (t := (.object "java/lang/String")) (t' := (.object "com/example/topf/topf/core/AppendedList")) (by decide) (by decide))))
  have f4 := (p_L.1.keep K2)
  refine own_put (pc' := 14) X2 (host := "") (Or.inl (W 170 rfl)) Via.refl f3 f4 (Or.inr ⟨(W 171 rfl), rfl, rfl⟩) (W 118 rfl) (ty := (.object "java/lang/String")) (by decide) rfl rfl n_a dd_prog_56_method_3_11 rfl ?_
  intro T5 h5 X5 W5 K5
  have f5_ := f3.same W5
  refine own_aload_n (pc' := 15) X5 dd_prog_56_method_3_14 rfl rfl rfl ?_
  refine own_iload_n (pc' := 16) X5 dd_prog_56_method_3_15 rfl rfl ?_
  have f6 := ((p_L.2.2.2.other W2 (Or.inr (slot_ne (Or.inr (W 173 rfl)) (Or.inr (W 169 rfl)) (by decide) (t := .boolean) (t' := (.object "com/example/topf/topf/core/AppendedList")) (by decide) (by decide)))).other W5 (Or.inr (slot_ne (Or.inr (W 173 rfl)) (Or.inr (W 171 rfl)) (by decide) (t := .boolean) (t' := (.object "java/lang/String")) (by decide) (by decide))))
  have f7 := (f4.keep K5)
  refine own_put (pc' := 19) X5 (host := "") (Or.inl (W 172 rfl)) Via.refl f6 f7 (Or.inr ⟨(W 173 rfl), rfl, rfl⟩) (W 118 rfl) (ty := .boolean) (by decide) (by rcases p_z with rfl | rfl <;> rfl) (by rcases p_z with rfl | rfl <;> rfl) n_a dd_prog_56_method_3_16 rfl ?_
  intro T8 h8 X8 W8 K8
  have f8_ := f6.same W8
  have f9 := (f7.keep K8)
  have f10 := ((f2_.other W5 (Or.inr (slot_ne (Or.inr (W 169 rfl)) (Or.inr (W 171 rfl)) (by decide) (t := (.object "com/example/topf/topf/core/AppendedList")) (t' := (.object "java/lang/String")) (by decide) (by decide)))).other W8 (Or.inr (slot_ne (Or.inr (W 169 rfl)) (Or.inr (W 173 rfl)) (by decide) (t := (.object "com/example/topf/topf/core/AppendedList")) (t' := .boolean) (by decide) (by decide))))
  have f11 := (f5_.other W8 (Or.inr (slot_ne (Or.inr (W 171 rfl)) (Or.inr (W 173 rfl)) (by decide) (t := (.object "java/lang/String")) (t' := .boolean) (by decide) (by decide))))
  exact own_retV X8 hGe rfl dd_prog_56_method_3_19 (by decide) (by decide) ⟨rfl, ((((Keep.refl h0 [a]).trans K2 (allS (Or.inl (List.mem_of_getElem? (i := 0) rfl)) all0)).trans K5 (allS (Or.inl (List.mem_of_getElem? (i := 0) rfl)) all0)).trans K8 (allS (Or.inl (List.mem_of_getElem? (i := 0) rfl)) all0)), ⟨f9, f10, f11, f8_⟩⟩
theorem ef_own_mviR (m : MethodId) (x0 : Addr) (x1 : Addr) (x2 : Addr) (x3 : Int32) : entryFrame m #[(.ref x0), (.ref x1), (.ref x2), (.int x3)] 4 = mkF m 0 #[.val (.ref x0), .val (.ref x1), .val (.ref x2), .val (.int x3)] [] := by first | (simp [entryFrame, mkF, argsToLocals, Value.category]; done) | rfl
set_option maxRecDepth 65536 in
set_option maxHeartbeats 40000000 in
theorem own_mviR (l : Launch) (Z : State) (a0 : Array Value) (hw : ∀ d ∈ tables_1, d.before a0 Z = true) (n0 : Nat) (a x : Addr) (z : Int32) (y : Addr) (h0 : Heap) (O0 : Old Z n0 h0) (n_a : n0 ≤ a) (p_L : (Exa Z h0 a "com/example/topf/topf/core/MapValue" ∧ Fld Z h0 a "com/example/topf/topf/core/MapValue" "entries" "Lcom/example/topf/topf/core/AppendedList;" .null ∧ Fld Z h0 a "com/example/topf/topf/core/MapValue" "mapClass" "Ljava/lang/String;" .null ∧ Fld Z h0 a "com/example/topf/topf/core/MapValue" "merging" "Z" (.int 0))) (p_z : z = 0 ∨ z = 1) :
    own_Met l Z n0 (⟨"com/example/topf/topf/core/MapValue", "<init>", "(Lcom/example/topf/topf/core/AppendedList;Ljava/lang/String;Z)V"⟩ : MethodName) prog_56_method_3_code 4 none ({ frames := 1, cells := 0, slots := 0, locals := 12 } : Room) #[(.ref a), (.ref x), (.ref y), (.int z)] h0 (fun v h => v = none ∧ Keep h0 h [a] ∧ (Exa Z h a "com/example/topf/topf/core/MapValue" ∧ Fld Z h a "com/example/topf/topf/core/MapValue" "entries" "Lcom/example/topf/topf/core/AppendedList;" (.ref x) ∧ Fld Z h a "com/example/topf/topf/core/MapValue" "mapClass" "Ljava/lang/String;" (.ref y) ∧ Fld Z h a "com/example/topf/topf/core/MapValue" "merging" "Z" (.int z))) := by
  refine own_enter (own := "com/example/topf/topf/core/MapValue") (nm := "<init>") (plainFor_of_name pn_21) rfl rfl O0 ?_
  have W : ∀ (k : Nat) {d : Jvm.Cond}, tables_1[k]? = some d → d.before a0 Z = true := fun k d q => hw d (List.mem_of_getElem? q)
  intro G p e s m below meth c T0 hGe X0
  rw [ef_own_mviR m a x y z]
  refine own_aload_n (pc' := 1) X0 dd_prog_56_method_3_0 rfl rfl rfl ?_
  refine own_initO (pc' := 4) (W := 0) X0 (W 167 rfl) (W 15 rfl) (W 16 rfl) rfl dd_prog_56_method_3_1 rfl (by decide) rfl (by decide) ?_
  intro T1 X1
  refine own_aload_n (pc' := 5) X1 dd_prog_56_method_3_4 rfl rfl rfl ?_
  refine own_aload_n (pc' := 6) X1 dd_prog_56_method_3_5 rfl rfl rfl ?_
  refine own_put (pc' := 9) X1 (host := "") (Or.inl (W 168 rfl)) Via.refl p_L.2.1 p_L.1 (Or.inr ⟨(W 169 rfl), rfl, rfl⟩) (W 118 rfl) (ty := (.object "com/example/topf/topf/core/AppendedList")) (by decide) rfl rfl n_a dd_prog_56_method_3_6 rfl ?_
  intro T2 h2 X2 W2 K2
  have f2_ := p_L.2.1.same W2
  refine own_aload_n (pc' := 10) X2 dd_prog_56_method_3_9 rfl rfl rfl ?_
  refine own_aload_n (pc' := 11) X2 dd_prog_56_method_3_10 rfl rfl rfl ?_
  have f3 := (p_L.2.2.1.other W2 (Or.inr (slot_ne (Or.inr (W 171 rfl)) (Or.inr (W 169 rfl)) (by decide) (t := (.object "java/lang/String")) (t' := (.object "com/example/topf/topf/core/AppendedList")) (by decide) (by decide))))
  have f4 := (p_L.1.keep K2)
  refine own_put (pc' := 14) X2 (host := "") (Or.inl (W 170 rfl)) Via.refl f3 f4 (Or.inr ⟨(W 171 rfl), rfl, rfl⟩) (W 118 rfl) (ty := (.object "java/lang/String")) (by decide) rfl rfl n_a dd_prog_56_method_3_11 rfl ?_
  intro T5 h5 X5 W5 K5
  have f5_ := f3.same W5
  refine own_aload_n (pc' := 15) X5 dd_prog_56_method_3_14 rfl rfl rfl ?_
  refine own_iload_n (pc' := 16) X5 dd_prog_56_method_3_15 rfl rfl ?_
  have f6 := ((p_L.2.2.2.other W2 (Or.inr (slot_ne (Or.inr (W 173 rfl)) (Or.inr (W 169 rfl)) (by decide) (t := .boolean) (t' := (.object "com/example/topf/topf/core/AppendedList")) (by decide) (by decide)))).other W5 (Or.inr (slot_ne (Or.inr (W 173 rfl)) (Or.inr (W 171 rfl)) (by decide) (t := .boolean) (t' := (.object "java/lang/String")) (by decide) (by decide))))
  have f7 := (f4.keep K5)
  refine own_put (pc' := 19) X5 (host := "") (Or.inl (W 172 rfl)) Via.refl f6 f7 (Or.inr ⟨(W 173 rfl), rfl, rfl⟩) (W 118 rfl) (ty := .boolean) (by decide) (by rcases p_z with rfl | rfl <;> rfl) (by rcases p_z with rfl | rfl <;> rfl) n_a dd_prog_56_method_3_16 rfl ?_
  intro T8 h8 X8 W8 K8
  have f8_ := f6.same W8
  have f9 := (f7.keep K8)
  have f10 := ((f2_.other W5 (Or.inr (slot_ne (Or.inr (W 169 rfl)) (Or.inr (W 171 rfl)) (by decide) (t := (.object "com/example/topf/topf/core/AppendedList")) (t' := (.object "java/lang/String")) (by decide) (by decide)))).other W8 (Or.inr (slot_ne (Or.inr (W 169 rfl)) (Or.inr (W 173 rfl)) (by decide) (t := (.object "com/example/topf/topf/core/AppendedList")) (t' := .boolean) (by decide) (by decide))))
  have f11 := (f5_.other W8 (Or.inr (slot_ne (Or.inr (W 171 rfl)) (Or.inr (W 173 rfl)) (by decide) (t := (.object "java/lang/String")) (t' := .boolean) (by decide) (by decide))))
  exact own_retV X8 hGe rfl dd_prog_56_method_3_19 (by decide) (by decide) ⟨rfl, ((((Keep.refl h0 [a]).trans K2 (allS (Or.inl (List.mem_of_getElem? (i := 0) rfl)) all0)).trans K5 (allS (Or.inl (List.mem_of_getElem? (i := 0) rfl)) all0)).trans K8 (allS (Or.inl (List.mem_of_getElem? (i := 0) rfl)) all0)), ⟨f9, f10, f11, f8_⟩⟩
set_option maxRecDepth 65536 in
set_option maxHeartbeats 4000000 in
theorem own_mviV (l : Launch) (Z : State) (a0 : Array Value) (hw : ∀ d ∈ tables_1, d.before a0 Z = true) (n0 : Nat) (a x : Addr) (z : Int32) (vc : Value) (h0 : Heap) (O0 : Old Z n0 h0) (n_a : n0 ≤ a) (p_L : (Exa Z h0 a "com/example/topf/topf/core/MapValue" ∧ Fld Z h0 a "com/example/topf/topf/core/MapValue" "entries" "Lcom/example/topf/topf/core/AppendedList;" .null ∧ Fld Z h0 a "com/example/topf/topf/core/MapValue" "mapClass" "Ljava/lang/String;" .null ∧ Fld Z h0 a "com/example/topf/topf/core/MapValue" "merging" "Z" (.int 0))) (p_z : z = 0 ∨ z = 1) (p_r : vc.isRef = true) : own_Met l Z n0 (⟨"com/example/topf/topf/core/MapValue", "<init>", "(Lcom/example/topf/topf/core/AppendedList;Ljava/lang/String;Z)V"⟩ : MethodName) prog_56_method_3_code 4 none ({ frames := 1, cells := 0, slots := 0, locals := 12 } : Room) #[.ref a, .ref x, vc, .int z] h0 (fun v h => v = none ∧ Keep h0 h [a] ∧ (Exa Z h a "com/example/topf/topf/core/MapValue" ∧ Fld Z h a "com/example/topf/topf/core/MapValue" "entries" "Lcom/example/topf/topf/core/AppendedList;" (.ref x) ∧ Fld Z h a "com/example/topf/topf/core/MapValue" "mapClass" "Ljava/lang/String;" vc ∧ Fld Z h a "com/example/topf/topf/core/MapValue" "merging" "Z" (.int z))) := by
  rcases own_rv p_r with rfl | ⟨y, rfl⟩
  · exact own_mviN l Z a0 hw n0 a x z h0 O0 n_a p_L p_z
  · exact own_mviR l Z a0 hw n0 a x z y h0 O0 n_a p_L p_z

theorem dd_prog_5_method_2_0 : decode prog_5_method_2_code 0 = .ok (.new 8, 3) := by decide +kernel
theorem dd_prog_5_method_2_3 : decode prog_5_method_2_code 3 = .ok (.dup, 1) := by decide +kernel
theorem dd_prog_5_method_2_4 : decode prog_5_method_2_code 4 = .ok (.aconst_null, 1) := by decide +kernel
theorem dd_prog_5_method_2_5 : decode prog_5_method_2_code 5 = .ok (.aload_n 0, 1) := by decide +kernel
theorem dd_prog_5_method_2_6 : decode prog_5_method_2_code 6 = .ok (.invokestatic 17, 3) := by decide +kernel
theorem dd_prog_5_method_2_9 : decode prog_5_method_2_code 9 = .ok (.invokespecial 23, 3) := by decide +kernel
theorem pd_18 : parseMethodDescriptor "(Lcom/example/topf/topf/core/AppendedList;Ljava/util/List;)V" = some ⟨[(.object "com/example/topf/topf/core/AppendedList"), (.object "java/util/List")], none⟩ := by decide +kernel
theorem dd_prog_5_method_2_12 : decode prog_5_method_2_code 12 = .ok (.areturn, 1) := by decide +kernel
theorem ef_own_aof (m : MethodId) (x0 : Addr) : entryFrame m #[(.ref x0)] 1 = mkF m 0 #[.val (.ref x0)] [] := by first | (simp [entryFrame, mkF, argsToLocals, Value.category]; done) | rfl
set_option maxRecDepth 65536 in
set_option maxHeartbeats 40000000 in
theorem own_aof (l : Launch) (Z : State) (a0 : Array Value) (hw : ∀ d ∈ tables_1, d.before a0 Z = true) (n0 : Nat) (a em ea ey mr : Addr) (xs : List Addr) (h0 : Heap) (O0 : Old Z n0 h0) (A : own_AT Z h0 a xs) (hl : xs.length ≤ 3) (hE : ∀ x ∈ xs, Exa Z h0 x "java/util/KeyValueHolder") (hN : ∀ x ∈ xs, x ≠ ey) (EM : own_EMP Z em ea) (EY : own_MTY Z ey) (MR : own_Mir Z "[Ljava/lang/Object;" mr) :
    own_Met l Z n0 (⟨"com/example/topf/topf/core/AppendedList", "of", "(Ljava/util/List;)Lcom/example/topf/topf/core/AppendedList;"⟩ : MethodName) prog_5_method_2_code 1 (some (.object "com/example/topf/topf/core/AppendedList")) ({ frames := 9, cells := 4, slots := 10, locals := 118 } : Room) #[(.ref a)] h0 (fun v h => ∃ q : Addr, v = some (.ref q) ∧ Keep h0 h [] ∧ h0.size ≤ q ∧ own_A1 Z h em ey q xs) := by
  refine own_enter (own := "com/example/topf/topf/core/AppendedList") (nm := "of") (plainFor_of_name pn_20) rfl rfl O0 ?_
  have W : ∀ (k : Nat) {d : Jvm.Cond}, tables_1[k]? = some d → d.before a0 Z = true := fun k d q => hw d (List.mem_of_getElem? q)
  intro G p e s m below meth c T0 hGe X0
  rw [ef_own_aof m a]
  refine own_new (pc' := 3) (cells' := 1) (slots' := 2) X0 (W 127 rfl) (W 128 rfl) (W 125 rfl) dd_prog_5_method_2_0 rfl rfl rfl (by decide) (by decide) ?_
  intro T1 h1 a1 g1 X1 K1 E1 D1 U1
  have n_a1 : n0 ≤ a1 := by rw [g1]; exact own_n0 X0
  have F1_first : Fld Z h1 a1 "com/example/topf/topf/core/AppendedList" "first" "Lcom/example/topf/topf/core/AppendedList;" .null := D1 (Or.inr (W 161 rfl)) (ty := (.object "com/example/topf/topf/core/AppendedList")) (by decide)
  have F1_last : Fld Z h1 a1 "com/example/topf/topf/core/AppendedList" "last" "Ljava/util/List;" .null := D1 (Or.inr (W 163 rfl)) (ty := (.object "java/util/List")) (by decide)
  refine own_dup (pc' := 4) X1 dd_prog_5_method_2_3 rfl rfl ?_
  refine own_aconst_null (pc' := 5) X1 dd_prog_5_method_2_4 rfl ?_
  refine own_aload_n (pc' := 6) X1 dd_prog_5_method_2_5 rfl rfl rfl ?_
  have f2 := (A.keep ((Keep.refl h0 []).trans K1 all0) all0)
  refine own_callSM (pc' := 9) (cells' := 4) (slots' := 10) (argsL := [(.ref a)]) (rest := [.null, (.ref a1), (.ref a1)]) (W := 3) (y := (⟨"java/util/List", "copyOf", "(Ljava/util/Collection;)Ljava/util/List;"⟩ : MethodName)) X1 (W 129 rfl) (W 130 rfl) (by decide) (own_cpoG l Z a0 hw n0 a em ea ey mr xs h1 (own_old X1) f2 hl (fun x q => (hE x q).keep ((Keep.refl h0 []).trans K1 all0)) hN EM EY MR) (W 132 rfl) (W 131 rfl) (by decide) (by decide) rfl (lenOf pd_7 rfl) rfl rfl dd_prog_5_method_2_6 rfl rfl rfl rfl (by decide) (by decide) ?_
  intro v3 T3 h3 X3 q3
  obtain ⟨c3, rfl, K3, I3⟩ := q3
  show G T3 (mkF m 9 #[.val (.ref a)] [(.ref c3), .null, (.ref a1), (.ref a1)])
  have f4 := (E1.keep K3)
  have f5 := (F1_first.keep K3 nin0)
  have f6 := (F1_last.keep K3 nin0)
  refine own_callIM (pc' := 12) (cells' := 4) (slots' := 10) (argsL := [.null, (.ref c3)]) (rest := [(.ref a1)]) (W := 1) (y := (⟨"com/example/topf/topf/core/AppendedList", "<init>", "(Lcom/example/topf/topf/core/AppendedList;Ljava/util/List;)V"⟩ : MethodName)) (a := a1) X3 (W 156 rfl) (W 157 rfl) rfl (by decide) (own_apiN l Z a0 hw n0 a1 c3 h3 (own_old X3) n_a1 ⟨f4, f5, f6⟩) (W 158 rfl) (W 125 rfl) (by decide) (by decide) rfl (lenOf pd_18 rfl) rfl rfl dd_prog_5_method_2_9 rfl rfl rfl rfl (by decide) (by decide) ?_
  intro v7 T7 h7 X7 q7
  obtain ⟨rfl, K7, P7⟩ := q7
  show G T7 (mkF m 12 #[.val (.ref a)] [(.ref a1)])
  have age_a1 : h0.size ≤ a1 := Nat.le_trans (Nat.le_refl _) (Nat.le_of_eq (Eq.symm g1))
  have f8 := (I3.keep ((Keep.refl h3 [a1]).trans K7 (allS (Or.inl (List.mem_of_getElem? (i := 0) rfl)) all0)) (allS (own_far_mk (E1.keep K3) (by decide)) all0))
  exact own_ret X7 hGe (t := (.object "com/example/topf/topf/core/AppendedList")) rfl rfl (Or.inr (Or.inr (Or.inr (Or.inr ⟨rfl, rfl, rfl⟩)))) dd_prog_5_method_2_12 (by decide) (by decide) ⟨a1, rfl, ((((Keep.refl h0 []).trans K1 all0).trans K3 all0).trans K7 (allS (Or.inr age_a1) all0)), age_a1, c3, ⟨P7.1, P7.2.1, P7.2.2⟩, f8⟩
theorem dd_prog_56_method_2_0 : decode prog_56_method_2_code 0 = .ok (.aload_n 0, 1) := by decide +kernel
theorem dd_prog_56_method_2_1 : decode prog_56_method_2_code 1 = .ok (.aload_n 1, 1) := by decide +kernel
theorem dd_prog_56_method_2_2 : decode prog_56_method_2_code 2 = .ok (.invokestatic 7, 3) := by decide +kernel
theorem pd_19 : parseMethodDescriptor "(Ljava/util/List;)Lcom/example/topf/topf/core/AppendedList;" = some ⟨[(.object "java/util/List")], some (.object "com/example/topf/topf/core/AppendedList")⟩ := by decide +kernel
theorem dd_prog_56_method_2_5 : decode prog_56_method_2_code 5 = .ok (.aload_n 2, 1) := by decide +kernel
theorem dd_prog_56_method_2_6 : decode prog_56_method_2_code 6 = .ok (.iconst 0, 1) := by decide +kernel
theorem dd_prog_56_method_2_7 : decode prog_56_method_2_code 7 = .ok (.invokespecial 13, 3) := by decide +kernel
theorem pd_20 : parseMethodDescriptor "(Lcom/example/topf/topf/core/AppendedList;Ljava/lang/String;Z)V" = some ⟨[(.object "com/example/topf/topf/core/AppendedList"), (.object "java/lang/String"), .boolean], none⟩ := by decide +kernel
theorem dd_prog_56_method_2_10 : decode prog_56_method_2_code 10 = .ok (.return_, 1) := by decide +kernel
theorem ef_own_mvlN (m : MethodId) (x0 : Addr) (x1 : Addr) : entryFrame m #[(.ref x0), (.ref x1), .null] 3 = mkF m 0 #[.val (.ref x0), .val (.ref x1), .val .null] [] := by first | (simp [entryFrame, mkF, argsToLocals, Value.category]; done) | rfl
set_option maxRecDepth 65536 in
set_option maxHeartbeats 40000000 in
theorem own_mvlN (l : Launch) (Z : State) (a0 : Array Value) (hw : ∀ d ∈ tables_1, d.before a0 Z = true) (n0 : Nat) (b a em ea ey mr : Addr) (xs : List Addr) (h0 : Heap) (O0 : Old Z n0 h0) (n_b : n0 ≤ b) (p_B : (Exa Z h0 b "com/example/topf/topf/core/MapValue" ∧ Fld Z h0 b "com/example/topf/topf/core/MapValue" "entries" "Lcom/example/topf/topf/core/AppendedList;" .null ∧ Fld Z h0 b "com/example/topf/topf/core/MapValue" "mapClass" "Ljava/lang/String;" .null ∧ Fld Z h0 b "com/example/topf/topf/core/MapValue" "merging" "Z" (.int 0))) (A : own_AT Z h0 a xs) (hl : xs.length ≤ 3) (hE : ∀ x ∈ xs, Exa Z h0 x "java/util/KeyValueHolder") (hN : ∀ x ∈ xs, x ≠ ey) (EM : own_EMP Z em ea) (EY : own_MTY Z ey) (MR : own_Mir Z "[Ljava/lang/Object;" mr) :
    own_Met l Z n0 (⟨"com/example/topf/topf/core/MapValue", "<init>", "(Ljava/util/List;Ljava/lang/String;)V"⟩ : MethodName) prog_56_method_2_code 3 none ({ frames := 10, cells := 4, slots := 10, locals := 131 } : Room) #[(.ref b), (.ref a), .null] h0 (fun v h => v = none ∧ Keep h0 h [b] ∧ ∃ q : Addr, h0.size ≤ q ∧ (Exa Z h b "com/example/topf/topf/core/MapValue" ∧ Fld Z h b "com/example/topf/topf/core/MapValue" "entries" "Lcom/example/topf/topf/core/AppendedList;" (.ref q) ∧ Fld Z h b "com/example/topf/topf/core/MapValue" "mapClass" "Ljava/lang/String;" .null ∧ Fld Z h b "com/example/topf/topf/core/MapValue" "merging" "Z" (.int 0)) ∧ own_A1 Z h em ey q xs) := by
  refine own_enter (own := "com/example/topf/topf/core/MapValue") (nm := "<init>") (plainFor_of_name pn_21) rfl rfl O0 ?_
  have W : ∀ (k : Nat) {d : Jvm.Cond}, tables_1[k]? = some d → d.before a0 Z = true := fun k d q => hw d (List.mem_of_getElem? q)
  intro G p e s m below meth c T0 hGe X0
  rw [ef_own_mvlN m b a]
  refine own_aload_n (pc' := 1) X0 dd_prog_56_method_2_0 rfl rfl rfl ?_
  refine own_aload_n (pc' := 2) X0 dd_prog_56_method_2_1 rfl rfl rfl ?_
  refine own_callSM (pc' := 5) (cells' := 4) (slots' := 10) (argsL := [(.ref a)]) (rest := [(.ref b)]) (W := 1) (y := (⟨"com/example/topf/topf/core/AppendedList", "of", "(Ljava/util/List;)Lcom/example/topf/topf/core/AppendedList;"⟩ : MethodName)) X0 (W 123 rfl) (W 124 rfl) (by decide) (own_aof l Z a0 hw n0 a em ea ey mr xs h0 (own_old X0) A hl hE hN EM EY MR) (W 126 rfl) (W 125 rfl) (by decide) (by decide) rfl (lenOf pd_19 rfl) rfl rfl dd_prog_56_method_2_2 rfl rfl rfl rfl (by decide) (by decide) ?_
  intro v1 T1 h1 X1 q1
  obtain ⟨y1, rfl, K1, z1, A1⟩ := q1
  show G T1 (mkF m 5 #[.val (.ref b), .val (.ref a), .val .null] [(.ref y1), (.ref b)])
  refine own_aload_n (pc' := 6) X1 dd_prog_56_method_2_5 rfl rfl rfl ?_
  refine own_iconst (pc' := 7) X1 dd_prog_56_method_2_6 rfl (z := (0 : Int32)) (by decide) ?_
  have f2 := (p_B.1.keep K1)
  have f3 := (p_B.2.1.keep K1 nin0)
  have f4 := (p_B.2.2.1.keep K1 nin0)
  have f5 := (p_B.2.2.2.keep K1 nin0)
  refine own_callIM (pc' := 10) (cells' := 4) (slots' := 10) (argsL := [(.ref y1), .null, (.int (0 : Int32))]) (rest := []) (W := 0) (y := (⟨"com/example/topf/topf/core/MapValue", "<init>", "(Lcom/example/topf/topf/core/AppendedList;Ljava/lang/String;Z)V"⟩ : MethodName)) (a := b) X1 (W 164 rfl) (W 165 rfl) rfl (by decide) (own_mviV l Z a0 hw n0 b y1 (0 : Int32) .null h1 (own_old X1) n_b ⟨f2, f3, f4, f5⟩ (Or.inl rfl) rfl) (W 166 rfl) (W 119 rfl) (by decide) (by decide) rfl (lenOf pd_20 rfl) rfl rfl dd_prog_56_method_2_7 rfl rfl rfl rfl (by decide) (by decide) ?_
  intro v6 T6 h6 X6 q6
  obtain ⟨rfl, K6, P6⟩ := q6
  show G T6 (mkF m 10 #[.val (.ref b), .val (.ref a), .val .null] [])
  have age_y1 : h0.size ≤ y1 := Nat.le_trans (Nat.le_refl _) z1
  have f7 := (A1.keep ((Keep.refl h1 [b]).trans K6 (allS (Or.inl (List.mem_of_getElem? (i := 0) rfl)) all0)) (allS (own_far_mk (p_B.1.keep K1) (by decide)) all0))
  exact own_retV X6 hGe rfl dd_prog_56_method_2_10 (by decide) (by decide) ⟨rfl, (((Keep.refl h0 [b]).trans K1 all0).trans K6 (allS (Or.inl (List.mem_of_getElem? (i := 0) rfl)) all0)), y1, age_y1, ⟨P6.1, P6.2.1, P6.2.2.1, P6.2.2.2⟩, f7⟩
theorem ef_own_mvlR (m : MethodId) (x0 : Addr) (x1 : Addr) (x2 : Addr) : entryFrame m #[(.ref x0), (.ref x1), (.ref x2)] 3 = mkF m 0 #[.val (.ref x0), .val (.ref x1), .val (.ref x2)] [] := by first | (simp [entryFrame, mkF, argsToLocals, Value.category]; done) | rfl
set_option maxRecDepth 65536 in
set_option maxHeartbeats 40000000 in
theorem own_mvlR (l : Launch) (Z : State) (a0 : Array Value) (hw : ∀ d ∈ tables_1, d.before a0 Z = true) (n0 : Nat) (b a em ea ey mr : Addr) (xs : List Addr) (y : Addr) (h0 : Heap) (O0 : Old Z n0 h0) (n_b : n0 ≤ b) (p_B : (Exa Z h0 b "com/example/topf/topf/core/MapValue" ∧ Fld Z h0 b "com/example/topf/topf/core/MapValue" "entries" "Lcom/example/topf/topf/core/AppendedList;" .null ∧ Fld Z h0 b "com/example/topf/topf/core/MapValue" "mapClass" "Ljava/lang/String;" .null ∧ Fld Z h0 b "com/example/topf/topf/core/MapValue" "merging" "Z" (.int 0))) (A : own_AT Z h0 a xs) (hl : xs.length ≤ 3) (hE : ∀ x ∈ xs, Exa Z h0 x "java/util/KeyValueHolder") (hN : ∀ x ∈ xs, x ≠ ey) (EM : own_EMP Z em ea) (EY : own_MTY Z ey) (MR : own_Mir Z "[Ljava/lang/Object;" mr) :
    own_Met l Z n0 (⟨"com/example/topf/topf/core/MapValue", "<init>", "(Ljava/util/List;Ljava/lang/String;)V"⟩ : MethodName) prog_56_method_2_code 3 none ({ frames := 10, cells := 4, slots := 10, locals := 131 } : Room) #[(.ref b), (.ref a), (.ref y)] h0 (fun v h => v = none ∧ Keep h0 h [b] ∧ ∃ q : Addr, h0.size ≤ q ∧ (Exa Z h b "com/example/topf/topf/core/MapValue" ∧ Fld Z h b "com/example/topf/topf/core/MapValue" "entries" "Lcom/example/topf/topf/core/AppendedList;" (.ref q) ∧ Fld Z h b "com/example/topf/topf/core/MapValue" "mapClass" "Ljava/lang/String;" (.ref y) ∧ Fld Z h b "com/example/topf/topf/core/MapValue" "merging" "Z" (.int 0)) ∧ own_A1 Z h em ey q xs) := by
  refine own_enter (own := "com/example/topf/topf/core/MapValue") (nm := "<init>") (plainFor_of_name pn_21) rfl rfl O0 ?_
  have W : ∀ (k : Nat) {d : Jvm.Cond}, tables_1[k]? = some d → d.before a0 Z = true := fun k d q => hw d (List.mem_of_getElem? q)
  intro G p e s m below meth c T0 hGe X0
  rw [ef_own_mvlR m b a y]
  refine own_aload_n (pc' := 1) X0 dd_prog_56_method_2_0 rfl rfl rfl ?_
  refine own_aload_n (pc' := 2) X0 dd_prog_56_method_2_1 rfl rfl rfl ?_
  refine own_callSM (pc' := 5) (cells' := 4) (slots' := 10) (argsL := [(.ref a)]) (rest := [(.ref b)]) (W := 1) (y := (⟨"com/example/topf/topf/core/AppendedList", "of", "(Ljava/util/List;)Lcom/example/topf/topf/core/AppendedList;"⟩ : MethodName)) X0 (W 123 rfl) (W 124 rfl) (by decide) (own_aof l Z a0 hw n0 a em ea ey mr xs h0 (own_old X0) A hl hE hN EM EY MR) (W 126 rfl) (W 125 rfl) (by decide) (by decide) rfl (lenOf pd_19 rfl) rfl rfl dd_prog_56_method_2_2 rfl rfl rfl rfl (by decide) (by decide) ?_
  intro v1 T1 h1 X1 q1
  obtain ⟨y1, rfl, K1, z1, A1⟩ := q1
  show G T1 (mkF m 5 #[.val (.ref b), .val (.ref a), .val (.ref y)] [(.ref y1), (.ref b)])
  refine own_aload_n (pc' := 6) X1 dd_prog_56_method_2_5 rfl rfl rfl ?_
  refine own_iconst (pc' := 7) X1 dd_prog_56_method_2_6 rfl (z := (0 : Int32)) (by decide) ?_
  have f2 := (p_B.1.keep K1)
  have f3 := (p_B.2.1.keep K1 nin0)
  have f4 := (p_B.2.2.1.keep K1 nin0)
  have f5 := (p_B.2.2.2.keep K1 nin0)
  refine own_callIM (pc' := 10) (cells' := 4) (slots' := 10) (argsL := [(.ref y1), (.ref y), (.int (0 : Int32))]) (rest := []) (W := 0) (y := (⟨"com/example/topf/topf/core/MapValue", "<init>", "(Lcom/example/topf/topf/core/AppendedList;Ljava/lang/String;Z)V"⟩ : MethodName)) (a := b) X1 (W 164 rfl) (W 165 rfl) rfl (by decide) (own_mviV l Z a0 hw n0 b y1 (0 : Int32) (.ref y) h1 (own_old X1) n_b ⟨f2, f3, f4, f5⟩ (Or.inl rfl) rfl) (W 166 rfl) (W 119 rfl) (by decide) (by decide) rfl (lenOf pd_20 rfl) rfl rfl dd_prog_56_method_2_7 rfl rfl rfl rfl (by decide) (by decide) ?_
  intro v6 T6 h6 X6 q6
  obtain ⟨rfl, K6, P6⟩ := q6
  show G T6 (mkF m 10 #[.val (.ref b), .val (.ref a), .val (.ref y)] [])
  have age_y1 : h0.size ≤ y1 := Nat.le_trans (Nat.le_refl _) z1
  have f7 := (A1.keep ((Keep.refl h1 [b]).trans K6 (allS (Or.inl (List.mem_of_getElem? (i := 0) rfl)) all0)) (allS (own_far_mk (p_B.1.keep K1) (by decide)) all0))
  exact own_retV X6 hGe rfl dd_prog_56_method_2_10 (by decide) (by decide) ⟨rfl, (((Keep.refl h0 [b]).trans K1 all0).trans K6 (allS (Or.inl (List.mem_of_getElem? (i := 0) rfl)) all0)), y1, age_y1, ⟨P6.1, P6.2.1, P6.2.2.1, P6.2.2.2⟩, f7⟩
set_option maxRecDepth 65536 in
set_option maxHeartbeats 4000000 in
theorem own_mvlV (l : Launch) (Z : State) (a0 : Array Value) (hw : ∀ d ∈ tables_1, d.before a0 Z = true) (n0 : Nat) (b a em ea ey mr : Addr) (xs : List Addr) (vc : Value) (h0 : Heap) (O0 : Old Z n0 h0) (n_b : n0 ≤ b) (p_B : (Exa Z h0 b "com/example/topf/topf/core/MapValue" ∧ Fld Z h0 b "com/example/topf/topf/core/MapValue" "entries" "Lcom/example/topf/topf/core/AppendedList;" .null ∧ Fld Z h0 b "com/example/topf/topf/core/MapValue" "mapClass" "Ljava/lang/String;" .null ∧ Fld Z h0 b "com/example/topf/topf/core/MapValue" "merging" "Z" (.int 0))) (A : own_AT Z h0 a xs) (hl : xs.length ≤ 3) (hE : ∀ x ∈ xs, Exa Z h0 x "java/util/KeyValueHolder") (hN : ∀ x ∈ xs, x ≠ ey) (EM : own_EMP Z em ea) (EY : own_MTY Z ey) (MR : own_Mir Z "[Ljava/lang/Object;" mr) (p_r : vc.isRef = true) : own_Met l Z n0 (⟨"com/example/topf/topf/core/MapValue", "<init>", "(Ljava/util/List;Ljava/lang/String;)V"⟩ : MethodName) prog_56_method_2_code 3 none ({ frames := 10, cells := 4, slots := 10, locals := 131 } : Room) #[.ref b, .ref a, vc] h0 (fun v h => v = none ∧ Keep h0 h [b] ∧ ∃ q : Addr, h0.size ≤ q ∧ (Exa Z h b "com/example/topf/topf/core/MapValue" ∧ Fld Z h b "com/example/topf/topf/core/MapValue" "entries" "Lcom/example/topf/topf/core/AppendedList;" (.ref q) ∧ Fld Z h b "com/example/topf/topf/core/MapValue" "mapClass" "Ljava/lang/String;" vc ∧ Fld Z h b "com/example/topf/topf/core/MapValue" "merging" "Z" (.int 0)) ∧ own_A1 Z h em ey q xs) := by
  rcases own_rv p_r with rfl | ⟨y, rfl⟩
  · exact own_mvlN l Z a0 hw n0 b a em ea ey mr xs h0 O0 n_b p_B A hl hE hN EM EY MR
  · exact own_mvlR l Z a0 hw n0 b a em ea ey mr xs y h0 O0 n_b p_B A hl hE hN EM EY MR

theorem dd_prog_56_method_4_0 : decode prog_56_method_4_code 0 = .ok (.new 2, 3) := by decide +kernel
theorem dd_prog_56_method_4_3 : decode prog_56_method_4_code 3 = .ok (.dup, 1) := by decide +kernel
theorem dd_prog_56_method_4_4 : decode prog_56_method_4_code 4 = .ok (.aload_n 0, 1) := by decide +kernel
theorem dd_prog_56_method_4_5 : decode prog_56_method_4_code 5 = .ok (.getfield 21, 3) := by decide +kernel
theorem dd_prog_56_method_4_8 : decode prog_56_method_4_code 8 = .ok (.aload_n 0, 1) := by decide +kernel
theorem dd_prog_56_method_4_9 : decode prog_56_method_4_code 9 = .ok (.getfield 25, 3) := by decide +kernel
theorem dd_prog_56_method_4_12 : decode prog_56_method_4_code 12 = .ok (.iconst 1, 1) := by decide +kernel
theorem dd_prog_56_method_4_13 : decode prog_56_method_4_code 13 = .ok (.invokespecial 13, 3) := by decide +kernel
theorem dd_prog_56_method_4_16 : decode prog_56_method_4_code 16 = .ok (.areturn, 1) := by decide +kernel
theorem ef_own_mrg (m : MethodId) (x0 : Addr) : entryFrame m #[(.ref x0)] 1 = mkF m 0 #[.val (.ref x0)] [] := by first | (simp [entryFrame, mkF, argsToLocals, Value.category]; done) | rfl
set_option maxRecDepth 65536 in
set_option maxHeartbeats 40000000 in
theorem own_mrg (l : Launch) (Z : State) (a0 : Array Value) (hw : ∀ d ∈ tables_1, d.before a0 Z = true) (n0 : Nat) (b q : Addr) (vc : Value) (h0 : Heap) (O0 : Old Z n0 h0) (p_B : (Exa Z h0 b "com/example/topf/topf/core/MapValue" ∧ Fld Z h0 b "com/example/topf/topf/core/MapValue" "entries" "Lcom/example/topf/topf/core/AppendedList;" (.ref q) ∧ Fld Z h0 b "com/example/topf/topf/core/MapValue" "mapClass" "Ljava/lang/String;" vc ∧ Fld Z h0 b "com/example/topf/topf/core/MapValue" "merging" "Z" (.int 0))) (p_r : vc.isRef = true) :
    own_Met l Z n0 (⟨"com/example/topf/topf/core/MapValue", "merging", "()Lcom/example/topf/topf/core/MapValue;"⟩ : MethodName) prog_56_method_4_code 1 (some (.object "com/example/topf/topf/core/MapValue")) ({ frames := 2, cells := 1, slots := 3, locals := 28 } : Room) #[(.ref b)] h0 (fun v h => ∃ c : Addr, v = some (.ref c) ∧ Keep h0 h [] ∧ h0.size ≤ c ∧ (Exa Z h c "com/example/topf/topf/core/MapValue" ∧ Fld Z h c "com/example/topf/topf/core/MapValue" "entries" "Lcom/example/topf/topf/core/AppendedList;" (.ref q) ∧ Fld Z h c "com/example/topf/topf/core/MapValue" "mapClass" "Ljava/lang/String;" vc ∧ Fld Z h c "com/example/topf/topf/core/MapValue" "merging" "Z" (.int 1))) := by
  refine own_enter (own := "com/example/topf/topf/core/MapValue") (nm := "merging") (plainFor_of_name pn_21) rfl rfl O0 ?_
  have W : ∀ (k : Nat) {d : Jvm.Cond}, tables_1[k]? = some d → d.before a0 Z = true := fun k d q => hw d (List.mem_of_getElem? q)
  intro G p e s m below meth c T0 hGe X0
  rw [ef_own_mrg m b]
  refine own_new (pc' := 3) (cells' := 1) (slots' := 3) X0 (W 241 rfl) (W 118 rfl) (W 119 rfl) dd_prog_56_method_4_0 rfl rfl rfl (by decide) (by decide) ?_
  intro T1 h1 a1 g1 X1 K1 E1 D1 U1
  have n_a1 : n0 ≤ a1 := by rw [g1]; exact own_n0 X0
  have F1_entries : Fld Z h1 a1 "com/example/topf/topf/core/MapValue" "entries" "Lcom/example/topf/topf/core/AppendedList;" .null := D1 (Or.inr (W 169 rfl)) (ty := (.object "com/example/topf/topf/core/AppendedList")) (by decide)
  have F1_mapClass : Fld Z h1 a1 "com/example/topf/topf/core/MapValue" "mapClass" "Ljava/lang/String;" .null := D1 (Or.inr (W 171 rfl)) (ty := (.object "java/lang/String")) (by decide)
  have F1_merging : Fld Z h1 a1 "com/example/topf/topf/core/MapValue" "merging" "Z" (.int (0 : Int32)) := D1 (Or.inr (W 173 rfl)) (ty := .boolean) (by decide)
  refine own_dup (pc' := 4) X1 dd_prog_56_method_4_3 rfl rfl ?_
  refine own_aload_n (pc' := 5) X1 dd_prog_56_method_4_4 rfl rfl rfl ?_
  have f2 := (p_B.2.1.keep K1 nin0)
  refine own_get (pc' := 8) X1 (host := "") (Or.inl (W 168 rfl)) Via.refl f2 dd_prog_56_method_4_5 rfl ?_
  intro T3 X3
  refine own_aload_n (pc' := 9) X3 dd_prog_56_method_4_8 rfl rfl rfl ?_
  have f4 := (p_B.2.2.1.keep K1 nin0)
  refine own_get (pc' := 12) X3 (host := "") (Or.inl (W 170 rfl)) Via.refl f4 dd_prog_56_method_4_9 rfl ?_
  intro T5 X5
  refine own_iconst (pc' := 13) X5 dd_prog_56_method_4_12 rfl (z := (1 : Int32)) (by decide) ?_
  refine own_callIM (pc' := 16) (cells' := 1) (slots' := 3) (argsL := [(.ref q), vc, (.int (1 : Int32))]) (rest := [(.ref a1)]) (W := 1) (y := (⟨"com/example/topf/topf/core/MapValue", "<init>", "(Lcom/example/topf/topf/core/AppendedList;Ljava/lang/String;Z)V"⟩ : MethodName)) (a := a1) X5 (W 164 rfl) (W 165 rfl) rfl (by decide) (own_mviV l Z a0 hw n0 a1 q (1 : Int32) vc h1 (own_old X5) n_a1 ⟨E1, F1_entries, F1_mapClass, F1_merging⟩ (Or.inr rfl) p_r) (W 166 rfl) (W 119 rfl) (by decide) (by decide) rfl (lenOf pd_20 rfl) rfl rfl dd_prog_56_method_4_13 rfl rfl rfl rfl (by decide) (by decide) ?_
  intro v6 T6 h6 X6 q6
  obtain ⟨rfl, K6, P6⟩ := q6
  show G T6 (mkF m 16 #[.val (.ref b)] [(.ref a1)])
  have age_a1 : h0.size ≤ a1 := Nat.le_trans (Nat.le_refl _) (Nat.le_of_eq (Eq.symm g1))
  exact own_ret X6 hGe (t := (.object "com/example/topf/topf/core/MapValue")) rfl rfl (Or.inr (Or.inr (Or.inr (Or.inr ⟨rfl, rfl, rfl⟩)))) dd_prog_56_method_4_16 (by decide) (by decide) ⟨a1, rfl, (((Keep.refl h0 []).trans K1 all0).trans K6 (allS (Or.inr age_a1) all0)), age_a1, ⟨P6.1, P6.2.1, P6.2.2.1, P6.2.2.2⟩⟩
theorem dd_prog_56_method_8_0 : decode prog_56_method_8_code 0 = .ok (.aload_n 0, 1) := by decide +kernel
theorem dd_prog_56_method_8_1 : decode prog_56_method_8_code 1 = .ok (.getfield 29, 3) := by decide +kernel
theorem dd_prog_56_method_8_4 : decode prog_56_method_8_code 4 = .ok (.ireturn, 1) := by decide +kernel
theorem ef_own_ism (m : MethodId) (x0 : Addr) : entryFrame m #[(.ref x0)] 1 = mkF m 0 #[.val (.ref x0)] [] := by first | (simp [entryFrame, mkF, argsToLocals, Value.category]; done) | rfl
set_option maxRecDepth 65536 in
set_option maxHeartbeats 40000000 in
theorem own_ism (l : Launch) (Z : State) (a0 : Array Value) (hw : ∀ d ∈ tables_1, d.before a0 Z = true) (n0 : Nat) (b : Addr) (z : Int32) (h0 : Heap) (O0 : Old Z n0 h0) (p_z : z = 0 ∨ z = 1) (p_F : Fld Z h0 b "com/example/topf/topf/core/MapValue" "merging" "Z" (.int z)) :
    own_Met l Z n0 (⟨"com/example/topf/topf/core/MapValue", "isMerging", "()Z"⟩ : MethodName) prog_56_method_8_code 1 (some .boolean) ({ frames := 0, cells := 0, slots := 0, locals := 0 } : Room) #[(.ref b)] h0 (fun v h => v = some (.int z) ∧ h0 = h) := by
  refine own_enter (own := "com/example/topf/topf/core/MapValue") (nm := "isMerging") (plainFor_of_name pn_21) rfl rfl O0 ?_
  have W : ∀ (k : Nat) {d : Jvm.Cond}, tables_1[k]? = some d → d.before a0 Z = true := fun k d q => hw d (List.mem_of_getElem? q)
  intro G p e s m below meth c T0 hGe X0
  rw [ef_own_ism m b]
  refine own_aload_n (pc' := 1) X0 dd_prog_56_method_8_0 rfl rfl rfl ?_
  refine own_get (pc' := 4) X0 (host := "") (Or.inl (W 172 rfl)) Via.refl p_F dd_prog_56_method_8_1 rfl ?_
  intro T1 X1
  exact own_ret X1 hGe (t := .boolean) rfl (by rcases p_z with rfl | rfl <;> rfl) (Or.inl ⟨rfl, by simp, _, rfl⟩) dd_prog_56_method_8_4 (by decide) (by decide) ⟨rfl, rfl⟩
theorem dd_prog_56_method_6_0 : decode prog_56_method_6_code 0 = .ok (.aload_n 0, 1) := by decide +kernel
theorem dd_prog_56_method_6_1 : decode prog_56_method_6_code 1 = .ok (.getfield 25, 3) := by decide +kernel
theorem dd_prog_56_method_6_4 : decode prog_56_method_6_code 4 = .ok (.areturn, 1) := by decide +kernel
theorem ef_own_gmc (m : MethodId) (x0 : Addr) : entryFrame m #[(.ref x0)] 1 = mkF m 0 #[.val (.ref x0)] [] := by first | (simp [entryFrame, mkF, argsToLocals, Value.category]; done) | rfl
set_option maxRecDepth 65536 in
set_option maxHeartbeats 40000000 in
theorem own_gmc (l : Launch) (Z : State) (a0 : Array Value) (hw : ∀ d ∈ tables_1, d.before a0 Z = true) (n0 : Nat) (b : Addr) (vc : Value) (h0 : Heap) (O0 : Old Z n0 h0) (p_F : Fld Z h0 b "com/example/topf/topf/core/MapValue" "mapClass" "Ljava/lang/String;" vc) (p_r : vc.isRef = true) :
    own_Met l Z n0 (⟨"com/example/topf/topf/core/MapValue", "getMapClass", "()Ljava/lang/String;"⟩ : MethodName) prog_56_method_6_code 1 (some (.object "java/lang/String")) ({ frames := 0, cells := 0, slots := 0, locals := 0 } : Room) #[(.ref b)] h0 (fun v h => v = some vc ∧ h0 = h) := by
  refine own_enter (own := "com/example/topf/topf/core/MapValue") (nm := "getMapClass") (plainFor_of_name pn_21) rfl rfl O0 ?_
  have W : ∀ (k : Nat) {d : Jvm.Cond}, tables_1[k]? = some d → d.before a0 Z = true := fun k d q => hw d (List.mem_of_getElem? q)
  intro G p e s m below meth c T0 hGe X0
  rw [ef_own_gmc m b]
  refine own_aload_n (pc' := 1) X0 dd_prog_56_method_6_0 rfl rfl rfl ?_
  refine own_get (pc' := 4) X0 (host := "") (Or.inl (W 170 rfl)) Via.refl p_F dd_prog_56_method_6_1 rfl ?_
  intro T1 X1
  exact own_ret X1 hGe (t := (.object "java/lang/String")) rfl (own_narR p_r) (Or.inr (Or.inr (Or.inr (Or.inr ⟨rfl, rfl, p_r⟩)))) dd_prog_56_method_6_4 (by decide) (by decide) ⟨rfl, rfl⟩
theorem dd_method_4_0 : decode method_4_code 0 = .ok (.iload_n 0, 1) := by decide +kernel
theorem dd_method_4_1 : decode method_4_code 1 = .ok (.iconst 1, 1) := by decide +kernel
theorem dd_method_4_2 : decode method_4_code 2 = .ok (.iand, 1) := by decide +kernel
theorem dd_method_4_3 : decode method_4_code 3 = .ok (.ifCond .ne 5, 3) := by decide +kernel
theorem dd_method_4_6 : decode method_4_code 6 = .ok (.aconst_null, 1) := by decide +kernel
theorem dd_method_4_7 : decode method_4_code 7 = .ok (.areturn, 1) := by decide +kernel
theorem dd_method_4_8 : decode method_4_code 8 = .ok (.iconst 2, 1) := by decide +kernel
theorem dd_method_4_9 : decode method_4_code 9 = .ok (.newarray .char, 2) := by decide +kernel
theorem dd_method_4_11 : decode method_4_code 11 = .ok (.dup, 1) := by decide +kernel
theorem dd_method_4_12 : decode method_4_code 12 = .ok (.iconst 0, 1) := by decide +kernel
theorem dd_method_4_13 : decode method_4_code 13 = .ok (.iload_n 0, 1) := by decide +kernel
theorem dd_method_4_14 : decode method_4_code 14 = .ok (.iconst 1, 1) := by decide +kernel
theorem dd_method_4_15 : decode method_4_code 15 = .ok (.iushr, 1) := by decide +kernel
theorem dd_method_4_16 : decode method_4_code 16 = .ok (.sipush 255, 3) := by decide +kernel
theorem dd_method_4_19 : decode method_4_code 19 = .ok (.iand, 1) := by decide +kernel
theorem dd_method_4_20 : decode method_4_code 20 = .ok (.i2c, 1) := by decide +kernel
theorem dd_method_4_21 : decode method_4_code 21 = .ok (.castore, 1) := by decide +kernel
theorem dd_method_4_22 : decode method_4_code 22 = .ok (.dup, 1) := by decide +kernel
theorem dd_method_4_23 : decode method_4_code 23 = .ok (.iconst 1, 1) := by decide +kernel
theorem dd_method_4_24 : decode method_4_code 24 = .ok (.iload_n 0, 1) := by decide +kernel
theorem dd_method_4_25 : decode method_4_code 25 = .ok (.bipush 9, 2) := by decide +kernel
theorem dd_method_4_27 : decode method_4_code 27 = .ok (.iushr, 1) := by decide +kernel
theorem dd_method_4_28 : decode method_4_code 28 = .ok (.sipush 255, 3) := by decide +kernel
theorem dd_method_4_31 : decode method_4_code 31 = .ok (.iand, 1) := by decide +kernel
theorem dd_method_4_32 : decode method_4_code 32 = .ok (.i2c, 1) := by decide +kernel
theorem dd_method_4_33 : decode method_4_code 33 = .ok (.castore, 1) := by decide +kernel
theorem dd_method_4_34 : decode method_4_code 34 = .ok (.astore_n 1, 1) := by decide +kernel
theorem dd_method_4_35 : decode method_4_code 35 = .ok (.new 75, 3) := by decide +kernel
theorem dd_method_4_38 : decode method_4_code 38 = .ok (.dup, 1) := by decide +kernel
theorem dd_method_4_39 : decode method_4_code 39 = .ok (.aload_n 1, 1) := by decide +kernel
theorem dd_method_4_40 : decode method_4_code 40 = .ok (.invokespecial 77, 3) := by decide +kernel
theorem pd_21 : parseMethodDescriptor "([C)V" = some ⟨[(.array .char)], none⟩ := by decide +kernel
theorem dd_method_4_43 : decode method_4_code 43 = .ok (.areturn, 1) := by decide +kernel
theorem pn_22 : plainName "com/example/topf/topf/core/MapValueMergingPinLaw" = true := by first | (simp [plainName, overriddenIn]; done) | decide +kernel
theorem ef_own_name (m : MethodId) (x0 : Int32) : entryFrame m #[(.int x0)] 2 = mkF m 0 #[.val (.int x0), .unset] [] := by first | (simp [entryFrame, mkF, argsToLocals, Value.category]; done) | rfl
set_option maxRecDepth 65536 in
set_option maxHeartbeats 40000000 in
theorem own_name (l : Launch) (Z : State) (a0 : Array Value) (hw : ∀ d ∈ tables_1, d.before a0 Z = true) (n0 : Nat) (i : Int32) (h0 : Heap) (O0 : Old Z n0 h0) (CS : own_CS Z) :
    own_Met l Z n0 (⟨"com/example/topf/topf/core/MapValueMergingPinLaw", "name", "(I)Ljava/lang/String;"⟩ : MethodName) method_4_code 2 (some (.object "java/lang/String")) ({ frames := 4, cells := 3, slots := 8, locals := 66 } : Room) #[(.int i)] h0 (fun v h => ∃ vc : Value, v = some vc ∧ Keep h0 h [] ∧ own_NV Z h vc) := by
  refine own_enter (own := "com/example/topf/topf/core/MapValueMergingPinLaw") (nm := "name") (plainFor_of_name pn_22) rfl rfl O0 ?_
  have W : ∀ (k : Nat) {d : Jvm.Cond}, tables_1[k]? = some d → d.before a0 Z = true := fun k d q => hw d (List.mem_of_getElem? q)
  intro G p e s m below meth c T0 hGe X0
  rw [ef_own_name m i]
  refine own_iload_n (pc' := 1) X0 dd_method_4_0 rfl rfl ?_
  refine own_iconst (pc' := 2) X0 dd_method_4_1 rfl (z := (1 : Int32)) (by decide) ?_
  refine own_iand (pc' := 3) X0 dd_method_4_2 rfl (r := (i &&& (1 : Int32))) rfl ?_
  by_cases hi : (i &&& (1 : Int32)) = 0
  · refine own_ifN (pc' := 6) X0 dd_method_4_3 rfl ((teq hi).2) ?_
    refine own_aconst_null (pc' := 7) X0 dd_method_4_6 rfl ?_
    exact own_ret X0 hGe (t := (.object "java/lang/String")) rfl rfl (Or.inr (Or.inr (Or.inr (Or.inr ⟨rfl, rfl, rfl⟩)))) dd_method_4_7 (by decide) (by decide) ⟨_, rfl, (Keep.refl h0 []), Or.inl rfl⟩
  · refine own_ifY (pc' := 8) X0 dd_method_4_3 ((feq hi).2) (by decide) (by decide) ?_
    refine own_iconst (pc' := 9) X0 dd_method_4_8 rfl (z := (2 : Int32)) (by decide) ?_
    refine own_newarray (pc' := 11) (cells' := 1) (slots' := 2) (n := 2) (cap := 2) (dv := (.int 0)) X0 (W 89 rfl) rfl rfl (by decide) (by decide) dd_method_4_9 rfl rfl (by decide) (by decide) rfl (by decide) (by decide) ?_
    intro T1 h1 a1 k1 g1 X1 K1 A1
    have n_a1 : n0 ≤ a1 := by rw [g1]; exact own_n0 X0
    have A1' : own_Arr Z h1 a1 k1 .char [(.int 0), (.int 0)] := A1
    refine own_dup (pc' := 12) X1 dd_method_4_11 rfl rfl ?_
    refine own_iconst (pc' := 13) X1 dd_method_4_12 rfl (z := (0 : Int32)) (by decide) ?_
    refine own_iload_n (pc' := 14) X1 dd_method_4_13 rfl rfl ?_
    refine own_iconst (pc' := 15) X1 dd_method_4_14 rfl (z := (1 : Int32)) (by decide) ?_
    refine own_iushr (pc' := 16) X1 dd_method_4_15 rfl (r := (own_ushr i (1 : Int32))) rfl ?_
    refine own_sipush (pc' := 19) X1 dd_method_4_16 rfl (z := (255 : Int32)) (by decide) ?_
    refine own_iand (pc' := 20) X1 dd_method_4_19 rfl (r := ((own_ushr i (1 : Int32)) &&& (255 : Int32))) rfl ?_
    refine own_i2c (pc' := 21) X1 dd_method_4_20 rfl ?_
    refine own_castore (pc' := 22) (i := 0) (y := ((own_ushr i (1 : Int32)) &&& (255 : Int32))) X1 A1' (by decide) (Nat.le_of_ble_eq_true rfl) (own_nar255 _) n_a1 dd_method_4_21 rfl ?_
    intro T2 h2 X2 K2 A2
    have A2' : own_Arr Z h2 a1 k1 .char [(.int ((own_ushr i (1 : Int32)) &&& (255 : Int32))), (.int 0)] := A2
    refine own_dup (pc' := 23) X2 dd_method_4_22 rfl rfl ?_
    refine own_iconst (pc' := 24) X2 dd_method_4_23 rfl (z := (1 : Int32)) (by decide) ?_
    refine own_iload_n (pc' := 25) X2 dd_method_4_24 rfl rfl ?_
    refine own_bipush (pc' := 27) X2 dd_method_4_25 rfl (z := (9 : Int32)) (by decide) ?_
    refine own_iushr (pc' := 28) X2 dd_method_4_27 rfl (r := (own_ushr i (9 : Int32))) rfl ?_
    refine own_sipush (pc' := 31) X2 dd_method_4_28 rfl (z := (255 : Int32)) (by decide) ?_
    refine own_iand (pc' := 32) X2 dd_method_4_31 rfl (r := ((own_ushr i (9 : Int32)) &&& (255 : Int32))) rfl ?_
    refine own_i2c (pc' := 33) X2 dd_method_4_32 rfl ?_
    refine own_castore (pc' := 34) (i := 1) (y := ((own_ushr i (9 : Int32)) &&& (255 : Int32))) X2 A2' (by decide) (Nat.le_of_ble_eq_true rfl) (own_nar255 _) n_a1 dd_method_4_33 rfl ?_
    intro T3 h3 X3 K3 A3
    have A3' : own_Arr Z h3 a1 k1 .char [(.int ((own_ushr i (1 : Int32)) &&& (255 : Int32))), (.int ((own_ushr i (9 : Int32)) &&& (255 : Int32)))] := A3
    refine own_astore_n (pc' := 35) X3 dd_method_4_34 rfl rfl (Ls' := #[.val (.int i), .val (.ref a1)]) rfl ?_
    refine own_new (pc' := 38) (cells' := 2) (slots' := 6) X3 (W 90 rfl) (W 91 rfl) (W 92 rfl) dd_method_4_35 rfl rfl rfl (by decide) (by decide) ?_
    intro T4 h4 a4 g4 X4 K4 E4 D4 U4
    have n_a4 : n0 ≤ a4 := by rw [g4]; exact own_n0 X3
    have F4_coder : Fld Z h4 a4 "java/lang/String" "coder" "B" (.int (0 : Int32)) := D4 (Or.inr (W 114 rfl)) (ty := .byte) (by decide)
    have F4_value : Fld Z h4 a4 "java/lang/String" "value" "[B" .null := D4 (Or.inr (W 116 rfl)) (ty := (.array .byte)) (by decide)
    refine own_dup (pc' := 39) X4 dd_method_4_38 rfl rfl ?_
    refine own_aload_n (pc' := 40) X4 dd_method_4_39 rfl rfl rfl ?_
    have f5 := (A3'.keep K4 nin0)
    refine own_strinit (pc' := 43) (cells' := 3) (slots' := 8) (W := 1) (n := 2) (cs := [((own_ushr i (1 : Int32)) &&& (255 : Int32)), ((own_ushr i (9 : Int32)) &&& (255 : Int32))]) X4 (fun d hd => hw d (own_in_words d hd)) CS (W 93 rfl) (W 94 rfl) (W 95 rfl) (W 91 rfl) E4 F4_value F4_coder f5 n_a4 rfl (by decide) (by decide) (own_aS (own_255 _) (own_aS (own_255 _) own_a0)) (by decide) (by decide) (lenOf (L := [.ref a1]) pd_21 rfl) rfl rfl dd_method_4_40 rfl rfl rfl (by decide) (by decide) ?_
    intro T6 h6 t6 X6 K6 z6 S6
    have age_a1 : h0.size ≤ a1 := Nat.le_trans (Nat.le_refl _) (Nat.le_of_eq (Eq.symm g1))
    have age_a4 : h0.size ≤ a4 := Nat.le_trans (Nat.le_trans K1.1 (Nat.le_trans K2.1 (Nat.le_trans K3.1 (Nat.le_refl _)))) (Nat.le_of_eq (Eq.symm g4))
    exact own_ret X6 hGe (t := (.object "java/lang/String")) rfl rfl (Or.inr (Or.inr (Or.inr (Or.inr ⟨rfl, rfl, rfl⟩)))) dd_method_4_43 (by decide) (by decide) ⟨_, rfl, ((((((Keep.refl h0 []).trans K1 all0).trans K2 (allS (Or.inr age_a1) all0)).trans K3 (allS (Or.inr age_a1) all0)).trans K4 all0).trans K6 (allS (Or.inr age_a4) all0)), Or.inr ⟨a4, rfl, S6.1⟩⟩
theorem dd_jdk_42_method_66_0 : decode jdk_42_method_66_code 0 = .ok (.aload_n 0, 1) := by decide +kernel
theorem dd_jdk_42_method_66_1 : decode jdk_42_method_66_code 1 = .ok (.aload_n 1, 1) := by decide +kernel
theorem dd_jdk_42_method_66_2 : decode jdk_42_method_66_code 2 = .ok (.if_acmp .ne 5, 3) := by decide +kernel
theorem dd_jdk_42_method_66_5 : decode jdk_42_method_66_code 5 = .ok (.iconst 1, 1) := by decide +kernel
theorem dd_jdk_42_method_66_6 : decode jdk_42_method_66_code 6 = .ok (.ireturn, 1) := by decide +kernel
theorem pn_23 : plainName "java/lang/String" = true := by first | (simp [plainName, overriddenIn]; done) | decide +kernel
theorem ef_own_eqS (m : MethodId) (x0 : Addr) (x1 : Addr) : entryFrame m #[(.ref x0), (.ref x1)] 3 = mkF m 0 #[.val (.ref x0), .val (.ref x1), .unset] [] := by first | (simp [entryFrame, mkF, argsToLocals, Value.category]; done) | rfl
set_option maxRecDepth 65536 in
set_option maxHeartbeats 40000000 in
theorem own_eqS (l : Launch) (Z : State) (a0 : Array Value) (hw : ∀ d ∈ tables_1, d.before a0 Z = true) (n0 : Nat) (x : Addr) (h0 : Heap) (O0 : Old Z n0 h0)  :
    own_Met l Z n0 (⟨"java/lang/String", "equals", "(Ljava/lang/Object;)Z"⟩ : MethodName) jdk_42_method_66_code 3 (some .boolean) ({ frames := 0, cells := 0, slots := 0, locals := 0 } : Room) #[(.ref x), (.ref x)] h0 (fun v h => v = some (.int 1) ∧ h0 = h) := by
  refine own_enter (own := "java/lang/String") (nm := "equals") (plainFor_of_name pn_23) rfl rfl O0 ?_
  have W : ∀ (k : Nat) {d : Jvm.Cond}, tables_1[k]? = some d → d.before a0 Z = true := fun k d q => hw d (List.mem_of_getElem? q)
  intro G p e s m below meth c T0 hGe X0
  rw [ef_own_eqS m x x]
  refine own_aload_n (pc' := 1) X0 dd_jdk_42_method_66_0 rfl rfl rfl ?_
  refine own_aload_n (pc' := 2) X0 dd_jdk_42_method_66_1 rfl rfl rfl ?_
  refine own_acmp (pc' := 5) (same := true) X0 dd_jdk_42_method_66_2 rfl rfl (by simp) (by decide) (by decide) ?_
  refine own_iconst (pc' := 6) X0 dd_jdk_42_method_66_5 rfl (z := (1 : Int32)) (by decide) ?_
  exact own_ret X0 hGe (t := .boolean) rfl rfl (Or.inl ⟨rfl, by simp, _, rfl⟩) dd_jdk_42_method_66_6 (by decide) (by decide) ⟨rfl, rfl⟩
theorem dd_method_5_0 : decode method_5_code 0 = .ok (.aload_n 0, 1) := by decide +kernel
theorem dd_method_5_1 : decode method_5_code 1 = .ok (.ifnonnull 13, 3) := by decide +kernel
theorem dd_method_5_14 : decode method_5_code 14 = .ok (.aload_n 1, 1) := by decide +kernel
theorem dd_method_5_15 : decode method_5_code 15 = .ok (.ifnull 15, 3) := by decide +kernel
theorem dd_method_5_18 : decode method_5_code 18 = .ok (.aload_n 0, 1) := by decide +kernel
theorem dd_method_5_19 : decode method_5_code 19 = .ok (.aload_n 1, 1) := by decide +kernel
theorem dd_method_5_20 : decode method_5_code 20 = .ok (.invokevirtual 80, 3) := by decide +kernel
theorem pd_22 : parseMethodDescriptor "(Ljava/lang/Object;)Z" = some ⟨[(.object "java/lang/Object")], some .boolean⟩ := by decide +kernel
theorem dd_method_5_23 : decode method_5_code 23 = .ok (.ifCond .eq 7, 3) := by decide +kernel
theorem dd_method_5_26 : decode method_5_code 26 = .ok (.iconst 1, 1) := by decide +kernel
theorem dd_method_5_27 : decode method_5_code 27 = .ok (.goto 4, 3) := by decide +kernel
theorem dd_method_5_31 : decode method_5_code 31 = .ok (.ireturn, 1) := by decide +kernel
theorem ef_own_smR (m : MethodId) (x0 : Addr) (x1 : Addr) : entryFrame m #[(.ref x0), (.ref x1)] 2 = mkF m 0 #[.val (.ref x0), .val (.ref x1)] [] := by first | (simp [entryFrame, mkF, argsToLocals, Value.category]; done) | rfl
set_option maxRecDepth 65536 in
set_option maxHeartbeats 40000000 in
theorem own_smR (l : Launch) (Z : State) (a0 : Array Value) (hw : ∀ d ∈ tables_1, d.before a0 Z = true) (n0 : Nat) (x : Addr) (h0 : Heap) (O0 : Old Z n0 h0) (p_E : Exa Z h0 x "java/lang/String") :
    own_Met l Z n0 (⟨"com/example/topf/topf/core/MapValueMergingPinLaw", "same", "(Ljava/lang/String;Ljava/lang/String;)Z"⟩ : MethodName) method_5_code 2 (some .boolean) ({ frames := 1, cells := 0, slots := 0, locals := 14 } : Room) #[(.ref x), (.ref x)] h0 (fun v h => v = some (.int 1) ∧ h0 = h) := by
  refine own_enter (own := "com/example/topf/topf/core/MapValueMergingPinLaw") (nm := "same") (plainFor_of_name pn_22) rfl rfl O0 ?_
  have W : ∀ (k : Nat) {d : Jvm.Cond}, tables_1[k]? = some d → d.before a0 Z = true := fun k d q => hw d (List.mem_of_getElem? q)
  intro G p e s m below meth c T0 hGe X0
  rw [ef_own_smR m x x]
  refine own_aload_n (pc' := 1) X0 dd_method_5_0 rfl rfl rfl ?_
  refine own_ifnonnullY (pc' := 14) X0 dd_method_5_1 (by decide) (by decide) ?_
  refine own_aload_n (pc' := 15) X0 dd_method_5_14 rfl rfl rfl ?_
  refine own_ifnullN (pc' := 18) X0 dd_method_5_15 rfl ?_
  refine own_aload_n (pc' := 19) X0 dd_method_5_18 rfl rfl rfl ?_
  refine own_aload_n (pc' := 20) X0 dd_method_5_19 rfl rfl rfl ?_
  refine own_callVM (pc' := 23) (cells' := 0) (slots' := 0) (argsL := [(.ref x)]) (rest := []) (W := 0) (y := (⟨"java/lang/String", "equals", "(Ljava/lang/Object;)Z"⟩ : MethodName)) (z := (⟨"java/lang/String", "equals", "(Ljava/lang/Object;)Z"⟩ : MethodName)) (a := x) X0 (W 280 rfl) (W 281 rfl) (fun s' hZ' => notFace_of_selects (args := #[]) (mvT hZ' (W 283 rfl))) (W 283 rfl) (W 282 rfl) (by decide) p_E (own_eqS l Z a0 hw n0 x h0 (own_old X0) ) (W 284 rfl) (W 92 rfl) (by decide) (by decide) rfl (lenOf pd_22 rfl) rfl rfl dd_method_5_20 rfl rfl rfl rfl (by decide) (by decide) ?_
  intro v1 T1 h1 X1 q1
  obtain ⟨rfl, rfl⟩ := q1
  show G T1 (mkF m 23 #[.val (.ref x), .val (.ref x)] [(.int (1 : Int32))])
  refine own_ifN (pc' := 26) X1 dd_method_5_23 rfl ((feq (by decide)).1) ?_
  refine own_iconst (pc' := 27) X1 dd_method_5_26 rfl (z := (1 : Int32)) (by decide) ?_
  refine own_goto (pc' := 31) X1 dd_method_5_27 (by decide) (by decide) ?_
  exact own_ret X1 hGe (t := .boolean) rfl rfl (Or.inl ⟨rfl, by simp, _, rfl⟩) dd_method_5_31 (by decide) (by decide) ⟨rfl, rfl⟩
theorem dd_method_5_4 : decode method_5_code 4 = .ok (.aload_n 1, 1) := by decide +kernel
theorem dd_method_5_5 : decode method_5_code 5 = .ok (.ifnonnull 7, 3) := by decide +kernel
theorem dd_method_5_8 : decode method_5_code 8 = .ok (.iconst 1, 1) := by decide +kernel
theorem dd_method_5_9 : decode method_5_code 9 = .ok (.goto 4, 3) := by decide +kernel
theorem dd_method_5_13 : decode method_5_code 13 = .ok (.ireturn, 1) := by decide +kernel
theorem ef_own_smN (m : MethodId)  : entryFrame m #[.null, .null] 2 = mkF m 0 #[.val .null, .val .null] [] := by first | (simp [entryFrame, mkF, argsToLocals, Value.category]; done) | rfl
set_option maxRecDepth 65536 in
set_option maxHeartbeats 40000000 in
theorem own_smN (l : Launch) (Z : State) (a0 : Array Value) (hw : ∀ d ∈ tables_1, d.before a0 Z = true) (n0 : Nat)  (h0 : Heap) (O0 : Old Z n0 h0)  :
    own_Met l Z n0 (⟨"com/example/topf/topf/core/MapValueMergingPinLaw", "same", "(Ljava/lang/String;Ljava/lang/String;)Z"⟩ : MethodName) method_5_code 2 (some .boolean) ({ frames := 1, cells := 0, slots := 0, locals := 14 } : Room) #[.null, .null] h0 (fun v h => v = some (.int 1) ∧ h0 = h) := by
  refine own_enter (own := "com/example/topf/topf/core/MapValueMergingPinLaw") (nm := "same") (plainFor_of_name pn_22) rfl rfl O0 ?_
  have W : ∀ (k : Nat) {d : Jvm.Cond}, tables_1[k]? = some d → d.before a0 Z = true := fun k d q => hw d (List.mem_of_getElem? q)
  intro G p e s m below meth c T0 hGe X0
  rw [ef_own_smN m]
  refine own_aload_n (pc' := 1) X0 dd_method_5_0 rfl rfl rfl ?_
  refine own_ifnonnullN (pc' := 4) X0 dd_method_5_1 rfl ?_
  refine own_aload_n (pc' := 5) X0 dd_method_5_4 rfl rfl rfl ?_
  refine own_ifnonnullN (pc' := 8) X0 dd_method_5_5 rfl ?_
  refine own_iconst (pc' := 9) X0 dd_method_5_8 rfl (z := (1 : Int32)) (by decide) ?_
  refine own_goto (pc' := 13) X0 dd_method_5_9 (by decide) (by decide) ?_
  exact own_ret X0 hGe (t := .boolean) rfl rfl (Or.inl ⟨rfl, by simp, _, rfl⟩) dd_method_5_13 (by decide) (by decide) ⟨rfl, rfl⟩
set_option maxRecDepth 65536 in
set_option maxHeartbeats 4000000 in
theorem own_smV (l : Launch) (Z : State) (a0 : Array Value) (hw : ∀ d ∈ tables_1, d.before a0 Z = true) (n0 : Nat) (vc : Value) (h0 : Heap) (O0 : Old Z n0 h0) (p_v : own_NV Z h0 vc) : own_Met l Z n0 (⟨"com/example/topf/topf/core/MapValueMergingPinLaw", "same", "(Ljava/lang/String;Ljava/lang/String;)Z"⟩ : MethodName) method_5_code 2 (some .boolean) ({ frames := 1, cells := 0, slots := 0, locals := 14 } : Room) #[vc, vc] h0 (fun v h => v = some (.int 1) ∧ h0 = h) := by
  rcases p_v with rfl | ⟨y, rfl, q⟩
  · exact own_smN l Z a0 hw n0 h0 O0
  · exact own_smR l Z a0 hw n0 y h0 O0 q

theorem dd_prog_5_method_4_0 : decode prog_5_method_4_code 0 = .ok (.aload_n 0, 1) := by decide +kernel
theorem dd_prog_5_method_4_1 : decode prog_5_method_4_code 1 = .ok (.getfield 7, 3) := by decide +kernel
theorem dd_prog_5_method_4_4 : decode prog_5_method_4_code 4 = .ok (.ifnonnull 11, 3) := by decide +kernel
theorem dd_prog_5_method_4_7 : decode prog_5_method_4_code 7 = .ok (.aload_n 0, 1) := by decide +kernel
theorem dd_prog_5_method_4_8 : decode prog_5_method_4_code 8 = .ok (.getfield 13, 3) := by decide +kernel
theorem dd_prog_5_method_4_11 : decode prog_5_method_4_code 11 = .ok (.astore_n 1, 1) := by decide +kernel
theorem dd_prog_5_method_4_12 : decode prog_5_method_4_code 12 = .ok (.goto 112, 3) := by decide +kernel
theorem dd_prog_5_method_4_124 : decode prog_5_method_4_code 124 = .ok (.aload_n 1, 1) := by decide +kernel
theorem dd_prog_5_method_4_125 : decode prog_5_method_4_code 125 = .ok (.areturn, 1) := by decide +kernel
theorem ef_own_it1 (m : MethodId) (x0 : Addr) : entryFrame m #[(.ref x0)] 6 = mkF m 0 #[.val (.ref x0), .unset, .unset, .unset, .unset, .unset] [] := by first | (simp [entryFrame, mkF, argsToLocals, Value.category]; done) | rfl
set_option maxRecDepth 65536 in
set_option maxHeartbeats 40000000 in
theorem own_it1 (l : Launch) (Z : State) (a0 : Array Value) (hw : ∀ d ∈ tables_1, d.before a0 Z = true) (n0 : Nat) (b em ey : Addr) (xs : List Addr) (h0 : Heap) (O0 : Old Z n0 h0) (A : own_A1 Z h0 em ey b xs) :
    own_Met l Z n0 (⟨"com/example/topf/topf/core/AppendedList", "items", "()Ljava/util/List;"⟩ : MethodName) prog_5_method_4_code 6 (some (.object "java/util/List")) ({ frames := 0, cells := 0, slots := 0, locals := 0 } : Room) #[(.ref b)] h0 (fun v h => ∃ ct : Addr, v = some (.ref ct) ∧ h0 = h ∧ own_IL Z h em ey ct xs) := by
  refine own_enter (own := "com/example/topf/topf/core/AppendedList") (nm := "items") (plainFor_of_name pn_20) rfl rfl O0 ?_
  have W : ∀ (k : Nat) {d : Jvm.Cond}, tables_1[k]? = some d → d.before a0 Z = true := fun k d q => hw d (List.mem_of_getElem? q)
  intro G p e s m below meth c T0 hGe X0
  rw [ef_own_it1 m b]
  obtain ⟨ct, p_P, p_I⟩ := A
  refine own_aload_n (pc' := 1) X0 dd_prog_5_method_4_0 rfl rfl rfl ?_
  refine own_get (pc' := 4) X0 (host := "") (Or.inl (W 160 rfl)) Via.refl p_P.2.1 dd_prog_5_method_4_1 rfl ?_
  intro T1 X1
  refine own_ifnonnullN (pc' := 7) X1 dd_prog_5_method_4_4 rfl ?_
  refine own_aload_n (pc' := 8) X1 dd_prog_5_method_4_7 rfl rfl rfl ?_
  refine own_get (pc' := 11) X1 (host := "") (Or.inl (W 162 rfl)) Via.refl p_P.2.2 dd_prog_5_method_4_8 rfl ?_
  intro T2 X2
  refine own_astore_n (pc' := 12) X2 dd_prog_5_method_4_11 rfl rfl (Ls' := #[.val (.ref b), .val (.ref ct), .unset, .unset, .unset, .unset]) rfl ?_
  refine own_goto (pc' := 124) X2 dd_prog_5_method_4_12 (by decide) (by decide) ?_
  refine own_aload_n (pc' := 125) X2 dd_prog_5_method_4_124 rfl rfl rfl ?_
  exact own_ret X2 hGe (t := (.object "java/util/List")) rfl rfl (Or.inr (Or.inr (Or.inr (Or.inr ⟨rfl, rfl, rfl⟩)))) dd_prog_5_method_4_125 (by decide) (by decide) ⟨ct, rfl, rfl, p_I⟩
theorem dd_jdk_56_method_3_26 : decode jdk_56_method_3_code 26 = .ok (.aload_n 0, 1) := by decide +kernel
theorem dd_jdk_56_method_3_27 : decode jdk_56_method_3_code 27 = .ok (.checkcast 18, 3) := by decide +kernel
theorem dd_jdk_56_method_3_30 : decode jdk_56_method_3_code 30 = .ok (.areturn, 1) := by decide +kernel
theorem ef_own_lciA (m : MethodId) (x0 : Addr) : entryFrame m #[(.ref x0)] 2 = mkF m 0 #[.val (.ref x0), .unset] [] := by first | (simp [entryFrame, mkF, argsToLocals, Value.category]; done) | rfl
set_option maxRecDepth 65536 in
set_option maxHeartbeats 40000000 in
theorem own_lciA (l : Launch) (Z : State) (a0 : Array Value) (hw : ∀ d ∈ tables_1, d.before a0 Z = true) (n0 : Nat) (c0 : Addr) (h0 : Heap) (O0 : Old Z n0 h0) (p_E : Exa Z h0 c0 "java/util/ImmutableCollections$List12") :
    own_Met l Z n0 (⟨"java/util/ImmutableCollections", "listCopy", "(Ljava/util/Collection;)Ljava/util/List;"⟩ : MethodName) jdk_56_method_3_code 2 (some (.object "java/util/List")) ({ frames := 0, cells := 0, slots := 0, locals := 0 } : Room) #[(.ref c0)] h0 (fun v h => v = some (.ref c0) ∧ h0 = h) := by
  refine own_enter (own := "java/util/ImmutableCollections") (nm := "listCopy") (plainFor_of_name pn_9) rfl rfl O0 ?_
  have W : ∀ (k : Nat) {d : Jvm.Cond}, tables_1[k]? = some d → d.before a0 Z = true := fun k d q => hw d (List.mem_of_getElem? q)
  intro G p e s m below meth c T0 hGe X0
  rw [ef_own_lciA m c0]
  refine own_aload_n (pc' := 1) X0 dd_jdk_56_method_3_0 rfl rfl rfl ?_
  refine own_instY (pc' := 4) X0 (W 137 rfl) (Ins.self p_E) dd_jdk_56_method_3_1 rfl ?_
  intro T1 X1
  refine own_ifY (pc' := 26) X1 dd_jdk_56_method_3_4 ((feq (by decide)).2) (by decide) (by decide) ?_
  refine own_aload_n (pc' := 27) X1 dd_jdk_56_method_3_26 rfl rfl rfl ?_
  refine own_castY (pc' := 30) X1 (W 313 rfl) (Ins.of_exa p_E (W 438 rfl)) dd_jdk_56_method_3_27 rfl ?_
  intro T2 X2
  exact own_ret X2 hGe (t := (.object "java/util/List")) rfl rfl (Or.inr (Or.inr (Or.inr (Or.inr ⟨rfl, rfl, rfl⟩)))) dd_jdk_56_method_3_30 (by decide) (by decide) ⟨rfl, rfl⟩
theorem dd_jdk_56_method_3_14 : decode jdk_56_method_3_code 14 = .ok (.aload_n 0, 1) := by decide +kernel
theorem dd_jdk_56_method_3_15 : decode jdk_56_method_3_code 15 = .ok (.checkcast 12, 3) := by decide +kernel
theorem dd_jdk_56_method_3_18 : decode jdk_56_method_3_code 18 = .ok (.astore_n 1, 1) := by decide +kernel
theorem dd_jdk_56_method_3_19 : decode jdk_56_method_3_code 19 = .ok (.aload_n 1, 1) := by decide +kernel
theorem dd_jdk_56_method_3_20 : decode jdk_56_method_3_code 20 = .ok (.getfield 14, 3) := by decide +kernel
theorem dd_jdk_56_method_3_23 : decode jdk_56_method_3_code 23 = .ok (.ifCond .ne 8, 3) := by decide +kernel
theorem ef_own_lciB (m : MethodId) (x0 : Addr) : entryFrame m #[(.ref x0)] 2 = mkF m 0 #[.val (.ref x0), .unset] [] := by first | (simp [entryFrame, mkF, argsToLocals, Value.category]; done) | rfl
set_option maxRecDepth 65536 in
set_option maxHeartbeats 40000000 in
theorem own_lciB (l : Launch) (Z : State) (a0 : Array Value) (hw : ∀ d ∈ tables_1, d.before a0 Z = true) (n0 : Nat) (c0 q0 : Addr) (h0 : Heap) (O0 : Old Z n0 h0) (p_L : (Exa Z h0 c0 "java/util/ImmutableCollections$ListN" ∧ Fld Z h0 c0 "java/util/ImmutableCollections$ListN" "elements" "[Ljava/lang/Object;" (.ref q0) ∧ Fld Z h0 c0 "java/util/ImmutableCollections$ListN" "allowNulls" "Z" (.int 0))) :
    own_Met l Z n0 (⟨"java/util/ImmutableCollections", "listCopy", "(Ljava/util/Collection;)Ljava/util/List;"⟩ : MethodName) jdk_56_method_3_code 2 (some (.object "java/util/List")) ({ frames := 0, cells := 0, slots := 0, locals := 0 } : Room) #[(.ref c0)] h0 (fun v h => v = some (.ref c0) ∧ h0 = h) := by
  refine own_enter (own := "java/util/ImmutableCollections") (nm := "listCopy") (plainFor_of_name pn_9) rfl rfl O0 ?_
  have W : ∀ (k : Nat) {d : Jvm.Cond}, tables_1[k]? = some d → d.before a0 Z = true := fun k d q => hw d (List.mem_of_getElem? q)
  intro G p e s m below meth c T0 hGe X0
  rw [ef_own_lciB m c0]
  refine own_aload_n (pc' := 1) X0 dd_jdk_56_method_3_0 rfl rfl rfl ?_
  refine own_instN (pc' := 4) X0 (W 137 rfl) p_L.1 (own_Up.no (own_Up.step (W 309 rfl) (own_Up.step (W 310 rfl) (own_Up.step (W 311 rfl) (own_Up.step (W 140 rfl) (own_Up.top (W 141 rfl)))))) (W 309 rfl) (W 419 rfl) (by decide) (by decide)) dd_jdk_56_method_3_1 rfl ?_
  intro T1 X1
  refine own_ifN (pc' := 7) X1 dd_jdk_56_method_3_4 rfl ((teq rfl).2) ?_
  refine own_aload_n (pc' := 8) X1 dd_jdk_56_method_3_7 rfl rfl rfl ?_
  refine own_instY (pc' := 11) X1 (W 142 rfl) (Ins.self p_L.1) dd_jdk_56_method_3_8 rfl ?_
  intro T2 X2
  refine own_ifN (pc' := 14) X2 dd_jdk_56_method_3_11 rfl ((feq (by decide)).1) ?_
  refine own_aload_n (pc' := 15) X2 dd_jdk_56_method_3_14 rfl rfl rfl ?_
  refine own_castY (pc' := 18) X2 (W 142 rfl) (Ins.self p_L.1) dd_jdk_56_method_3_15 rfl ?_
  intro T3 X3
  refine own_astore_n (pc' := 19) X3 dd_jdk_56_method_3_18 rfl rfl (Ls' := #[.val (.ref c0), .val (.ref c0)]) rfl ?_
  refine own_aload_n (pc' := 20) X3 dd_jdk_56_method_3_19 rfl rfl rfl ?_
  refine own_get (pc' := 23) X3 (Or.inr (W 312 rfl)) Via.refl p_L.2.2 dd_jdk_56_method_3_20 rfl ?_
  intro T4 X4
  refine own_ifN (pc' := 26) X4 dd_jdk_56_method_3_23 rfl ((teq rfl).2) ?_
  refine own_aload_n (pc' := 27) X4 dd_jdk_56_method_3_26 rfl rfl rfl ?_
  refine own_castY (pc' := 30) X4 (W 313 rfl) (Ins.of_exa p_L.1 (W 278 rfl)) dd_jdk_56_method_3_27 rfl ?_
  intro T5 X5
  exact own_ret X5 hGe (t := (.object "java/util/List")) rfl rfl (Or.inr (Or.inr (Or.inr (Or.inr ⟨rfl, rfl, rfl⟩)))) dd_jdk_56_method_3_30 (by decide) (by decide) ⟨rfl, rfl⟩
set_option maxRecDepth 65536 in
set_option maxHeartbeats 4000000 in
theorem own_lciG (l : Launch) (Z : State) (a0 : Array Value) (hw : ∀ d ∈ tables_1, d.before a0 Z = true) (n0 : Nat) (c0 em ey : Addr) (xs : List Addr) (h0 : Heap) (O0 : Old Z n0 h0) (I : own_IL Z h0 em ey c0 xs) (hx : xs ≠ []) : own_Met l Z n0 (⟨"java/util/ImmutableCollections", "listCopy", "(Ljava/util/Collection;)Ljava/util/List;"⟩ : MethodName) jdk_56_method_3_code 2 (some (.object "java/util/List")) ({ frames := 0, cells := 0, slots := 0, locals := 0 } : Room) #[.ref c0] h0 (fun v h => v = some (.ref c0) ∧ h0 = h) := by
  rcases own_l3 I.len with rfl | ⟨x0, rfl⟩ | ⟨x0, x1, rfl⟩ | ⟨x0, x1, x2, rfl⟩
  · exact absurd rfl hx
  · exact own_lciA l Z a0 hw n0 c0 h0 O0 I.1
  · exact own_lciA l Z a0 hw n0 c0 h0 O0 I.1.1
  · obtain ⟨q0, kq, p_L, _⟩ := I
    exact own_lciB l Z a0 hw n0 c0 q0 h0 O0 p_L

theorem ef_own_cpi (m : MethodId) (x0 : Addr) : entryFrame m #[(.ref x0)] 1 = mkF m 0 #[.val (.ref x0)] [] := by first | (simp [entryFrame, mkF, argsToLocals, Value.category]; done) | rfl
set_option maxRecDepth 65536 in
set_option maxHeartbeats 40000000 in
theorem own_cpi (l : Launch) (Z : State) (a0 : Array Value) (hw : ∀ d ∈ tables_1, d.before a0 Z = true) (n0 : Nat) (c0 em ey : Addr) (xs : List Addr) (h0 : Heap) (O0 : Old Z n0 h0) (I : own_IL Z h0 em ey c0 xs) (hx : xs ≠ []) :
    own_Met l Z n0 (⟨"java/util/List", "copyOf", "(Ljava/util/Collection;)Ljava/util/List;"⟩ : MethodName) jdk_40_method_48_code 1 (some (.object "java/util/List")) ({ frames := 1, cells := 0, slots := 0, locals := 13 } : Room) #[(.ref c0)] h0 (fun v h => v = some (.ref c0) ∧ h0 = h) := by
  refine own_enter (own := "java/util/List") (nm := "copyOf") (plainFor_of_name pn_10) rfl rfl O0 ?_
  have W : ∀ (k : Nat) {d : Jvm.Cond}, tables_1[k]? = some d → d.before a0 Z = true := fun k d q => hw d (List.mem_of_getElem? q)
  intro G p e s m below meth c T0 hGe X0
  rw [ef_own_cpi m c0]
  refine own_aload_n (pc' := 1) X0 dd_jdk_40_method_48_0 rfl rfl rfl ?_
  refine own_callSM (pc' := 4) (cells' := 0) (slots' := 0) (argsL := [(.ref c0)]) (rest := []) (W := 0) (y := (⟨"java/util/ImmutableCollections", "listCopy", "(Ljava/util/Collection;)Ljava/util/List;"⟩ : MethodName)) X0 (W 133 rfl) (W 134 rfl) (by decide) (own_lciG l Z a0 hw n0 c0 em ey xs h0 (own_old X0) I hx) (W 136 rfl) (W 135 rfl) (by decide) (by decide) rfl (lenOf pd_7 rfl) rfl rfl dd_jdk_40_method_48_1 rfl rfl rfl rfl (by decide) (by decide) ?_
  intro v1 T1 h1 X1 q1
  obtain ⟨rfl, rfl⟩ := q1
  show G T1 (mkF m 4 #[.val (.ref c0)] [(.ref c0)])
  exact own_ret X1 hGe (t := (.object "java/util/List")) rfl rfl (Or.inr (Or.inr (Or.inr (Or.inr ⟨rfl, rfl, rfl⟩)))) dd_jdk_40_method_48_4 (by decide) (by decide) ⟨rfl, rfl⟩
theorem dd_prog_5_method_3_0 : decode prog_5_method_3_code 0 = .ok (.aload_n 1, 1) := by decide +kernel
theorem dd_prog_5_method_3_1 : decode prog_5_method_3_code 1 = .ok (.invokeinterface 26 1, 5) := by decide +kernel
theorem dd_prog_5_method_3_6 : decode prog_5_method_3_code 6 = .ok (.ifCond .eq 8, 3) := by decide +kernel
theorem dd_prog_5_method_3_9 : decode prog_5_method_3_code 9 = .ok (.aload_n 0, 1) := by decide +kernel
theorem dd_prog_5_method_3_10 : decode prog_5_method_3_code 10 = .ok (.astore_n 2, 1) := by decide +kernel
theorem dd_prog_5_method_3_11 : decode prog_5_method_3_code 11 = .ok (.goto 16, 3) := by decide +kernel
theorem dd_prog_5_method_3_27 : decode prog_5_method_3_code 27 = .ok (.aload_n 2, 1) := by decide +kernel
theorem dd_prog_5_method_3_28 : decode prog_5_method_3_code 28 = .ok (.areturn, 1) := by decide +kernel
theorem dd_prog_5_method_3_14 : decode prog_5_method_3_code 14 = .ok (.new 8, 3) := by decide +kernel
theorem dd_prog_5_method_3_17 : decode prog_5_method_3_code 17 = .ok (.dup, 1) := by decide +kernel
theorem dd_prog_5_method_3_18 : decode prog_5_method_3_code 18 = .ok (.aload_n 0, 1) := by decide +kernel
theorem dd_prog_5_method_3_19 : decode prog_5_method_3_code 19 = .ok (.aload_n 1, 1) := by decide +kernel
theorem dd_prog_5_method_3_20 : decode prog_5_method_3_code 20 = .ok (.invokestatic 17, 3) := by decide +kernel
theorem dd_prog_5_method_3_23 : decode prog_5_method_3_code 23 = .ok (.invokespecial 23, 3) := by decide +kernel
theorem dd_prog_5_method_3_26 : decode prog_5_method_3_code 26 = .ok (.astore_n 2, 1) := by decide +kernel
theorem ef_own_apd (m : MethodId) (x0 : Addr) (x1 : Addr) : entryFrame m #[(.ref x0), (.ref x1)] 3 = mkF m 0 #[.val (.ref x0), .val (.ref x1), .unset] [] := by first | (simp [entryFrame, mkF, argsToLocals, Value.category]; done) | rfl
set_option maxRecDepth 65536 in
set_option maxHeartbeats 40000000 in
theorem own_apd (l : Launch) (Z : State) (a0 : Array Value) (hw : ∀ d ∈ tables_1, d.before a0 Z = true) (n0 : Nat) (b c0 em ea ey : Addr) (zs ys : List Addr) (h0 : Heap) (O0 : Old Z n0 h0) (A : own_A1 Z h0 em ey b zs) (I : own_IL Z h0 em ey c0 ys) (EM : own_EMP Z em ea) (EY : own_MTY Z ey) :
    own_Met l Z n0 (⟨"com/example/topf/topf/core/AppendedList", "append", "(Ljava/util/List;)Lcom/example/topf/topf/core/AppendedList;"⟩ : MethodName) prog_5_method_3_code 3 (some (.object "com/example/topf/topf/core/AppendedList")) ({ frames := 2, cells := 1, slots := 2, locals := 28 } : Room) #[(.ref b), (.ref c0)] h0 (fun v h => ∃ q : Addr, v = some (.ref q) ∧ Keep h0 h [] ∧ own_A2 Z h em ey q zs ys) := by
  refine own_enter (own := "com/example/topf/topf/core/AppendedList") (nm := "append") (plainFor_of_name pn_20) rfl rfl O0 ?_
  have W : ∀ (k : Nat) {d : Jvm.Cond}, tables_1[k]? = some d → d.before a0 Z = true := fun k d q => hw d (List.mem_of_getElem? q)
  intro G p e s m below meth c T0 hGe X0
  rw [ef_own_apd m b c0]
  refine own_aload_n (pc' := 1) X0 dd_prog_5_method_3_0 rfl rfl rfl ?_
  refine own_callIC (pc' := 6) (cells' := 0) (slots' := 0) (argsL := []) (rest := []) (W := 0) (y := (⟨"java/util/List", "isEmpty", "()Z"⟩ : MethodName)) (a := c0) X0 (W 271 rfl) (W 272 rfl) (fun s' a' hZ' => mvT hZ' (W 273 rfl)) (by decide) (own_il_emp l Z a0 hw n0 c0 em ea ey ys h0 (own_old X0) I EM EY) (by decide) (by decide) rfl (lenOf pd_5 rfl) rfl rfl dd_prog_5_method_3_1 rfl rfl rfl rfl (by decide) (by decide) ?_
  intro v1 T1 h1 X1 q1
  obtain ⟨rfl, rfl⟩ := q1
  show G T1 (mkF m 6 #[.val (.ref b), .val (.ref c0), .unset] [(.int (if ys.length = 0 then (1 : Int32) else 0))])
  by_cases hy : ys.length = 0
  · rw [if_pos hy]
    refine own_ifN (pc' := 9) X1 dd_prog_5_method_3_6 rfl ((feq (by decide)).1) ?_
    refine own_aload_n (pc' := 10) X1 dd_prog_5_method_3_9 rfl rfl rfl ?_
    refine own_astore_n (pc' := 11) X1 dd_prog_5_method_3_10 rfl rfl (Ls' := #[.val (.ref b), .val (.ref c0), .val (.ref b)]) rfl ?_
    refine own_goto (pc' := 27) X1 dd_prog_5_method_3_11 (by decide) (by decide) ?_
    refine own_aload_n (pc' := 28) X1 dd_prog_5_method_3_27 rfl rfl rfl ?_
    exact own_ret X1 hGe (t := (.object "com/example/topf/topf/core/AppendedList")) rfl rfl (Or.inr (Or.inr (Or.inr (Or.inr ⟨rfl, rfl, rfl⟩)))) dd_prog_5_method_3_28 (by decide) (by decide) ⟨b, rfl, (Keep.refl h0 []), Or.inl ⟨List.eq_nil_of_length_eq_zero hy, A⟩⟩
  · rw [if_neg hy]
    refine own_ifY (pc' := 14) X1 dd_prog_5_method_3_6 ((teq rfl).1) (by decide) (by decide) ?_
    refine own_new (pc' := 17) (cells' := 1) (slots' := 2) X1 (W 127 rfl) (W 128 rfl) (W 125 rfl) dd_prog_5_method_3_14 rfl rfl rfl (by decide) (by decide) ?_
    intro T2 h2 a2 g2 X2 K2 E2 D2 U2
    have n_a2 : n0 ≤ a2 := by rw [g2]; exact own_n0 X1
    have F2_first : Fld Z h2 a2 "com/example/topf/topf/core/AppendedList" "first" "Lcom/example/topf/topf/core/AppendedList;" .null := D2 (Or.inr (W 161 rfl)) (ty := (.object "com/example/topf/topf/core/AppendedList")) (by decide)
    have F2_last : Fld Z h2 a2 "com/example/topf/topf/core/AppendedList" "last" "Ljava/util/List;" .null := D2 (Or.inr (W 163 rfl)) (ty := (.object "java/util/List")) (by decide)
    refine own_dup (pc' := 18) X2 dd_prog_5_method_3_17 rfl rfl ?_
    refine own_aload_n (pc' := 19) X2 dd_prog_5_method_3_18 rfl rfl rfl ?_
    refine own_aload_n (pc' := 20) X2 dd_prog_5_method_3_19 rfl rfl rfl ?_
    have f3 := (I.keep ((Keep.refl h0 []).trans K2 all0) all0)
    refine own_callSM (pc' := 23) (cells' := 1) (slots' := 2) (argsL := [(.ref c0)]) (rest := [(.ref b), (.ref a2), (.ref a2)]) (W := 3) (y := (⟨"java/util/List", "copyOf", "(Ljava/util/Collection;)Ljava/util/List;"⟩ : MethodName)) X2 (W 129 rfl) (W 130 rfl) (by decide) (own_cpi l Z a0 hw n0 c0 em ey ys h2 (own_old X2) f3 (fun q => hy (by rw [q]; rfl))) (W 132 rfl) (W 131 rfl) (by decide) (by decide) rfl (lenOf pd_7 rfl) rfl rfl dd_prog_5_method_3_20 rfl rfl rfl rfl (by decide) (by decide) ?_
    intro v4 T4 h4 X4 q4
    obtain ⟨rfl, rfl⟩ := q4
    show G T4 (mkF m 23 #[.val (.ref b), .val (.ref c0), .unset] [(.ref c0), (.ref b), (.ref a2), (.ref a2)])
    refine own_callIM (pc' := 26) (cells' := 1) (slots' := 2) (argsL := [(.ref b), (.ref c0)]) (rest := [(.ref a2)]) (W := 1) (y := (⟨"com/example/topf/topf/core/AppendedList", "<init>", "(Lcom/example/topf/topf/core/AppendedList;Ljava/util/List;)V"⟩ : MethodName)) (a := a2) X4 (W 156 rfl) (W 157 rfl) rfl (by decide) (own_apiR l Z a0 hw n0 a2 c0 b h2 (own_old X4) n_a2 ⟨E2, F2_first, F2_last⟩) (W 158 rfl) (W 125 rfl) (by decide) (by decide) rfl (lenOf pd_18 rfl) rfl rfl dd_prog_5_method_3_23 rfl rfl rfl rfl (by decide) (by decide) ?_
    intro v5 T5 h5 X5 q5
    obtain ⟨rfl, K5, P5⟩ := q5
    show G T5 (mkF m 26 #[.val (.ref b), .val (.ref c0), .unset] [(.ref a2)])
    refine own_astore_n (pc' := 27) X5 dd_prog_5_method_3_26 rfl rfl (Ls' := #[.val (.ref b), .val (.ref c0), .val (.ref a2)]) rfl ?_
    refine own_aload_n (pc' := 28) X5 dd_prog_5_method_3_27 rfl rfl rfl ?_
    have age_a2 : h0.size ≤ a2 := Nat.le_trans (Nat.le_refl _) (Nat.le_of_eq (Eq.symm g2))
    have f6 := (A.keep (((Keep.refl h0 []).trans K2 all0).trans K5 (allS (Or.inr (Nat.le_trans (Nat.le_refl _) (Nat.le_of_eq (Eq.symm g2)))) all0)) all0)
    have f7 := (I.keep (((Keep.refl h0 []).trans K2 all0).trans K5 (allS (Or.inr (Nat.le_trans (Nat.le_refl _) (Nat.le_of_eq (Eq.symm g2)))) all0)) all0)
    exact own_ret X5 hGe (t := (.object "com/example/topf/topf/core/AppendedList")) rfl rfl (Or.inr (Or.inr (Or.inr (Or.inr ⟨rfl, rfl, rfl⟩)))) dd_prog_5_method_3_28 (by decide) (by decide) ⟨a2, rfl, (((Keep.refl h0 []).trans K2 all0).trans K5 (allS (Or.inr age_a2) all0)), Or.inr ⟨b, c0, hy, ⟨P5.1, P5.2.1, P5.2.2⟩, f6, f7⟩⟩
theorem dd_prog_56_method_9_0 : decode prog_56_method_9_code 0 = .ok (.aload_n 0, 1) := by decide +kernel
theorem dd_prog_56_method_9_1 : decode prog_56_method_9_code 1 = .ok (.getfield 29, 3) := by decide +kernel
theorem dd_prog_56_method_9_4 : decode prog_56_method_9_code 4 = .ok (.ifCond .ne 5, 3) := by decide +kernel
theorem dd_prog_56_method_9_9 : decode prog_56_method_9_code 9 = .ok (.aload_n 1, 1) := by decide +kernel
theorem dd_prog_56_method_9_10 : decode prog_56_method_9_code 10 = .ok (.instanceof 2, 3) := by decide +kernel
theorem dd_prog_56_method_9_13 : decode prog_56_method_9_code 13 = .ok (.ifCond .eq 11, 3) := by decide +kernel
theorem dd_prog_56_method_9_16 : decode prog_56_method_9_code 16 = .ok (.aload_n 1, 1) := by decide +kernel
theorem dd_prog_56_method_9_17 : decode prog_56_method_9_code 17 = .ok (.checkcast 2, 3) := by decide +kernel
theorem dd_prog_56_method_9_20 : decode prog_56_method_9_code 20 = .ok (.astore_n 2, 1) := by decide +kernel
theorem dd_prog_56_method_9_21 : decode prog_56_method_9_code 21 = .ok (.goto 13, 3) := by decide +kernel
theorem dd_prog_56_method_9_34 : decode prog_56_method_9_code 34 = .ok (.new 2, 3) := by decide +kernel
theorem dd_prog_56_method_9_37 : decode prog_56_method_9_code 37 = .ok (.dup, 1) := by decide +kernel
theorem dd_prog_56_method_9_38 : decode prog_56_method_9_code 38 = .ok (.aload_n 2, 1) := by decide +kernel
theorem dd_prog_56_method_9_39 : decode prog_56_method_9_code 39 = .ok (.getfield 21, 3) := by decide +kernel
theorem dd_prog_56_method_9_42 : decode prog_56_method_9_code 42 = .ok (.aload_n 0, 1) := by decide +kernel
theorem dd_prog_56_method_9_43 : decode prog_56_method_9_code 43 = .ok (.getfield 21, 3) := by decide +kernel
theorem dd_prog_56_method_9_46 : decode prog_56_method_9_code 46 = .ok (.invokevirtual 33, 3) := by decide +kernel
theorem dd_prog_56_method_9_49 : decode prog_56_method_9_code 49 = .ok (.invokevirtual 87, 3) := by decide +kernel
theorem dd_prog_56_method_9_52 : decode prog_56_method_9_code 52 = .ok (.aload_n 0, 1) := by decide +kernel
theorem dd_prog_56_method_9_53 : decode prog_56_method_9_code 53 = .ok (.getfield 25, 3) := by decide +kernel
theorem dd_prog_56_method_9_56 : decode prog_56_method_9_code 56 = .ok (.ifnull 10, 3) := by decide +kernel
theorem dd_prog_56_method_9_66 : decode prog_56_method_9_code 66 = .ok (.aload_n 2, 1) := by decide +kernel
theorem dd_prog_56_method_9_67 : decode prog_56_method_9_code 67 = .ok (.getfield 25, 3) := by decide +kernel
theorem dd_prog_56_method_9_70 : decode prog_56_method_9_code 70 = .ok (.iconst 0, 1) := by decide +kernel
theorem dd_prog_56_method_9_71 : decode prog_56_method_9_code 71 = .ok (.invokespecial 13, 3) := by decide +kernel
theorem dd_prog_56_method_9_74 : decode prog_56_method_9_code 74 = .ok (.areturn, 1) := by decide +kernel
theorem dd_prog_56_method_9_59 : decode prog_56_method_9_code 59 = .ok (.aload_n 0, 1) := by decide +kernel
theorem dd_prog_56_method_9_60 : decode prog_56_method_9_code 60 = .ok (.getfield 25, 3) := by decide +kernel
theorem dd_prog_56_method_9_63 : decode prog_56_method_9_code 63 = .ok (.goto 7, 3) := by decide +kernel
theorem ef_own_inh (m : MethodId) (x0 : Addr) (x1 : Addr) : entryFrame m #[(.ref x0), (.ref x1)] 3 = mkF m 0 #[.val (.ref x0), .val (.ref x1), .unset] [] := by first | (simp [entryFrame, mkF, argsToLocals, Value.category]; done) | rfl
set_option maxRecDepth 65536 in
set_option maxHeartbeats 40000000 in
theorem own_inh (l : Launch) (Z : State) (a0 : Array Value) (hw : ∀ d ∈ tables_1, d.before a0 Z = true) (n0 : Nat) (b d p1 p2 em ea ey : Addr) (zs ys : List Addr) (vc vd : Value) (h0 : Heap) (O0 : Old Z n0 h0) (p_B : (Exa Z h0 b "com/example/topf/topf/core/MapValue" ∧ Fld Z h0 b "com/example/topf/topf/core/MapValue" "entries" "Lcom/example/topf/topf/core/AppendedList;" (.ref p1) ∧ Fld Z h0 b "com/example/topf/topf/core/MapValue" "mapClass" "Ljava/lang/String;" vc ∧ Fld Z h0 b "com/example/topf/topf/core/MapValue" "merging" "Z" (.int 1))) (p_D : (Exa Z h0 d "com/example/topf/topf/core/MapValue" ∧ Fld Z h0 d "com/example/topf/topf/core/MapValue" "entries" "Lcom/example/topf/topf/core/AppendedList;" (.ref p2) ∧ Fld Z h0 d "com/example/topf/topf/core/MapValue" "mapClass" "Ljava/lang/String;" vd ∧ Fld Z h0 d "com/example/topf/topf/core/MapValue" "merging" "Z" (.int 0))) (A1 : own_A1 Z h0 em ey p1 ys) (A2 : own_A1 Z h0 em ey p2 zs) (p_r : vc.isRef = true) (p_s : vd.isRef = true) (EM : own_EMP Z em ea) (EY : own_MTY Z ey) :
    own_Met l Z n0 (⟨"com/example/topf/topf/core/MapValue", "inheriting", "(Lcom/example/topf/topf/core/DefinedValue;)Lcom/example/topf/topf/core/DefinedValue;"⟩ : MethodName) prog_56_method_9_code 3 (some (.object "com/example/topf/topf/core/DefinedValue")) ({ frames := 3, cells := 2, slots := 5, locals := 44 } : Room) #[(.ref b), (.ref d)] h0 (fun v h => ∃ r q : Addr, v = some (.ref r) ∧ Keep h0 h [] ∧ (Exa Z h r "com/example/topf/topf/core/MapValue" ∧ Fld Z h r "com/example/topf/topf/core/MapValue" "entries" "Lcom/example/topf/topf/core/AppendedList;" (.ref q) ∧ Fld Z h r "com/example/topf/topf/core/MapValue" "mapClass" "Ljava/lang/String;" (own_or vc vd) ∧ Fld Z h r "com/example/topf/topf/core/MapValue" "merging" "Z" (.int 0)) ∧ own_A2 Z h em ey q zs ys) := by
  refine own_enter (own := "com/example/topf/topf/core/MapValue") (nm := "inheriting") (plainFor_of_name pn_21) rfl rfl O0 ?_
  have W : ∀ (k : Nat) {d : Jvm.Cond}, tables_1[k]? = some d → d.before a0 Z = true := fun k d q => hw d (List.mem_of_getElem? q)
  intro G p e s m below meth c T0 hGe X0
  rw [ef_own_inh m b d]
  refine own_aload_n (pc' := 1) X0 dd_prog_56_method_9_0 rfl rfl rfl ?_
  refine own_get (pc' := 4) X0 (host := "") (Or.inl (W 172 rfl)) Via.refl p_B.2.2.2 dd_prog_56_method_9_1 rfl ?_
  intro T1 X1
  refine own_ifY (pc' := 9) X1 dd_prog_56_method_9_4 ((feq (by decide)).2) (by decide) (by decide) ?_
  refine own_aload_n (pc' := 10) X1 dd_prog_56_method_9_9 rfl rfl rfl ?_
  refine own_instY (pc' := 13) X1 (W 241 rfl) (Ins.self p_D.1) dd_prog_56_method_9_10 rfl ?_
  intro T2 X2
  refine own_ifN (pc' := 16) X2 dd_prog_56_method_9_13 rfl ((feq (by decide)).1) ?_
  refine own_aload_n (pc' := 17) X2 dd_prog_56_method_9_16 rfl rfl rfl ?_
  refine own_castY (pc' := 20) X2 (W 241 rfl) (Ins.self p_D.1) dd_prog_56_method_9_17 rfl ?_
  intro T3 X3
  refine own_astore_n (pc' := 21) X3 dd_prog_56_method_9_20 rfl rfl (Ls' := #[.val (.ref b), .val (.ref d), .val (.ref d)]) rfl ?_
  refine own_goto (pc' := 34) X3 dd_prog_56_method_9_21 (by decide) (by decide) ?_
  refine own_new (pc' := 37) (cells' := 1) (slots' := 3) X3 (W 241 rfl) (W 118 rfl) (W 119 rfl) dd_prog_56_method_9_34 rfl rfl rfl (by decide) (by decide) ?_
  intro T4 h4 a4 g4 X4 K4 E4 D4 U4
  have n_a4 : n0 ≤ a4 := by rw [g4]; exact own_n0 X3
  have F4_entries : Fld Z h4 a4 "com/example/topf/topf/core/MapValue" "entries" "Lcom/example/topf/topf/core/AppendedList;" .null := D4 (Or.inr (W 169 rfl)) (ty := (.object "com/example/topf/topf/core/AppendedList")) (by decide)
  have F4_mapClass : Fld Z h4 a4 "com/example/topf/topf/core/MapValue" "mapClass" "Ljava/lang/String;" .null := D4 (Or.inr (W 171 rfl)) (ty := (.object "java/lang/String")) (by decide)
  have F4_merging : Fld Z h4 a4 "com/example/topf/topf/core/MapValue" "merging" "Z" (.int (0 : Int32)) := D4 (Or.inr (W 173 rfl)) (ty := .boolean) (by decide)
  refine own_dup (pc' := 38) X4 dd_prog_56_method_9_37 rfl rfl ?_
  refine own_aload_n (pc' := 39) X4 dd_prog_56_method_9_38 rfl rfl rfl ?_
  have f5 := (p_D.2.1.keep K4 nin0)
  refine own_get (pc' := 42) X4 (host := "") (Or.inl (W 168 rfl)) Via.refl f5 dd_prog_56_method_9_39 rfl ?_
  intro T6 X6
  refine own_aload_n (pc' := 43) X6 dd_prog_56_method_9_42 rfl rfl rfl ?_
  have f7 := (p_B.2.1.keep K4 nin0)
  refine own_get (pc' := 46) X6 (host := "") (Or.inl (W 168 rfl)) Via.refl f7 dd_prog_56_method_9_43 rfl ?_
  intro T8 X8
  have f9 := (A1.keep ((Keep.refl h0 []).trans K4 all0) all0)
  have f11 := (A1.exa.keep K4)
  refine own_callVM (pc' := 49) (cells' := 1) (slots' := 3) (argsL := []) (rest := [(.ref p2), (.ref a4), (.ref a4)]) (W := 3) (y := (⟨"com/example/topf/topf/core/AppendedList", "items", "()Ljava/util/List;"⟩ : MethodName)) (z := (⟨"com/example/topf/topf/core/AppendedList", "items", "()Ljava/util/List;"⟩ : MethodName)) (a := p1) X8 (W 261 rfl) (W 262 rfl) (fun s' hZ' => notFace_of_selects (args := #[]) (mvT hZ' (W 264 rfl))) (W 264 rfl) (W 263 rfl) (by decide) f11 (own_it1 l Z a0 hw n0 p1 em ey ys h4 (own_old X8) f9) (W 265 rfl) (W 125 rfl) (by decide) (by decide) rfl (lenOf pd_6 rfl) rfl rfl dd_prog_56_method_9_46 rfl rfl rfl rfl (by decide) (by decide) ?_
  intro v10 T10 h10 X10 q10
  obtain ⟨ct10, rfl, rfl, I10⟩ := q10
  show G T10 (mkF m 49 #[.val (.ref b), .val (.ref d), .val (.ref d)] [(.ref ct10), (.ref p2), (.ref a4), (.ref a4)])
  have f12 := (A2.keep ((Keep.refl h0 []).trans K4 all0) all0)
  have f14 := (A2.exa.keep K4)
  refine own_callVM (pc' := 52) (cells' := 2) (slots' := 5) (argsL := [(.ref ct10)]) (rest := [(.ref a4), (.ref a4)]) (W := 2) (y := (⟨"com/example/topf/topf/core/AppendedList", "append", "(Ljava/util/List;)Lcom/example/topf/topf/core/AppendedList;"⟩ : MethodName)) (z := (⟨"com/example/topf/topf/core/AppendedList", "append", "(Ljava/util/List;)Lcom/example/topf/topf/core/AppendedList;"⟩ : MethodName)) (a := p2) X10 (W 266 rfl) (W 267 rfl) (fun s' hZ' => notFace_of_selects (args := #[]) (mvT hZ' (W 269 rfl))) (W 269 rfl) (W 268 rfl) (by decide) f14 (own_apd l Z a0 hw n0 p2 ct10 em ea ey zs ys h4 (own_old X10) f12 I10 EM EY) (W 270 rfl) (W 125 rfl) (by decide) (by decide) rfl (lenOf pd_19 rfl) rfl rfl dd_prog_56_method_9_49 rfl rfl rfl rfl (by decide) (by decide) ?_
  intro v13 T13 h13 X13 q13
  obtain ⟨y13, rfl, K13, A13⟩ := q13
  show G T13 (mkF m 52 #[.val (.ref b), .val (.ref d), .val (.ref d)] [(.ref y13), (.ref a4), (.ref a4)])
  rcases own_rv p_r with rfl | ⟨yc, rfl⟩
  · refine own_aload_n (pc' := 53) X13 dd_prog_56_method_9_52 rfl rfl rfl ?_
    have f15 := ((p_B.2.2.1.keep K4 nin0).keep K13 nin0)
    refine own_get (pc' := 56) X13 (host := "") (Or.inl (W 170 rfl)) Via.refl f15 dd_prog_56_method_9_53 rfl ?_
    intro T16 X16
    refine own_ifnullY (pc' := 66) X16 dd_prog_56_method_9_56 (by decide) (by decide) ?_
    refine own_aload_n (pc' := 67) X16 dd_prog_56_method_9_66 rfl rfl rfl ?_
    have f17 := ((p_D.2.2.1.keep K4 nin0).keep K13 nin0)
    refine own_get (pc' := 70) X16 (host := "") (Or.inl (W 170 rfl)) Via.refl f17 dd_prog_56_method_9_67 rfl ?_
    intro T18 X18
    refine own_iconst (pc' := 71) X18 dd_prog_56_method_9_70 rfl (z := (0 : Int32)) (by decide) ?_
    have f19 := (E4.keep K13)
    have f20 := (F4_entries.keep K13 nin0)
    have f21 := (F4_mapClass.keep K13 nin0)
    have f22 := (F4_merging.keep K13 nin0)
    refine own_callIM (pc' := 74) (cells' := 2) (slots' := 5) (argsL := [(.ref y13), vd, (.int (0 : Int32))]) (rest := [(.ref a4)]) (W := 1) (y := (⟨"com/example/topf/topf/core/MapValue", "<init>", "(Lcom/example/topf/topf/core/AppendedList;Ljava/lang/String;Z)V"⟩ : MethodName)) (a := a4) X18 (W 164 rfl) (W 165 rfl) rfl (by decide) (own_mviV l Z a0 hw n0 a4 y13 (0 : Int32) vd h13 (own_old X18) n_a4 ⟨f19, f20, f21, f22⟩ (Or.inl rfl) p_s) (W 166 rfl) (W 119 rfl) (by decide) (by decide) rfl (lenOf pd_20 rfl) rfl rfl dd_prog_56_method_9_71 rfl rfl rfl rfl (by decide) (by decide) ?_
    intro v23 T23 h23 X23 q23
    obtain ⟨rfl, K23, P23⟩ := q23
    show G T23 (mkF m 74 #[.val (.ref b), .val (.ref d), .val (.ref d)] [(.ref a4)])
    have age_a4 : h0.size ≤ a4 := Nat.le_trans (Nat.le_refl _) (Nat.le_of_eq (Eq.symm g4))
    have f24 := (A13.keep ((Keep.refl h13 [a4]).trans K23 (allS (Or.inl (List.mem_of_getElem? (i := 0) rfl)) all0)) (allS (own_far_mk (E4.keep K13) (by decide)) all0))
    exact own_ret X23 hGe (t := (.object "com/example/topf/topf/core/DefinedValue")) rfl rfl (Or.inr (Or.inr (Or.inr (Or.inr ⟨rfl, rfl, rfl⟩)))) dd_prog_56_method_9_74 (by decide) (by decide) ⟨a4, y13, rfl, ((((Keep.refl h0 []).trans K4 all0).trans K13 all0).trans K23 (allS (Or.inr age_a4) all0)), ⟨P23.1, P23.2.1, P23.2.2.1, P23.2.2.2⟩, f24⟩
  · refine own_aload_n (pc' := 53) X13 dd_prog_56_method_9_52 rfl rfl rfl ?_
    have f25 := ((p_B.2.2.1.keep K4 nin0).keep K13 nin0)
    refine own_get (pc' := 56) X13 (host := "") (Or.inl (W 170 rfl)) Via.refl f25 dd_prog_56_method_9_53 rfl ?_
    intro T26 X26
    refine own_ifnullN (pc' := 59) X26 dd_prog_56_method_9_56 rfl ?_
    refine own_aload_n (pc' := 60) X26 dd_prog_56_method_9_59 rfl rfl rfl ?_
    refine own_get (pc' := 63) X26 (host := "") (Or.inl (W 170 rfl)) Via.refl f25 dd_prog_56_method_9_60 rfl ?_
    intro T27 X27
    refine own_goto (pc' := 70) X27 dd_prog_56_method_9_63 (by decide) (by decide) ?_
    refine own_iconst (pc' := 71) X27 dd_prog_56_method_9_70 rfl (z := (0 : Int32)) (by decide) ?_
    have f28 := (E4.keep K13)
    have f29 := (F4_entries.keep K13 nin0)
    have f30 := (F4_mapClass.keep K13 nin0)
    have f31 := (F4_merging.keep K13 nin0)
    refine own_callIM (pc' := 74) (cells' := 2) (slots' := 5) (argsL := [(.ref y13), (.ref yc), (.int (0 : Int32))]) (rest := [(.ref a4)]) (W := 1) (y := (⟨"com/example/topf/topf/core/MapValue", "<init>", "(Lcom/example/topf/topf/core/AppendedList;Ljava/lang/String;Z)V"⟩ : MethodName)) (a := a4) X27 (W 164 rfl) (W 165 rfl) rfl (by decide) (own_mviV l Z a0 hw n0 a4 y13 (0 : Int32) (.ref yc) h13 (own_old X27) n_a4 ⟨f28, f29, f30, f31⟩ (Or.inl rfl) rfl) (W 166 rfl) (W 119 rfl) (by decide) (by decide) rfl (lenOf pd_20 rfl) rfl rfl dd_prog_56_method_9_71 rfl rfl rfl rfl (by decide) (by decide) ?_
    intro v32 T32 h32 X32 q32
    obtain ⟨rfl, K32, P32⟩ := q32
    show G T32 (mkF m 74 #[.val (.ref b), .val (.ref d), .val (.ref d)] [(.ref a4)])
    have age_a4 : h0.size ≤ a4 := Nat.le_trans (Nat.le_refl _) (Nat.le_of_eq (Eq.symm g4))
    have f33 := (A13.keep ((Keep.refl h13 [a4]).trans K32 (allS (Or.inl (List.mem_of_getElem? (i := 0) rfl)) all0)) (allS (own_far_mk (E4.keep K13) (by decide)) all0))
    exact own_ret X32 hGe (t := (.object "com/example/topf/topf/core/DefinedValue")) rfl rfl (Or.inr (Or.inr (Or.inr (Or.inr ⟨rfl, rfl, rfl⟩)))) dd_prog_56_method_9_74 (by decide) (by decide) ⟨a4, y13, rfl, ((((Keep.refl h0 []).trans K4 all0).trans K13 all0).trans K32 (allS (Or.inr age_a4) all0)), ⟨P32.1, P32.2.1, P32.2.2.1, P32.2.2.2⟩, f33⟩
theorem dd_jdk_38_method_24_0 : decode jdk_38_method_24_code 0 = .ok (.iload_n 3, 1) := by decide +kernel
theorem dd_jdk_38_method_24_1 : decode jdk_38_method_24_code 1 = .ok (.aload_n 2, 1) := by decide +kernel
theorem dd_jdk_38_method_24_2 : decode jdk_38_method_24_code 2 = .ok (.arraylength, 1) := by decide +kernel
theorem dd_jdk_38_method_24_3 : decode jdk_38_method_24_code 3 = .ok (.if_icmp .ne 8, 3) := by decide +kernel
theorem dd_jdk_38_method_24_6 : decode jdk_38_method_24_code 6 = .ok (.aload_n 0, 1) := by decide +kernel
theorem dd_jdk_38_method_24_7 : decode jdk_38_method_24_code 7 = .ok (.invokevirtual 129, 3) := by decide +kernel
theorem dd_jdk_38_method_24_10 : decode jdk_38_method_24_code 10 = .ok (.astore_n 2, 1) := by decide +kernel
theorem dd_jdk_38_method_24_11 : decode jdk_38_method_24_code 11 = .ok (.aload_n 2, 1) := by decide +kernel
theorem dd_jdk_38_method_24_12 : decode jdk_38_method_24_code 12 = .ok (.iload_n 3, 1) := by decide +kernel
theorem dd_jdk_38_method_24_13 : decode jdk_38_method_24_code 13 = .ok (.aload_n 1, 1) := by decide +kernel
theorem dd_jdk_38_method_24_14 : decode jdk_38_method_24_code 14 = .ok (.aastore, 1) := by decide +kernel
theorem dd_jdk_38_method_24_15 : decode jdk_38_method_24_code 15 = .ok (.aload_n 0, 1) := by decide +kernel
theorem dd_jdk_38_method_24_16 : decode jdk_38_method_24_code 16 = .ok (.iload_n 3, 1) := by decide +kernel
theorem dd_jdk_38_method_24_17 : decode jdk_38_method_24_code 17 = .ok (.iconst 1, 1) := by decide +kernel
theorem dd_jdk_38_method_24_18 : decode jdk_38_method_24_code 18 = .ok (.iadd, 1) := by decide +kernel
theorem dd_jdk_38_method_24_19 : decode jdk_38_method_24_code 19 = .ok (.putfield 48, 3) := by decide +kernel
theorem dd_jdk_38_method_24_22 : decode jdk_38_method_24_code 22 = .ok (.return_, 1) := by decide +kernel
theorem ef_own_add3a (m : MethodId) (x0 : Addr) (x1 : Addr) (x2 : Addr) (x3 : Int32) : entryFrame m #[(.ref x0), (.ref x1), (.ref x2), (.int x3)] 4 = mkF m 0 #[.val (.ref x0), .val (.ref x1), .val (.ref x2), .val (.int x3)] [] := by first | (simp [entryFrame, mkF, argsToLocals, Value.category]; done) | rfl
set_option maxRecDepth 65536 in
set_option maxHeartbeats 40000000 in
theorem own_add3a (l : Launch) (Z : State) (a0 : Array Value) (hw : ∀ d ∈ tables_1, d.before a0 Z = true) (n0 : Nat) (a x dd : Addr) (mc : Int32) (h0 : Heap) (O0 : Old Z n0 h0) (n_a : n0 ≤ a) (p_L : (Exa Z h0 a "java/util/ArrayList" ∧ Fld Z h0 a "java/util/ArrayList" "elementData" "[Ljava/lang/Object;" (.ref dd) ∧ Fld Z h0 a "java/util/ArrayList" "size" "I" (.int 0) ∧ Fld Z h0 a "java/util/AbstractList" "modCount" "I" (.int mc))) (DE : own_DEF Z dd) (p_X : own_Ob a0 Z h0 x) :
    own_Met l Z n0 (⟨"java/util/ArrayList", "add", "(Ljava/lang/Object;[Ljava/lang/Object;I)V"⟩ : MethodName) jdk_38_method_24_code 4 none ({ frames := 3, cells := 1, slots := 10, locals := 41 } : Room) #[(.ref a), (.ref x), (.ref dd), (.int (0 : Int32))] h0 (fun v h => v = none ∧ ∃ (e : Addr) (k : ClassId), Keep h0 h [a] ∧ h0.size ≤ e ∧ (∃ mc, (Exa Z h a "java/util/ArrayList" ∧ Fld Z h a "java/util/ArrayList" "elementData" "[Ljava/lang/Object;" (.ref e) ∧ Fld Z h a "java/util/ArrayList" "size" "I" (.int 1) ∧ Fld Z h a "java/util/AbstractList" "modCount" "I" (.int mc))) ∧ own_Arr Z h e k (.object "java/lang/Object") [(.ref x), .null, .null, .null, .null, .null, .null, .null, .null, .null] ∧ Exa Z h e "[Ljava/lang/Object;" ∧ Ovr Z k "java/lang/Object") := by
  refine own_enter (own := "java/util/ArrayList") (nm := "add") (plainFor_of_name pn_2) rfl rfl O0 ?_
  have W : ∀ (k : Nat) {d : Jvm.Cond}, tables_1[k]? = some d → d.before a0 Z = true := fun k d q => hw d (List.mem_of_getElem? q)
  intro G p e s m below meth c T0 hGe X0
  rw [ef_own_add3a m a x dd ((0 : Int32))]
  obtain ⟨kD, AD⟩ := DE.2.2
  refine own_iload_n (pc' := 1) X0 dd_jdk_38_method_24_0 rfl rfl ?_
  refine own_aload_n (pc' := 2) X0 dd_jdk_38_method_24_1 rfl rfl rfl ?_
  refine own_arraylength (pc' := 3) (z := (0 : Int32)) X0 (AD.keep (own_oldK (own_old X0)) nin0) rfl dd_jdk_38_method_24_2 rfl ?_
  refine own_icmpN (pc' := 6) X0 dd_jdk_38_method_24_3 rfl ((teq rfl).2) ?_
  refine own_aload_n (pc' := 7) X0 dd_jdk_38_method_24_6 rfl rfl rfl ?_
  refine own_callPM (pc' := 10) (cells' := 1) (slots' := 10) (argsL := []) (rest := []) (W := 0) (y := (⟨"java/util/ArrayList", "grow", "()[Ljava/lang/Object;"⟩ : MethodName)) (a := a) X0 (W 70 rfl) (W 71 rfl) (W 72 rfl) (W 29 rfl) (by decide) p_L.1 (own_grow0 l Z a0 hw n0 a dd mc h0 (own_old X0) n_a ⟨p_L.1, p_L.2.1, p_L.2.2.1, p_L.2.2.2⟩ DE) (W 74 rfl) (W 30 rfl) (by decide) (by decide) rfl (lenOf pd_11 rfl) rfl rfl dd_jdk_38_method_24_7 rfl rfl rfl rfl (by decide) (by decide) ?_
  intro v1 T1 h1 X1 q1
  obtain ⟨e1, k1, rfl, K1, z1, P1, A1, E1, V1⟩ := q1
  have age_e1 : h0.size ≤ e1 := Nat.le_trans (Nat.le_refl _) z1
  have n_e1 : n0 ≤ e1 := Nat.le_trans (own_n0 X0) age_e1
  show G T1 (mkF m 10 #[.val (.ref a), .val (.ref x), .val (.ref dd), .val (.int (0 : Int32))] [(.ref e1)])
  refine own_astore_n (pc' := 11) X1 dd_jdk_38_method_24_10 rfl rfl (Ls' := #[.val (.ref a), .val (.ref x), .val (.ref e1), .val (.int (0 : Int32))]) rfl ?_
  refine own_aload_n (pc' := 12) X1 dd_jdk_38_method_24_11 rfl rfl rfl ?_
  refine own_iload_n (pc' := 13) X1 dd_jdk_38_method_24_12 rfl rfl ?_
  refine own_aload_n (pc' := 14) X1 dd_jdk_38_method_24_13 rfl rfl rfl ?_
  have f2 := (p_X.keep K1)
  refine own_aastore (pc' := 15) (i := 0) X1 A1 rfl rfl (own_stoR A1 V1 (own_Ob.ins f2)) (by decide) (Nat.le_of_ble_eq_true rfl) n_e1 dd_jdk_38_method_24_14 rfl ?_
  intro T3 h3 X3 K3 A3
  have A3' : own_Arr Z h3 e1 k1 (.object "java/lang/Object") [(.ref x), .null, .null, .null, .null, .null, .null, .null, .null, .null] := A3
  refine own_aload_n (pc' := 16) X3 dd_jdk_38_method_24_15 rfl rfl rfl ?_
  refine own_iload_n (pc' := 17) X3 dd_jdk_38_method_24_16 rfl rfl ?_
  refine own_iconst (pc' := 18) X3 dd_jdk_38_method_24_17 rfl (z := (1 : Int32)) (by decide) ?_
  refine own_iadd (pc' := 19) X3 dd_jdk_38_method_24_18 rfl (r := (1 : Int32)) (by decide) ?_
  have ne_a_e1 : a ≠ e1 := own_ne p_L.1.lt (Nat.le_refl _) z1
  have f4 := (P1.2.2.1.keep K3 (ninS ne_a_e1 nin0))
  have f5 := (P1.1.keep K3)
  refine own_put (pc' := 22) X3 (host := "") (Or.inl (W 63 rfl)) Via.refl f4 f5 (Or.inl (W 64 rfl)) (W 29 rfl) (ty := .int) (by decide) rfl rfl n_a dd_jdk_38_method_24_19 rfl ?_
  intro T6 h6 X6 W6 K6
  have f6_ := f4.same W6
  have f7 := (f5.keep K6)
  have f8 := ((P1.2.1.keep K3 (ninS ne_a_e1 nin0)).other W6 (Or.inr (slot_ne (Or.inl (W 51 rfl)) (Or.inl (W 64 rfl)) (by decide) (t := (.array (.object "java/lang/Object"))) (t' := .int) (by decide) (by decide))))
  have f9 := ((P1.2.2.2.keep K3 (ninS ne_a_e1 nin0)).other W6 (Or.inr (slot_ne (Or.inl (W 48 rfl)) (Or.inl (W 64 rfl)) (by decide) (t := .int) (t' := .int) (by decide) (by decide))))
  have f10 := (A3'.keep K6 (ninS (Ne.symm ne_a_e1) nin0))
  have f11 := ((E1.keep K3).keep K6)
  exact own_retV X6 hGe rfl dd_jdk_38_method_24_22 (by decide) (by decide) ⟨rfl, e1, _, ((((Keep.refl h0 [a]).trans K1 (allS (Or.inl (List.mem_of_getElem? (i := 0) rfl)) all0)).trans K3 (allS (Or.inr age_e1) all0)).trans K6 (allS (Or.inl (List.mem_of_getElem? (i := 0) rfl)) all0)), age_e1, ⟨_, ⟨f7, f8, f6_, f9⟩⟩, f10, f11, V1⟩
theorem dd_jdk_38_method_25_0 : decode jdk_38_method_25_code 0 = .ok (.aload_n 0, 1) := by decide +kernel
theorem dd_jdk_38_method_25_1 : decode jdk_38_method_25_code 1 = .ok (.dup, 1) := by decide +kernel
theorem dd_jdk_38_method_25_2 : decode jdk_38_method_25_code 2 = .ok (.getfield 63, 3) := by decide +kernel
theorem dd_jdk_38_method_25_5 : decode jdk_38_method_25_code 5 = .ok (.iconst 1, 1) := by decide +kernel
theorem dd_jdk_38_method_25_6 : decode jdk_38_method_25_code 6 = .ok (.iadd, 1) := by decide +kernel
theorem dd_jdk_38_method_25_7 : decode jdk_38_method_25_code 7 = .ok (.putfield 63, 3) := by decide +kernel
theorem dd_jdk_38_method_25_10 : decode jdk_38_method_25_code 10 = .ok (.aload_n 0, 1) := by decide +kernel
theorem dd_jdk_38_method_25_11 : decode jdk_38_method_25_code 11 = .ok (.aload_n 1, 1) := by decide +kernel
theorem dd_jdk_38_method_25_12 : decode jdk_38_method_25_code 12 = .ok (.aload_n 0, 1) := by decide +kernel
theorem dd_jdk_38_method_25_13 : decode jdk_38_method_25_code 13 = .ok (.getfield 9, 3) := by decide +kernel
theorem dd_jdk_38_method_25_16 : decode jdk_38_method_25_code 16 = .ok (.aload_n 0, 1) := by decide +kernel
theorem dd_jdk_38_method_25_17 : decode jdk_38_method_25_code 17 = .ok (.getfield 48, 3) := by decide +kernel
theorem dd_jdk_38_method_25_20 : decode jdk_38_method_25_code 20 = .ok (.invokevirtual 131, 3) := by decide +kernel
theorem pd_23 : parseMethodDescriptor "(Ljava/lang/Object;[Ljava/lang/Object;I)V" = some ⟨[(.object "java/lang/Object"), (.array (.object "java/lang/Object")), .int], none⟩ := by decide +kernel
theorem dd_jdk_38_method_25_23 : decode jdk_38_method_25_code 23 = .ok (.iconst 1, 1) := by decide +kernel
theorem dd_jdk_38_method_25_24 : decode jdk_38_method_25_code 24 = .ok (.ireturn, 1) := by decide +kernel
theorem ef_own_add1a (m : MethodId) (x0 : Addr) (x1 : Addr) : entryFrame m #[(.ref x0), (.ref x1)] 2 = mkF m 0 #[.val (.ref x0), .val (.ref x1)] [] := by first | (simp [entryFrame, mkF, argsToLocals, Value.category]; done) | rfl
set_option maxRecDepth 65536 in
set_option maxHeartbeats 40000000 in
theorem own_add1a (l : Launch) (Z : State) (a0 : Array Value) (hw : ∀ d ∈ tables_1, d.before a0 Z = true) (n0 : Nat) (a x dd : Addr) (mc : Int32) (h0 : Heap) (O0 : Old Z n0 h0) (n_a : n0 ≤ a) (p_L : (Exa Z h0 a "java/util/ArrayList" ∧ Fld Z h0 a "java/util/ArrayList" "elementData" "[Ljava/lang/Object;" (.ref dd) ∧ Fld Z h0 a "java/util/ArrayList" "size" "I" (.int 0) ∧ Fld Z h0 a "java/util/AbstractList" "modCount" "I" (.int mc))) (DE : own_DEF Z dd) (p_X : own_Ob a0 Z h0 x) :
    own_Met l Z n0 (⟨"java/util/ArrayList", "add", "(Ljava/lang/Object;)Z"⟩ : MethodName) jdk_38_method_25_code 2 (some .boolean) ({ frames := 4, cells := 1, slots := 10, locals := 56 } : Room) #[(.ref a), (.ref x)] h0 (fun v h => v = some (.int 1) ∧ ∃ (e : Addr) (k : ClassId), Keep h0 h [a] ∧ h0.size ≤ e ∧ (∃ mc, (Exa Z h a "java/util/ArrayList" ∧ Fld Z h a "java/util/ArrayList" "elementData" "[Ljava/lang/Object;" (.ref e) ∧ Fld Z h a "java/util/ArrayList" "size" "I" (.int 1) ∧ Fld Z h a "java/util/AbstractList" "modCount" "I" (.int mc))) ∧ own_Arr Z h e k (.object "java/lang/Object") [(.ref x), .null, .null, .null, .null, .null, .null, .null, .null, .null] ∧ Exa Z h e "[Ljava/lang/Object;" ∧ Ovr Z k "java/lang/Object") := by
  refine own_enter (own := "java/util/ArrayList") (nm := "add") (plainFor_of_name pn_2) rfl rfl O0 ?_
  have W : ∀ (k : Nat) {d : Jvm.Cond}, tables_1[k]? = some d → d.before a0 Z = true := fun k d q => hw d (List.mem_of_getElem? q)
  intro G p e s m below meth c T0 hGe X0
  rw [ef_own_add1a m a x]
  obtain ⟨kD, AD⟩ := DE.2.2
  refine own_aload_n (pc' := 1) X0 dd_jdk_38_method_25_0 rfl rfl rfl ?_
  refine own_dup (pc' := 2) X0 dd_jdk_38_method_25_1 rfl rfl ?_
  refine own_get (pc' := 5) X0 (host := "") (Or.inl (W 61 rfl)) (Via.of (W 62 rfl)) p_L.2.2.2 dd_jdk_38_method_25_2 rfl ?_
  intro T1 X1
  refine own_iconst (pc' := 6) X1 dd_jdk_38_method_25_5 rfl (z := (1 : Int32)) (by decide) ?_
  refine own_iadd (pc' := 7) X1 dd_jdk_38_method_25_6 rfl (r := (mc + (1 : Int32))) rfl ?_
  refine own_put (pc' := 10) X1 (host := "") (Or.inl (W 61 rfl)) (Via.of (W 62 rfl)) p_L.2.2.2 p_L.1 (Or.inl (W 48 rfl)) (W 29 rfl) (ty := .int) (by decide) rfl rfl n_a dd_jdk_38_method_25_7 rfl ?_
  intro T2 h2 X2 W2 K2
  have f2_ := p_L.2.2.2.same W2
  refine own_aload_n (pc' := 11) X2 dd_jdk_38_method_25_10 rfl rfl rfl ?_
  refine own_aload_n (pc' := 12) X2 dd_jdk_38_method_25_11 rfl rfl rfl ?_
  refine own_aload_n (pc' := 13) X2 dd_jdk_38_method_25_12 rfl rfl rfl ?_
  have f3 := (p_L.2.1.other W2 (Or.inr (slot_ne (Or.inl (W 51 rfl)) (Or.inl (W 48 rfl)) (by decide) (t := (.array (.object "java/lang/Object"))) (t' := .int) (by decide) (by decide))))
  refine own_get (pc' := 16) X2 (host := "") (Or.inl (W 50 rfl)) Via.refl f3 dd_jdk_38_method_25_13 rfl ?_
  intro T4 X4
  refine own_aload_n (pc' := 17) X4 dd_jdk_38_method_25_16 rfl rfl rfl ?_
  have f5 := (p_L.2.2.1.other W2 (Or.inr (slot_ne (Or.inl (W 64 rfl)) (Or.inl (W 48 rfl)) (by decide) (t := .int) (t' := .int) (by decide) (by decide))))
  refine own_get (pc' := 20) X4 (host := "") (Or.inl (W 63 rfl)) Via.refl f5 dd_jdk_38_method_25_17 rfl ?_
  intro T6 X6
  have f7 := (p_L.1.keep K2)
  have f8 := (p_X.keep K2)
  refine own_callPM (pc' := 23) (cells' := 1) (slots' := 10) (argsL := [(.ref x), (.ref dd), (.int (0 : Int32))]) (rest := []) (W := 0) (y := (⟨"java/util/ArrayList", "add", "(Ljava/lang/Object;[Ljava/lang/Object;I)V"⟩ : MethodName)) (a := a) X6 (W 65 rfl) (W 66 rfl) (W 67 rfl) (W 29 rfl) (by decide) f7 (own_add3a l Z a0 hw n0 a x dd (mc + 1) h2 (own_old X6) n_a ⟨f7, f3, f5, f2_⟩ DE f8) (W 69 rfl) (W 30 rfl) (by decide) (by decide) rfl (lenOf pd_23 rfl) rfl rfl dd_jdk_38_method_25_20 rfl rfl rfl rfl (by decide) (by decide) ?_
  intro v9 T9 h9 X9 q9
  obtain ⟨rfl, e9, k9, K9, z9, ⟨mc9, P9⟩, A9, E9, V9⟩ := q9
  show G T9 (mkF m 23 #[.val (.ref a), .val (.ref x)] [])
  refine own_iconst (pc' := 24) X9 dd_jdk_38_method_25_23 rfl (z := (1 : Int32)) (by decide) ?_
  have age_e9 : h0.size ≤ e9 := Nat.le_trans (Nat.le_trans K2.1 (Nat.le_refl _)) z9
  exact own_ret X9 hGe (t := .boolean) rfl rfl (Or.inl ⟨rfl, by simp, _, rfl⟩) dd_jdk_38_method_25_24 (by decide) (by decide) ⟨rfl, e9, _, (((Keep.refl h0 [a]).trans K2 (allS (Or.inl (List.mem_of_getElem? (i := 0) rfl)) all0)).trans K9 (allS (Or.inl (List.mem_of_getElem? (i := 0) rfl)) all0)), age_e9, ⟨_, ⟨P9.1, P9.2.1, P9.2.2.1, P9.2.2.2⟩⟩, A9, E9, V9⟩
theorem ef_own_add3b1 (m : MethodId) (x0 : Addr) (x1 : Addr) (x2 : Addr) (x3 : Int32) : entryFrame m #[(.ref x0), (.ref x1), (.ref x2), (.int x3)] 4 = mkF m 0 #[.val (.ref x0), .val (.ref x1), .val (.ref x2), .val (.int x3)] [] := by first | (simp [entryFrame, mkF, argsToLocals, Value.category]; done) | rfl
set_option maxRecDepth 65536 in
set_option maxHeartbeats 40000000 in
theorem own_add3b1 (l : Launch) (Z : State) (a0 : Array Value) (hw : ∀ d ∈ tables_1, d.before a0 Z = true) (n0 : Nat) (a x ar : Addr) (kr : ClassId) (mc : Int32) (vs : List Value) (h0 : Heap) (O0 : Old Z n0 h0) (n_a : n0 ≤ a) (n_e : n0 ≤ ar) (p_L : (Exa Z h0 a "java/util/ArrayList" ∧ Fld Z h0 a "java/util/ArrayList" "elementData" "[Ljava/lang/Object;" (.ref ar) ∧ Fld Z h0 a "java/util/ArrayList" "size" "I" (.int 1) ∧ Fld Z h0 a "java/util/AbstractList" "modCount" "I" (.int mc))) (p_A : own_Arr Z h0 ar kr (.object "java/lang/Object") vs) (p_l : vs.length = 10) (V : Ovr Z kr "java/lang/Object") (p_ne : a ≠ ar) (p_X : own_Ob a0 Z h0 x) :
    own_Met l Z n0 (⟨"java/util/ArrayList", "add", "(Ljava/lang/Object;[Ljava/lang/Object;I)V"⟩ : MethodName) jdk_38_method_24_code 4 none ({ frames := 0, cells := 0, slots := 0, locals := 0 } : Room) #[(.ref a), (.ref x), (.ref ar), (.int (1 : Int32))] h0 (fun v h => v = none ∧ Keep h0 h [a, ar] ∧ (∃ mc, (Exa Z h a "java/util/ArrayList" ∧ Fld Z h a "java/util/ArrayList" "elementData" "[Ljava/lang/Object;" (.ref ar) ∧ Fld Z h a "java/util/ArrayList" "size" "I" (.int 2) ∧ Fld Z h a "java/util/AbstractList" "modCount" "I" (.int mc))) ∧ own_Arr Z h ar kr (.object "java/lang/Object") (vs.set 1 (.ref x))) := by
  refine own_enter (own := "java/util/ArrayList") (nm := "add") (plainFor_of_name pn_2) rfl rfl O0 ?_
  have W : ∀ (k : Nat) {d : Jvm.Cond}, tables_1[k]? = some d → d.before a0 Z = true := fun k d q => hw d (List.mem_of_getElem? q)
  intro G p e s m below meth c T0 hGe X0
  rw [ef_own_add3b1 m a x ar ((1 : Int32))]
  refine own_iload_n (pc' := 1) X0 dd_jdk_38_method_24_0 rfl rfl ?_
  refine own_aload_n (pc' := 2) X0 dd_jdk_38_method_24_1 rfl rfl rfl ?_
  refine own_arraylength (pc' := 3) (z := (10 : Int32)) X0 p_A (by rw [p_l]; rfl) dd_jdk_38_method_24_2 rfl ?_
  refine own_icmpY (pc' := 11) X0 dd_jdk_38_method_24_3 ((feq (by decide)).2) (by decide) (by decide) ?_
  refine own_aload_n (pc' := 12) X0 dd_jdk_38_method_24_11 rfl rfl rfl ?_
  refine own_iload_n (pc' := 13) X0 dd_jdk_38_method_24_12 rfl rfl ?_
  refine own_aload_n (pc' := 14) X0 dd_jdk_38_method_24_13 rfl rfl rfl ?_
  refine own_aastore (pc' := 15) (i := 1) X0 p_A rfl rfl (own_stoR p_A V (own_Ob.ins p_X)) (by decide) (by omega) n_e dd_jdk_38_method_24_14 rfl ?_
  intro T1 h1 X1 K1 A1
  refine own_aload_n (pc' := 16) X1 dd_jdk_38_method_24_15 rfl rfl rfl ?_
  refine own_iload_n (pc' := 17) X1 dd_jdk_38_method_24_16 rfl rfl ?_
  refine own_iconst (pc' := 18) X1 dd_jdk_38_method_24_17 rfl (z := (1 : Int32)) (by decide) ?_
  refine own_iadd (pc' := 19) X1 dd_jdk_38_method_24_18 rfl (r := (2 : Int32)) (by decide) ?_
  have f2 := (p_L.2.2.1.keep K1 (ninS p_ne nin0))
  have f3 := (p_L.1.keep K1)
  refine own_put (pc' := 22) X1 (host := "") (Or.inl (W 63 rfl)) Via.refl f2 f3 (Or.inl (W 64 rfl)) (W 29 rfl) (ty := .int) (by decide) rfl rfl n_a dd_jdk_38_method_24_19 rfl ?_
  intro T4 h4 X4 W4 K4
  have f4_ := f2.same W4
  have f5 := (f3.keep K4)
  have f6 := ((p_L.2.1.keep K1 (ninS p_ne nin0)).other W4 (Or.inr (slot_ne (Or.inl (W 51 rfl)) (Or.inl (W 64 rfl)) (by decide) (t := (.array (.object "java/lang/Object"))) (t' := .int) (by decide) (by decide))))
  have f7 := ((p_L.2.2.2.keep K1 (ninS p_ne nin0)).other W4 (Or.inr (slot_ne (Or.inl (W 48 rfl)) (Or.inl (W 64 rfl)) (by decide) (t := .int) (t' := .int) (by decide) (by decide))))
  have f8 := (A1.keep K4 (ninS (Ne.symm p_ne) nin0))
  exact own_retV X4 hGe rfl dd_jdk_38_method_24_22 (by decide) (by decide) ⟨rfl, (((Keep.refl h0 [a, ar]).trans K1 (allS (Or.inl (List.mem_of_getElem? (i := 1) rfl)) all0)).trans K4 (allS (Or.inl (List.mem_of_getElem? (i := 0) rfl)) all0)), ⟨_, ⟨f5, f6, f4_, f7⟩⟩, f8⟩
theorem ef_own_add1b1 (m : MethodId) (x0 : Addr) (x1 : Addr) : entryFrame m #[(.ref x0), (.ref x1)] 2 = mkF m 0 #[.val (.ref x0), .val (.ref x1)] [] := by first | (simp [entryFrame, mkF, argsToLocals, Value.category]; done) | rfl
set_option maxRecDepth 65536 in
set_option maxHeartbeats 40000000 in
theorem own_add1b1 (l : Launch) (Z : State) (a0 : Array Value) (hw : ∀ d ∈ tables_1, d.before a0 Z = true) (n0 : Nat) (a x ar : Addr) (kr : ClassId) (mc : Int32) (vs : List Value) (h0 : Heap) (O0 : Old Z n0 h0) (n_a : n0 ≤ a) (n_e : n0 ≤ ar) (p_L : (Exa Z h0 a "java/util/ArrayList" ∧ Fld Z h0 a "java/util/ArrayList" "elementData" "[Ljava/lang/Object;" (.ref ar) ∧ Fld Z h0 a "java/util/ArrayList" "size" "I" (.int 1) ∧ Fld Z h0 a "java/util/AbstractList" "modCount" "I" (.int mc))) (p_A : own_Arr Z h0 ar kr (.object "java/lang/Object") vs) (p_l : vs.length = 10) (V : Ovr Z kr "java/lang/Object") (p_ne : a ≠ ar) (p_X : own_Ob a0 Z h0 x) :
    own_Met l Z n0 (⟨"java/util/ArrayList", "add", "(Ljava/lang/Object;)Z"⟩ : MethodName) jdk_38_method_25_code 2 (some .boolean) ({ frames := 1, cells := 0, slots := 0, locals := 15 } : Room) #[(.ref a), (.ref x)] h0 (fun v h => v = some (.int 1) ∧ Keep h0 h [a, ar] ∧ (∃ mc, (Exa Z h a "java/util/ArrayList" ∧ Fld Z h a "java/util/ArrayList" "elementData" "[Ljava/lang/Object;" (.ref ar) ∧ Fld Z h a "java/util/ArrayList" "size" "I" (.int 2) ∧ Fld Z h a "java/util/AbstractList" "modCount" "I" (.int mc))) ∧ own_Arr Z h ar kr (.object "java/lang/Object") (vs.set 1 (.ref x))) := by
  refine own_enter (own := "java/util/ArrayList") (nm := "add") (plainFor_of_name pn_2) rfl rfl O0 ?_
  have W : ∀ (k : Nat) {d : Jvm.Cond}, tables_1[k]? = some d → d.before a0 Z = true := fun k d q => hw d (List.mem_of_getElem? q)
  intro G p e s m below meth c T0 hGe X0
  rw [ef_own_add1b1 m a x]
  refine own_aload_n (pc' := 1) X0 dd_jdk_38_method_25_0 rfl rfl rfl ?_
  refine own_dup (pc' := 2) X0 dd_jdk_38_method_25_1 rfl rfl ?_
  refine own_get (pc' := 5) X0 (host := "") (Or.inl (W 61 rfl)) (Via.of (W 62 rfl)) p_L.2.2.2 dd_jdk_38_method_25_2 rfl ?_
  intro T1 X1
  refine own_iconst (pc' := 6) X1 dd_jdk_38_method_25_5 rfl (z := (1 : Int32)) (by decide) ?_
  refine own_iadd (pc' := 7) X1 dd_jdk_38_method_25_6 rfl (r := (mc + (1 : Int32))) rfl ?_
  refine own_put (pc' := 10) X1 (host := "") (Or.inl (W 61 rfl)) (Via.of (W 62 rfl)) p_L.2.2.2 p_L.1 (Or.inl (W 48 rfl)) (W 29 rfl) (ty := .int) (by decide) rfl rfl n_a dd_jdk_38_method_25_7 rfl ?_
  intro T2 h2 X2 W2 K2
  have f2_ := p_L.2.2.2.same W2
  refine own_aload_n (pc' := 11) X2 dd_jdk_38_method_25_10 rfl rfl rfl ?_
  refine own_aload_n (pc' := 12) X2 dd_jdk_38_method_25_11 rfl rfl rfl ?_
  refine own_aload_n (pc' := 13) X2 dd_jdk_38_method_25_12 rfl rfl rfl ?_
  have f3 := (p_L.2.1.other W2 (Or.inr (slot_ne (Or.inl (W 51 rfl)) (Or.inl (W 48 rfl)) (by decide) (t := (.array (.object "java/lang/Object"))) (t' := .int) (by decide) (by decide))))
  refine own_get (pc' := 16) X2 (host := "") (Or.inl (W 50 rfl)) Via.refl f3 dd_jdk_38_method_25_13 rfl ?_
  intro T4 X4
  refine own_aload_n (pc' := 17) X4 dd_jdk_38_method_25_16 rfl rfl rfl ?_
  have f5 := (p_L.2.2.1.other W2 (Or.inr (slot_ne (Or.inl (W 64 rfl)) (Or.inl (W 48 rfl)) (by decide) (t := .int) (t' := .int) (by decide) (by decide))))
  refine own_get (pc' := 20) X4 (host := "") (Or.inl (W 63 rfl)) Via.refl f5 dd_jdk_38_method_25_17 rfl ?_
  intro T6 X6
  have f7 := (p_L.1.keep K2)
  have f8 := (p_A.keep K2 (ninS (Ne.symm p_ne) nin0))
  have f9 := (p_X.keep K2)
  refine own_callPM (pc' := 23) (cells' := 0) (slots' := 0) (argsL := [(.ref x), (.ref ar), (.int (1 : Int32))]) (rest := []) (W := 0) (y := (⟨"java/util/ArrayList", "add", "(Ljava/lang/Object;[Ljava/lang/Object;I)V"⟩ : MethodName)) (a := a) X6 (W 65 rfl) (W 66 rfl) (W 67 rfl) (W 29 rfl) (by decide) f7 (own_add3b1 l Z a0 hw n0 a x ar kr (mc + 1) vs h2 (own_old X6) n_a n_e ⟨f7, f3, f5, f2_⟩ f8 p_l V p_ne f9) (W 69 rfl) (W 30 rfl) (by decide) (by decide) rfl (lenOf pd_23 rfl) rfl rfl dd_jdk_38_method_25_20 rfl rfl rfl rfl (by decide) (by decide) ?_
  intro v10 T10 h10 X10 q10
  obtain ⟨rfl, K10, ⟨mc10, P10⟩, A10⟩ := q10
  show G T10 (mkF m 23 #[.val (.ref a), .val (.ref x)] [])
  refine own_iconst (pc' := 24) X10 dd_jdk_38_method_25_23 rfl (z := (1 : Int32)) (by decide) ?_
  exact own_ret X10 hGe (t := .boolean) rfl rfl (Or.inl ⟨rfl, by simp, _, rfl⟩) dd_jdk_38_method_25_24 (by decide) (by decide) ⟨rfl, (((Keep.refl h0 [a, ar]).trans K2 (allS (Or.inl (List.mem_of_getElem? (i := 0) rfl)) all0)).trans K10 (allS (Or.inl (List.mem_of_getElem? (i := 0) rfl)) (allS (Or.inl (List.mem_of_getElem? (i := 1) rfl)) all0))), ⟨_, ⟨P10.1, P10.2.1, P10.2.2.1, P10.2.2.2⟩⟩, A10⟩
theorem ef_own_add3b2 (m : MethodId) (x0 : Addr) (x1 : Addr) (x2 : Addr) (x3 : Int32) : entryFrame m #[(.ref x0), (.ref x1), (.ref x2), (.int x3)] 4 = mkF m 0 #[.val (.ref x0), .val (.ref x1), .val (.ref x2), .val (.int x3)] [] := by first | (simp [entryFrame, mkF, argsToLocals, Value.category]; done) | rfl
set_option maxRecDepth 65536 in
set_option maxHeartbeats 40000000 in
theorem own_add3b2 (l : Launch) (Z : State) (a0 : Array Value) (hw : ∀ d ∈ tables_1, d.before a0 Z = true) (n0 : Nat) (a x ar : Addr) (kr : ClassId) (mc : Int32) (vs : List Value) (h0 : Heap) (O0 : Old Z n0 h0) (n_a : n0 ≤ a) (n_e : n0 ≤ ar) (p_L : (Exa Z h0 a "java/util/ArrayList" ∧ Fld Z h0 a "java/util/ArrayList" "elementData" "[Ljava/lang/Object;" (.ref ar) ∧ Fld Z h0 a "java/util/ArrayList" "size" "I" (.int 2) ∧ Fld Z h0 a "java/util/AbstractList" "modCount" "I" (.int mc))) (p_A : own_Arr Z h0 ar kr (.object "java/lang/Object") vs) (p_l : vs.length = 10) (V : Ovr Z kr "java/lang/Object") (p_ne : a ≠ ar) (p_X : own_Ob a0 Z h0 x) :
    own_Met l Z n0 (⟨"java/util/ArrayList", "add", "(Ljava/lang/Object;[Ljava/lang/Object;I)V"⟩ : MethodName) jdk_38_method_24_code 4 none ({ frames := 0, cells := 0, slots := 0, locals := 0 } : Room) #[(.ref a), (.ref x), (.ref ar), (.int (2 : Int32))] h0 (fun v h => v = none ∧ Keep h0 h [a, ar] ∧ (∃ mc, (Exa Z h a "java/util/ArrayList" ∧ Fld Z h a "java/util/ArrayList" "elementData" "[Ljava/lang/Object;" (.ref ar) ∧ Fld Z h a "java/util/ArrayList" "size" "I" (.int 3) ∧ Fld Z h a "java/util/AbstractList" "modCount" "I" (.int mc))) ∧ own_Arr Z h ar kr (.object "java/lang/Object") (vs.set 2 (.ref x))) := by
  refine own_enter (own := "java/util/ArrayList") (nm := "add") (plainFor_of_name pn_2) rfl rfl O0 ?_
  have W : ∀ (k : Nat) {d : Jvm.Cond}, tables_1[k]? = some d → d.before a0 Z = true := fun k d q => hw d (List.mem_of_getElem? q)
  intro G p e s m below meth c T0 hGe X0
  rw [ef_own_add3b2 m a x ar ((2 : Int32))]
  refine own_iload_n (pc' := 1) X0 dd_jdk_38_method_24_0 rfl rfl ?_
  refine own_aload_n (pc' := 2) X0 dd_jdk_38_method_24_1 rfl rfl rfl ?_
  refine own_arraylength (pc' := 3) (z := (10 : Int32)) X0 p_A (by rw [p_l]; rfl) dd_jdk_38_method_24_2 rfl ?_
  refine own_icmpY (pc' := 11) X0 dd_jdk_38_method_24_3 ((feq (by decide)).2) (by decide) (by decide) ?_
  refine own_aload_n (pc' := 12) X0 dd_jdk_38_method_24_11 rfl rfl rfl ?_
  refine own_iload_n (pc' := 13) X0 dd_jdk_38_method_24_12 rfl rfl ?_
  refine own_aload_n (pc' := 14) X0 dd_jdk_38_method_24_13 rfl rfl rfl ?_
  refine own_aastore (pc' := 15) (i := 2) X0 p_A rfl rfl (own_stoR p_A V (own_Ob.ins p_X)) (by decide) (by omega) n_e dd_jdk_38_method_24_14 rfl ?_
  intro T1 h1 X1 K1 A1
  refine own_aload_n (pc' := 16) X1 dd_jdk_38_method_24_15 rfl rfl rfl ?_
  refine own_iload_n (pc' := 17) X1 dd_jdk_38_method_24_16 rfl rfl ?_
  refine own_iconst (pc' := 18) X1 dd_jdk_38_method_24_17 rfl (z := (1 : Int32)) (by decide) ?_
  refine own_iadd (pc' := 19) X1 dd_jdk_38_method_24_18 rfl (r := (3 : Int32)) (by decide) ?_
  have f2 := (p_L.2.2.1.keep K1 (ninS p_ne nin0))
  have f3 := (p_L.1.keep K1)
  refine own_put (pc' := 22) X1 (host := "") (Or.inl (W 63 rfl)) Via.refl f2 f3 (Or.inl (W 64 rfl)) (W 29 rfl) (ty := .int) (by decide) rfl rfl n_a dd_jdk_38_method_24_19 rfl ?_
  intro T4 h4 X4 W4 K4
  have f4_ := f2.same W4
  have f5 := (f3.keep K4)
  have f6 := ((p_L.2.1.keep K1 (ninS p_ne nin0)).other W4 (Or.inr (slot_ne (Or.inl (W 51 rfl)) (Or.inl (W 64 rfl)) (by decide) (t := (.array (.object "java/lang/Object"))) (t' := .int) (by decide) (by decide))))
  have f7 := ((p_L.2.2.2.keep K1 (ninS p_ne nin0)).other W4 (Or.inr (slot_ne (Or.inl (W 48 rfl)) (Or.inl (W 64 rfl)) (by decide) (t := .int) (t' := .int) (by decide) (by decide))))
  have f8 := (A1.keep K4 (ninS (Ne.symm p_ne) nin0))
  exact own_retV X4 hGe rfl dd_jdk_38_method_24_22 (by decide) (by decide) ⟨rfl, (((Keep.refl h0 [a, ar]).trans K1 (allS (Or.inl (List.mem_of_getElem? (i := 1) rfl)) all0)).trans K4 (allS (Or.inl (List.mem_of_getElem? (i := 0) rfl)) all0)), ⟨_, ⟨f5, f6, f4_, f7⟩⟩, f8⟩
theorem ef_own_add1b2 (m : MethodId) (x0 : Addr) (x1 : Addr) : entryFrame m #[(.ref x0), (.ref x1)] 2 = mkF m 0 #[.val (.ref x0), .val (.ref x1)] [] := by first | (simp [entryFrame, mkF, argsToLocals, Value.category]; done) | rfl
set_option maxRecDepth 65536 in
set_option maxHeartbeats 40000000 in
theorem own_add1b2 (l : Launch) (Z : State) (a0 : Array Value) (hw : ∀ d ∈ tables_1, d.before a0 Z = true) (n0 : Nat) (a x ar : Addr) (kr : ClassId) (mc : Int32) (vs : List Value) (h0 : Heap) (O0 : Old Z n0 h0) (n_a : n0 ≤ a) (n_e : n0 ≤ ar) (p_L : (Exa Z h0 a "java/util/ArrayList" ∧ Fld Z h0 a "java/util/ArrayList" "elementData" "[Ljava/lang/Object;" (.ref ar) ∧ Fld Z h0 a "java/util/ArrayList" "size" "I" (.int 2) ∧ Fld Z h0 a "java/util/AbstractList" "modCount" "I" (.int mc))) (p_A : own_Arr Z h0 ar kr (.object "java/lang/Object") vs) (p_l : vs.length = 10) (V : Ovr Z kr "java/lang/Object") (p_ne : a ≠ ar) (p_X : own_Ob a0 Z h0 x) :
    own_Met l Z n0 (⟨"java/util/ArrayList", "add", "(Ljava/lang/Object;)Z"⟩ : MethodName) jdk_38_method_25_code 2 (some .boolean) ({ frames := 1, cells := 0, slots := 0, locals := 15 } : Room) #[(.ref a), (.ref x)] h0 (fun v h => v = some (.int 1) ∧ Keep h0 h [a, ar] ∧ (∃ mc, (Exa Z h a "java/util/ArrayList" ∧ Fld Z h a "java/util/ArrayList" "elementData" "[Ljava/lang/Object;" (.ref ar) ∧ Fld Z h a "java/util/ArrayList" "size" "I" (.int 3) ∧ Fld Z h a "java/util/AbstractList" "modCount" "I" (.int mc))) ∧ own_Arr Z h ar kr (.object "java/lang/Object") (vs.set 2 (.ref x))) := by
  refine own_enter (own := "java/util/ArrayList") (nm := "add") (plainFor_of_name pn_2) rfl rfl O0 ?_
  have W : ∀ (k : Nat) {d : Jvm.Cond}, tables_1[k]? = some d → d.before a0 Z = true := fun k d q => hw d (List.mem_of_getElem? q)
  intro G p e s m below meth c T0 hGe X0
  rw [ef_own_add1b2 m a x]
  refine own_aload_n (pc' := 1) X0 dd_jdk_38_method_25_0 rfl rfl rfl ?_
  refine own_dup (pc' := 2) X0 dd_jdk_38_method_25_1 rfl rfl ?_
  refine own_get (pc' := 5) X0 (host := "") (Or.inl (W 61 rfl)) (Via.of (W 62 rfl)) p_L.2.2.2 dd_jdk_38_method_25_2 rfl ?_
  intro T1 X1
  refine own_iconst (pc' := 6) X1 dd_jdk_38_method_25_5 rfl (z := (1 : Int32)) (by decide) ?_
  refine own_iadd (pc' := 7) X1 dd_jdk_38_method_25_6 rfl (r := (mc + (1 : Int32))) rfl ?_
  refine own_put (pc' := 10) X1 (host := "") (Or.inl (W 61 rfl)) (Via.of (W 62 rfl)) p_L.2.2.2 p_L.1 (Or.inl (W 48 rfl)) (W 29 rfl) (ty := .int) (by decide) rfl rfl n_a dd_jdk_38_method_25_7 rfl ?_
  intro T2 h2 X2 W2 K2
  have f2_ := p_L.2.2.2.same W2
  refine own_aload_n (pc' := 11) X2 dd_jdk_38_method_25_10 rfl rfl rfl ?_
  refine own_aload_n (pc' := 12) X2 dd_jdk_38_method_25_11 rfl rfl rfl ?_
  refine own_aload_n (pc' := 13) X2 dd_jdk_38_method_25_12 rfl rfl rfl ?_
  have f3 := (p_L.2.1.other W2 (Or.inr (slot_ne (Or.inl (W 51 rfl)) (Or.inl (W 48 rfl)) (by decide) (t := (.array (.object "java/lang/Object"))) (t' := .int) (by decide) (by decide))))
  refine own_get (pc' := 16) X2 (host := "") (Or.inl (W 50 rfl)) Via.refl f3 dd_jdk_38_method_25_13 rfl ?_
  intro T4 X4
  refine own_aload_n (pc' := 17) X4 dd_jdk_38_method_25_16 rfl rfl rfl ?_
  have f5 := (p_L.2.2.1.other W2 (Or.inr (slot_ne (Or.inl (W 64 rfl)) (Or.inl (W 48 rfl)) (by decide) (t := .int) (t' := .int) (by decide) (by decide))))
  refine own_get (pc' := 20) X4 (host := "") (Or.inl (W 63 rfl)) Via.refl f5 dd_jdk_38_method_25_17 rfl ?_
  intro T6 X6
  have f7 := (p_L.1.keep K2)
  have f8 := (p_A.keep K2 (ninS (Ne.symm p_ne) nin0))
  have f9 := (p_X.keep K2)
  refine own_callPM (pc' := 23) (cells' := 0) (slots' := 0) (argsL := [(.ref x), (.ref ar), (.int (2 : Int32))]) (rest := []) (W := 0) (y := (⟨"java/util/ArrayList", "add", "(Ljava/lang/Object;[Ljava/lang/Object;I)V"⟩ : MethodName)) (a := a) X6 (W 65 rfl) (W 66 rfl) (W 67 rfl) (W 29 rfl) (by decide) f7 (own_add3b2 l Z a0 hw n0 a x ar kr (mc + 1) vs h2 (own_old X6) n_a n_e ⟨f7, f3, f5, f2_⟩ f8 p_l V p_ne f9) (W 69 rfl) (W 30 rfl) (by decide) (by decide) rfl (lenOf pd_23 rfl) rfl rfl dd_jdk_38_method_25_20 rfl rfl rfl rfl (by decide) (by decide) ?_
  intro v10 T10 h10 X10 q10
  obtain ⟨rfl, K10, ⟨mc10, P10⟩, A10⟩ := q10
  show G T10 (mkF m 23 #[.val (.ref a), .val (.ref x)] [])
  refine own_iconst (pc' := 24) X10 dd_jdk_38_method_25_23 rfl (z := (1 : Int32)) (by decide) ?_
  exact own_ret X10 hGe (t := .boolean) rfl rfl (Or.inl ⟨rfl, by simp, _, rfl⟩) dd_jdk_38_method_25_24 (by decide) (by decide) ⟨rfl, (((Keep.refl h0 [a, ar]).trans K2 (allS (Or.inl (List.mem_of_getElem? (i := 0) rfl)) all0)).trans K10 (allS (Or.inl (List.mem_of_getElem? (i := 0) rfl)) (allS (Or.inl (List.mem_of_getElem? (i := 1) rfl)) all0))), ⟨_, ⟨P10.1, P10.2.1, P10.2.2.1, P10.2.2.2⟩⟩, A10⟩
theorem dd_prog_5_method_4_15 : decode prog_5_method_4_code 15 = .ok (.new 30, 3) := by decide +kernel
theorem dd_prog_5_method_4_18 : decode prog_5_method_4_code 18 = .ok (.dup, 1) := by decide +kernel
theorem dd_prog_5_method_4_19 : decode prog_5_method_4_code 19 = .ok (.invokespecial 32, 3) := by decide +kernel
theorem dd_prog_5_method_4_22 : decode prog_5_method_4_code 22 = .ok (.astore_n 2, 1) := by decide +kernel
theorem dd_prog_5_method_4_23 : decode prog_5_method_4_code 23 = .ok (.iconst 0, 1) := by decide +kernel
theorem dd_prog_5_method_4_24 : decode prog_5_method_4_code 24 = .ok (.istore_n 3, 1) := by decide +kernel
theorem dd_prog_5_method_4_25 : decode prog_5_method_4_code 25 = .ok (.aload_n 0, 1) := by decide +kernel
theorem dd_prog_5_method_4_26 : decode prog_5_method_4_code 26 = .ok (.astore 4, 2) := by decide +kernel
theorem dd_prog_5_method_4_28 : decode prog_5_method_4_code 28 = .ok (.aload 4, 2) := by decide +kernel
theorem dd_prog_5_method_4_30 : decode prog_5_method_4_code 30 = .ok (.ifnull 38, 3) := by decide +kernel
theorem dd_prog_5_method_4_33 : decode prog_5_method_4_code 33 = .ok (.aload_n 2, 1) := by decide +kernel
theorem dd_prog_5_method_4_34 : decode prog_5_method_4_code 34 = .ok (.aload 4, 2) := by decide +kernel
theorem dd_prog_5_method_4_36 : decode prog_5_method_4_code 36 = .ok (.getfield 13, 3) := by decide +kernel
theorem dd_prog_5_method_4_39 : decode prog_5_method_4_code 39 = .ok (.invokeinterface 33 2, 5) := by decide +kernel
theorem dd_prog_5_method_4_44 : decode prog_5_method_4_code 44 = .ok (.pop, 1) := by decide +kernel
theorem dd_prog_5_method_4_45 : decode prog_5_method_4_code 45 = .ok (.iload_n 3, 1) := by decide +kernel
theorem dd_prog_5_method_4_46 : decode prog_5_method_4_code 46 = .ok (.aload 4, 2) := by decide +kernel
theorem dd_prog_5_method_4_48 : decode prog_5_method_4_code 48 = .ok (.getfield 13, 3) := by decide +kernel
theorem dd_prog_5_method_4_51 : decode prog_5_method_4_code 51 = .ok (.invokeinterface 37 1, 5) := by decide +kernel
theorem pd_24 : parseMethodDescriptor "()I" = some ⟨[], some .int⟩ := by decide +kernel
theorem dd_prog_5_method_4_56 : decode prog_5_method_4_code 56 = .ok (.iadd, 1) := by decide +kernel
theorem dd_prog_5_method_4_57 : decode prog_5_method_4_code 57 = .ok (.istore_n 3, 1) := by decide +kernel
theorem dd_prog_5_method_4_58 : decode prog_5_method_4_code 58 = .ok (.aload 4, 2) := by decide +kernel
theorem dd_prog_5_method_4_60 : decode prog_5_method_4_code 60 = .ok (.getfield 7, 3) := by decide +kernel
theorem dd_prog_5_method_4_63 : decode prog_5_method_4_code 63 = .ok (.astore 4, 2) := by decide +kernel
theorem dd_prog_5_method_4_65 : decode prog_5_method_4_code 65 = .ok (.goto (-37), 3) := by decide +kernel
theorem dd_prog_5_method_4_68 : decode prog_5_method_4_code 68 = .ok (.new 30, 3) := by decide +kernel
theorem dd_prog_5_method_4_71 : decode prog_5_method_4_code 71 = .ok (.dup, 1) := by decide +kernel
theorem dd_prog_5_method_4_72 : decode prog_5_method_4_code 72 = .ok (.iload_n 3, 1) := by decide +kernel
theorem dd_prog_5_method_4_73 : decode prog_5_method_4_code 73 = .ok (.invokespecial 41, 3) := by decide +kernel
theorem pd_25 : parseMethodDescriptor "(I)V" = some ⟨[.int], none⟩ := by decide +kernel
theorem dd_prog_5_method_4_76 : decode prog_5_method_4_code 76 = .ok (.astore 4, 2) := by decide +kernel
theorem dd_prog_5_method_4_78 : decode prog_5_method_4_code 78 = .ok (.aload_n 2, 1) := by decide +kernel
theorem dd_prog_5_method_4_79 : decode prog_5_method_4_code 79 = .ok (.invokeinterface 37 1, 5) := by decide +kernel
theorem dd_prog_5_method_4_84 : decode prog_5_method_4_code 84 = .ok (.iconst 1, 1) := by decide +kernel
theorem dd_prog_5_method_4_85 : decode prog_5_method_4_code 85 = .ok (.isub, 1) := by decide +kernel
theorem dd_prog_5_method_4_86 : decode prog_5_method_4_code 86 = .ok (.istore 5, 2) := by decide +kernel
theorem dd_prog_5_method_4_88 : decode prog_5_method_4_code 88 = .ok (.iload 5, 2) := by decide +kernel
theorem dd_prog_5_method_4_90 : decode prog_5_method_4_code 90 = .ok (.ifCond .lt 28, 3) := by decide +kernel
theorem dd_prog_5_method_4_93 : decode prog_5_method_4_code 93 = .ok (.aload 4, 2) := by decide +kernel
theorem dd_prog_5_method_4_95 : decode prog_5_method_4_code 95 = .ok (.aload_n 2, 1) := by decide +kernel
theorem dd_prog_5_method_4_96 : decode prog_5_method_4_code 96 = .ok (.iload 5, 2) := by decide +kernel
theorem dd_prog_5_method_4_98 : decode prog_5_method_4_code 98 = .ok (.invokeinterface 44 2, 5) := by decide +kernel
theorem dd_prog_5_method_4_103 : decode prog_5_method_4_code 103 = .ok (.checkcast 48, 3) := by decide +kernel
theorem dd_prog_5_method_4_106 : decode prog_5_method_4_code 106 = .ok (.invokeinterface 50 2, 5) := by decide +kernel
theorem pd_26 : parseMethodDescriptor "(Ljava/util/Collection;)Z" = some ⟨[(.object "java/util/Collection")], some .boolean⟩ := by decide +kernel
theorem dd_prog_5_method_4_111 : decode prog_5_method_4_code 111 = .ok (.pop, 1) := by decide +kernel
theorem dd_prog_5_method_4_112 : decode prog_5_method_4_code 112 = .ok (.iinc 5 (-1), 3) := by decide +kernel
theorem dd_prog_5_method_4_115 : decode prog_5_method_4_code 115 = .ok (.goto (-27), 3) := by decide +kernel
theorem dd_prog_5_method_4_118 : decode prog_5_method_4_code 118 = .ok (.aload 4, 2) := by decide +kernel
theorem dd_prog_5_method_4_120 : decode prog_5_method_4_code 120 = .ok (.invokestatic 54, 3) := by decide +kernel
theorem pd_27 : parseMethodDescriptor "(Ljava/util/List;)Ljava/util/List;" = some ⟨[(.object "java/util/List")], some (.object "java/util/List")⟩ := by decide +kernel
theorem dd_prog_5_method_4_123 : decode prog_5_method_4_code 123 = .ok (.astore_n 1, 1) := by decide +kernel
theorem ef_own_it2 (m : MethodId) (x0 : Addr) : entryFrame m #[(.ref x0)] 6 = mkF m 0 #[.val (.ref x0), .unset, .unset, .unset, .unset, .unset] [] := by first | (simp [entryFrame, mkF, argsToLocals, Value.category]; done) | rfl
set_option maxRecDepth 65536 in
set_option maxHeartbeats 40000000 in
theorem own_it2 (l : Launch) (Z : State) (a0 : Array Value) (hw : ∀ d ∈ tables_1, d.before a0 Z = true) (n0 : Nat) (b : Addr) (em ea ey mr dd ma mu mw : Addr) (zs ys : List Addr) (h0 : Heap) (O0 : Old Z n0 h0) (A : own_A2 Z h0 em ey b zs ys) (hZ : ∀ x ∈ zs, Exa Z h0 x "java/util/KeyValueHolder") (hY : ∀ x ∈ ys, Exa Z h0 x "java/util/KeyValueHolder") (EM : own_EMP Z em ea) (EY : own_MTY Z ey) (MR : own_Mir Z "[Ljava/lang/Object;" mr) (DE : own_DEF Z dd) (MA : own_Mir Z "java/util/ArrayList" ma) (MU : own_Mir Z "java/util/Collections$UnmodifiableList" mu) (MW : own_Mir Z "java/util/Collections$UnmodifiableRandomAccessList" mw) (p_Q0 : Exa Z Z.heap ea "[Ljava/lang/Object;") :
    own_Met l Z n0 (⟨"com/example/topf/topf/core/AppendedList", "items", "()Ljava/util/List;"⟩ : MethodName) prog_5_method_4_code 6 (some (.object "java/util/List")) ({ frames := 5, cells := 7, slots := 30, locals := 77 } : Room) #[(.ref b)] h0 (fun v h => ∃ u : Addr, v = some (.ref u) ∧ Keep h0 h [] ∧ own_GL Z h em ey u (zs ++ ys)) := by
  refine own_enter (own := "com/example/topf/topf/core/AppendedList") (nm := "items") (plainFor_of_name pn_20) rfl rfl O0 ?_
  have W : ∀ (k : Nat) {d : Jvm.Cond}, tables_1[k]? = some d → d.before a0 Z = true := fun k d q => hw d (List.mem_of_getElem? q)
  intro G p e s m below meth c T0 hGe X0
  rw [ef_own_it2 m b]
  rcases A with ⟨e_y, A⟩ | ⟨pp, ct, n_y, p_P, A1, I1⟩
  · obtain ⟨ct, p_P, p_I⟩ := A
    refine own_aload_n (pc' := 1) X0 dd_prog_5_method_4_0 rfl rfl rfl ?_
    refine own_get (pc' := 4) X0 (host := "") (Or.inl (W 160 rfl)) Via.refl p_P.2.1 dd_prog_5_method_4_1 rfl ?_
    intro T1 X1
    refine own_ifnonnullN (pc' := 7) X1 dd_prog_5_method_4_4 rfl ?_
    refine own_aload_n (pc' := 8) X1 dd_prog_5_method_4_7 rfl rfl rfl ?_
    refine own_get (pc' := 11) X1 (host := "") (Or.inl (W 162 rfl)) Via.refl p_P.2.2 dd_prog_5_method_4_8 rfl ?_
    intro T2 X2
    refine own_astore_n (pc' := 12) X2 dd_prog_5_method_4_11 rfl rfl (Ls' := #[.val (.ref b), .val (.ref ct), .unset, .unset, .unset, .unset]) rfl ?_
    refine own_goto (pc' := 124) X2 dd_prog_5_method_4_12 (by decide) (by decide) ?_
    refine own_aload_n (pc' := 125) X2 dd_prog_5_method_4_124 rfl rfl rfl ?_
    exact own_ret X2 hGe (t := (.object "java/util/List")) rfl rfl (Or.inr (Or.inr (Or.inr (Or.inr ⟨rfl, rfl, rfl⟩)))) dd_prog_5_method_4_125 (by decide) (by decide) ⟨ct, rfl, (Keep.refl h0 []), Or.inl (by rw [e_y, List.append_nil]; exact p_I)⟩
  · obtain ⟨ct2, p_P2, p_I2⟩ := A1
    have l1 := I1.len
    have l2 := p_I2.len
    refine own_aload_n (pc' := 1) X0 dd_prog_5_method_4_0 rfl rfl rfl ?_
    refine own_get (pc' := 4) X0 (host := "") (Or.inl (W 160 rfl)) Via.refl p_P.2.1 dd_prog_5_method_4_1 rfl ?_
    intro T3 X3
    refine own_ifnonnullY (pc' := 15) X3 dd_prog_5_method_4_4 (by decide) (by decide) ?_
    refine own_new (pc' := 18) (cells' := 1) (slots' := 3) X3 (W 314 rfl) (W 29 rfl) (W 30 rfl) dd_prog_5_method_4_15 rfl rfl rfl (by decide) (by decide) ?_
    intro T4 h4 a4 g4 X4 K4 E4 D4 U4
    have n_a4 : n0 ≤ a4 := by rw [g4]; exact own_n0 X3
    have F4_modCount : Fld Z h4 a4 "java/util/AbstractList" "modCount" "I" (.int (0 : Int32)) := D4 (Or.inl (W 48 rfl)) (ty := .int) (by decide)
    have F4_elementData : Fld Z h4 a4 "java/util/ArrayList" "elementData" "[Ljava/lang/Object;" .null := D4 (Or.inl (W 51 rfl)) (ty := (.array (.object "java/lang/Object"))) (by decide)
    have F4_size : Fld Z h4 a4 "java/util/ArrayList" "size" "I" (.int (0 : Int32)) := D4 (Or.inl (W 64 rfl)) (ty := .int) (by decide)
    refine own_dup (pc' := 19) X4 dd_prog_5_method_4_18 rfl rfl ?_
    refine own_callIM (pc' := 22) (cells' := 1) (slots' := 3) (argsL := []) (rest := [(.ref a4)]) (W := 1) (y := (⟨"java/util/ArrayList", "<init>", "()V"⟩ : MethodName)) (a := a4) X4 (W 315 rfl) (W 32 rfl) rfl (by decide) (own_ali l Z a0 hw n0 a4 dd h4 (own_old X4) n_a4 ⟨E4, F4_elementData, F4_size, F4_modCount⟩ DE) (W 33 rfl) (W 30 rfl) (by decide) (by decide) rfl (lenOf pd_0 rfl) rfl rfl dd_prog_5_method_4_19 rfl rfl rfl rfl (by decide) (by decide) ?_
    intro v5 T5 h5 X5 q5
    obtain ⟨rfl, K5, P5⟩ := q5
    show G T5 (mkF m 22 #[.val (.ref b), .unset, .unset, .unset, .unset, .unset] [(.ref a4)])
    refine own_astore_n (pc' := 23) X5 dd_prog_5_method_4_22 rfl rfl (Ls' := #[.val (.ref b), .unset, .val (.ref a4), .unset, .unset, .unset]) rfl ?_
    refine own_iconst (pc' := 24) X5 dd_prog_5_method_4_23 rfl (z := (0 : Int32)) (by decide) ?_
    refine own_istore_n (pc' := 25) X5 dd_prog_5_method_4_24 rfl (Ls' := #[.val (.ref b), .unset, .val (.ref a4), .val (.int (0 : Int32)), .unset, .unset]) rfl ?_
    refine own_aload_n (pc' := 26) X5 dd_prog_5_method_4_25 rfl rfl rfl ?_
    refine own_astore (pc' := 28) X5 dd_prog_5_method_4_26 rfl rfl (Ls' := #[.val (.ref b), .unset, .val (.ref a4), .val (.int (0 : Int32)), .val (.ref b), .unset]) rfl ?_
    refine own_aload (pc' := 30) X5 dd_prog_5_method_4_28 rfl rfl rfl ?_
    refine own_ifnullN (pc' := 33) X5 dd_prog_5_method_4_30 rfl ?_
    refine own_aload_n (pc' := 34) X5 dd_prog_5_method_4_33 rfl rfl rfl ?_
    refine own_aload (pc' := 36) X5 dd_prog_5_method_4_34 rfl rfl rfl ?_
    have ne_b_a4 : b ≠ a4 := own_ne p_P.1.lt (Nat.le_refl _) (Nat.le_of_eq (Eq.symm g4))
    have f6 := ((p_P.2.2.keep K4 nin0).keep K5 (ninS ne_b_a4 nin0))
    refine own_get (pc' := 39) X5 (host := "") (Or.inl (W 162 rfl)) Via.refl f6 dd_prog_5_method_4_36 rfl ?_
    intro T7 X7
    have f8 := (((own_il_ob Z a0 hw n0 ct em ea ey ys h0 (own_old X0) I1 EM).keep K4).keep K5)
    refine own_callFM (pc' := 44) (cells' := 2) (slots' := 13) (argsL := [(.ref ct)]) (rest := []) (W := 0) (y := (⟨"java/util/List", "add", "(Ljava/lang/Object;)Z"⟩ : MethodName)) (z := (⟨"java/util/ArrayList", "add", "(Ljava/lang/Object;)Z"⟩ : MethodName)) (a := a4) X7 (W 316 rfl) (W 53 rfl) (fun s' a' hZ' => mvT hZ' (W 54 rfl)) (W 55 rfl) (W 56 rfl) (W 57 rfl) (W 58 rfl) (W 59 rfl) (by decide) P5.1 (own_add1a l Z a0 hw n0 a4 ct dd (0 : Int32) h5 (own_old X7) n_a4 ⟨P5.1, P5.2.1, P5.2.2.1, P5.2.2.2⟩ DE f8) (W 60 rfl) (W 30 rfl) (by decide) (by decide) rfl (lenOf pd_22 rfl) rfl rfl dd_prog_5_method_4_39 rfl rfl rfl rfl (by decide) (by decide) ?_
    intro v9 T9 h9 X9 q9
    obtain ⟨rfl, e9, k9, K9, z9, ⟨mc9, P9⟩, A9, E9, V9⟩ := q9
    have n_e9 : n0 ≤ e9 := Nat.le_trans (own_n0 X7) z9
    show G T9 (mkF m 44 #[.val (.ref b), .unset, .val (.ref a4), .val (.int (0 : Int32)), .val (.ref b), .unset] [(.int (1 : Int32))])
    refine own_pop (pc' := 45) X9 dd_prog_5_method_4_44 rfl rfl ?_
    refine own_iload_n (pc' := 46) X9 dd_prog_5_method_4_45 rfl rfl ?_
    refine own_aload (pc' := 48) X9 dd_prog_5_method_4_46 rfl rfl rfl ?_
    have f10 := (f6.keep K9 (ninS ne_b_a4 nin0))
    refine own_get (pc' := 51) X9 (host := "") (Or.inl (W 162 rfl)) Via.refl f10 dd_prog_5_method_4_48 rfl ?_
    intro T11 X11
    have f12 := (I1.keep ((((Keep.refl h0 []).trans K4 all0).trans K5 (allS (Or.inr (Nat.le_trans (Nat.le_refl _) (Nat.le_of_eq (Eq.symm g4)))) all0)).trans K9 (allS (Or.inr (Nat.le_trans (Nat.le_refl _) (Nat.le_of_eq (Eq.symm g4)))) all0)) all0)
    refine own_callIC (pc' := 56) (cells' := 2) (slots' := 13) (argsL := []) (rest := [(.int (0 : Int32))]) (W := 1) (y := (⟨"java/util/List", "size", "()I"⟩ : MethodName)) (a := ct) X11 (W 318 rfl) (W 291 rfl) (fun s' a' hZ' => mvT hZ' (W 292 rfl)) (by decide) (own_il_size l Z a0 hw n0 ct em ea ey ys h9 (own_old X11) f12 EM EY) (by decide) (by decide) rfl (lenOf pd_24 rfl) rfl rfl dd_prog_5_method_4_51 rfl rfl rfl rfl (by decide) (by decide) ?_
    intro v13 T13 h13 X13 q13
    obtain ⟨rfl, rfl⟩ := q13
    show G T13 (mkF m 56 #[.val (.ref b), .unset, .val (.ref a4), .val (.int (0 : Int32)), .val (.ref b), .unset] [(.int (Int32.ofNat ys.length)), (.int (0 : Int32))])
    refine own_iadd (pc' := 57) X13 dd_prog_5_method_4_56 rfl (r := (Int32.ofNat ys.length)) (Int32.zero_add _) ?_
    refine own_istore_n (pc' := 58) X13 dd_prog_5_method_4_57 rfl (Ls' := #[.val (.ref b), .unset, .val (.ref a4), .val (.int (Int32.ofNat ys.length)), .val (.ref b), .unset]) rfl ?_
    refine own_aload (pc' := 60) X13 dd_prog_5_method_4_58 rfl rfl rfl ?_
    have f14 := (((p_P.2.1.keep K4 nin0).keep K5 (ninS ne_b_a4 nin0)).keep K9 (ninS ne_b_a4 nin0))
    refine own_get (pc' := 63) X13 (host := "") (Or.inl (W 160 rfl)) Via.refl f14 dd_prog_5_method_4_60 rfl ?_
    intro T15 X15
    refine own_astore (pc' := 65) X15 dd_prog_5_method_4_63 rfl rfl (Ls' := #[.val (.ref b), .unset, .val (.ref a4), .val (.int (Int32.ofNat ys.length)), .val (.ref pp), .unset]) rfl ?_
    refine own_goto (pc' := 28) X15 dd_prog_5_method_4_65 (by decide) (by decide) ?_
    refine own_aload (pc' := 30) X15 dd_prog_5_method_4_28 rfl rfl rfl ?_
    refine own_ifnullN (pc' := 33) X15 dd_prog_5_method_4_30 rfl ?_
    refine own_aload_n (pc' := 34) X15 dd_prog_5_method_4_33 rfl rfl rfl ?_
    refine own_aload (pc' := 36) X15 dd_prog_5_method_4_34 rfl rfl rfl ?_
    have ne_pp_a4 : pp ≠ a4 := own_ne p_P2.1.lt (Nat.le_refl _) (Nat.le_of_eq (Eq.symm g4))
    have f16 := (((p_P2.2.2.keep K4 nin0).keep K5 (ninS ne_pp_a4 nin0)).keep K9 (ninS ne_pp_a4 nin0))
    refine own_get (pc' := 39) X15 (host := "") (Or.inl (W 162 rfl)) Via.refl f16 dd_prog_5_method_4_36 rfl ?_
    intro T17 X17
    have f18 := ((((own_il_ob Z a0 hw n0 ct2 em ea ey zs h0 (own_old X0) p_I2 EM).keep K4).keep K5).keep K9)
    have ne_a4_e9 : a4 ≠ e9 := own_ne E4.lt (Nat.le_trans K5.1 (Nat.le_refl _)) z9
    refine own_callFM (pc' := 44) (cells' := 2) (slots' := 13) (argsL := [(.ref ct2)]) (rest := []) (W := 0) (y := (⟨"java/util/List", "add", "(Ljava/lang/Object;)Z"⟩ : MethodName)) (z := (⟨"java/util/ArrayList", "add", "(Ljava/lang/Object;)Z"⟩ : MethodName)) (a := a4) X17 (W 316 rfl) (W 53 rfl) (fun s' a' hZ' => mvT hZ' (W 54 rfl)) (W 55 rfl) (W 56 rfl) (W 57 rfl) (W 58 rfl) (W 59 rfl) (by decide) P9.1 (own_add1b1 l Z a0 hw n0 a4 ct2 e9 k9 mc9 [(.ref ct), .null, .null, .null, .null, .null, .null, .null, .null, .null] h9 (own_old X17) n_a4 n_e9 ⟨P9.1, P9.2.1, P9.2.2.1, P9.2.2.2⟩ A9 rfl V9 ne_a4_e9 f18) (W 60 rfl) (W 30 rfl) (by decide) (by decide) rfl (lenOf pd_22 rfl) rfl rfl dd_prog_5_method_4_39 rfl rfl rfl rfl (by decide) (by decide) ?_
    intro v19 T19 h19 X19 q19
    obtain ⟨rfl, K19, ⟨mc19, P19⟩, A19⟩ := q19
    have A19' : own_Arr Z h19 e9 k9 (.object "java/lang/Object") [(.ref ct), (.ref ct2), .null, .null, .null, .null, .null, .null, .null, .null] := A19
    show G T19 (mkF m 44 #[.val (.ref b), .unset, .val (.ref a4), .val (.int (Int32.ofNat ys.length)), .val (.ref pp), .unset] [(.int (1 : Int32))])
    refine own_pop (pc' := 45) X19 dd_prog_5_method_4_44 rfl rfl ?_
    refine own_iload_n (pc' := 46) X19 dd_prog_5_method_4_45 rfl rfl ?_
    refine own_aload (pc' := 48) X19 dd_prog_5_method_4_46 rfl rfl rfl ?_
    have ne_pp_e9 : pp ≠ e9 := own_ne p_P2.1.lt (Nat.le_trans K4.1 (Nat.le_trans K5.1 (Nat.le_refl _))) z9
    have f20 := (f16.keep K19 (ninS ne_pp_a4 (ninS ne_pp_e9 nin0)))
    refine own_get (pc' := 51) X19 (host := "") (Or.inl (W 162 rfl)) Via.refl f20 dd_prog_5_method_4_48 rfl ?_
    intro T21 X21
    have f22 := (p_I2.keep (((((Keep.refl h0 []).trans K4 all0).trans K5 (allS (Or.inr (Nat.le_trans (Nat.le_refl _) (Nat.le_of_eq (Eq.symm g4)))) all0)).trans K9 (allS (Or.inr (Nat.le_trans (Nat.le_refl _) (Nat.le_of_eq (Eq.symm g4)))) all0)).trans K19 (allS (Or.inr (Nat.le_trans (Nat.le_refl _) (Nat.le_of_eq (Eq.symm g4)))) (allS (Or.inr (Nat.le_trans (Nat.le_trans K4.1 (Nat.le_trans K5.1 (Nat.le_refl _))) z9)) all0))) all0)
    refine own_callIC (pc' := 56) (cells' := 2) (slots' := 13) (argsL := []) (rest := [(.int (Int32.ofNat ys.length))]) (W := 1) (y := (⟨"java/util/List", "size", "()I"⟩ : MethodName)) (a := ct2) X21 (W 318 rfl) (W 291 rfl) (fun s' a' hZ' => mvT hZ' (W 292 rfl)) (by decide) (own_il_size l Z a0 hw n0 ct2 em ea ey zs h19 (own_old X21) f22 EM EY) (by decide) (by decide) rfl (lenOf pd_24 rfl) rfl rfl dd_prog_5_method_4_51 rfl rfl rfl rfl (by decide) (by decide) ?_
    intro v23 T23 h23 X23 q23
    obtain ⟨rfl, rfl⟩ := q23
    show G T23 (mkF m 56 #[.val (.ref b), .unset, .val (.ref a4), .val (.int (Int32.ofNat ys.length)), .val (.ref pp), .unset] [(.int (Int32.ofNat zs.length)), (.int (Int32.ofNat ys.length))])
    refine own_iadd (pc' := 57) X23 dd_prog_5_method_4_56 rfl (r := (Int32.ofNat (ys.length + zs.length))) (own_i32add (by omega)) ?_
    refine own_istore_n (pc' := 58) X23 dd_prog_5_method_4_57 rfl (Ls' := #[.val (.ref b), .unset, .val (.ref a4), .val (.int (Int32.ofNat (ys.length + zs.length))), .val (.ref pp), .unset]) rfl ?_
    refine own_aload (pc' := 60) X23 dd_prog_5_method_4_58 rfl rfl rfl ?_
    have f24 := ((((p_P2.2.1.keep K4 nin0).keep K5 (ninS ne_pp_a4 nin0)).keep K9 (ninS ne_pp_a4 nin0)).keep K19 (ninS ne_pp_a4 (ninS ne_pp_e9 nin0)))
    refine own_get (pc' := 63) X23 (host := "") (Or.inl (W 160 rfl)) Via.refl f24 dd_prog_5_method_4_60 rfl ?_
    intro T25 X25
    refine own_astore (pc' := 65) X25 dd_prog_5_method_4_63 rfl rfl (Ls' := #[.val (.ref b), .unset, .val (.ref a4), .val (.int (Int32.ofNat (ys.length + zs.length))), .val .null, .unset]) rfl ?_
    refine own_goto (pc' := 28) X25 dd_prog_5_method_4_65 (by decide) (by decide) ?_
    refine own_aload (pc' := 30) X25 dd_prog_5_method_4_28 rfl rfl rfl ?_
    refine own_ifnullY (pc' := 68) X25 dd_prog_5_method_4_30 (by decide) (by decide) ?_
    refine own_new (pc' := 71) (cells' := 3) (slots' := 16) X25 (W 314 rfl) (W 29 rfl) (W 30 rfl) dd_prog_5_method_4_68 rfl rfl rfl (by decide) (by decide) ?_
    intro T26 h26 a26 g26 X26 K26 E26 D26 U26
    have n_a26 : n0 ≤ a26 := by rw [g26]; exact own_n0 X25
    have F26_modCount : Fld Z h26 a26 "java/util/AbstractList" "modCount" "I" (.int (0 : Int32)) := D26 (Or.inl (W 48 rfl)) (ty := .int) (by decide)
    have F26_elementData : Fld Z h26 a26 "java/util/ArrayList" "elementData" "[Ljava/lang/Object;" .null := D26 (Or.inl (W 51 rfl)) (ty := (.array (.object "java/lang/Object"))) (by decide)
    have F26_size : Fld Z h26 a26 "java/util/ArrayList" "size" "I" (.int (0 : Int32)) := D26 (Or.inl (W 64 rfl)) (ty := .int) (by decide)
    refine own_dup (pc' := 72) X26 dd_prog_5_method_4_71 rfl rfl ?_
    refine own_iload_n (pc' := 73) X26 dd_prog_5_method_4_72 rfl rfl ?_
    refine own_callIM (pc' := 76) (cells' := 4) (slots' := 22) (argsL := [(.int (Int32.ofNat (ys.length + zs.length)))]) (rest := [(.ref a26)]) (W := 1) (y := (⟨"java/util/ArrayList", "<init>", "(I)V"⟩ : MethodName)) (a := a26) X26 (W 319 rfl) (W 320 rfl) rfl (by decide) (own_alin l Z a0 hw n0 a26 (ys.length + zs.length) h26 (own_old X26) n_a26 ⟨E26, F26_elementData, F26_size, F26_modCount⟩ (by omega) (by omega)) (W 321 rfl) (W 30 rfl) (by decide) (by decide) rfl (lenOf pd_25 rfl) rfl rfl dd_prog_5_method_4_73 rfl rfl rfl rfl (by decide) (by decide) ?_
    intro v27 T27 h27 X27 q27
    obtain ⟨rfl, e27, k27, K27, z27, P27, A27, E27, V27⟩ := q27
    have n_e27 : n0 ≤ e27 := Nat.le_trans (own_n0 X26) z27
    show G T27 (mkF m 76 #[.val (.ref b), .unset, .val (.ref a4), .val (.int (Int32.ofNat (ys.length + zs.length))), .val .null, .unset] [(.ref a26)])
    refine own_astore (pc' := 78) X27 dd_prog_5_method_4_76 rfl rfl (Ls' := #[.val (.ref b), .unset, .val (.ref a4), .val (.int (Int32.ofNat (ys.length + zs.length))), .val (.ref a26), .unset]) rfl ?_
    refine own_aload_n (pc' := 79) X27 dd_prog_5_method_4_78 rfl rfl rfl ?_
    have ne_a4_a26 : a4 ≠ a26 := own_ne E4.lt (Nat.le_trans K5.1 (Nat.le_trans K9.1 (Nat.le_trans K19.1 (Nat.le_refl _)))) (Nat.le_of_eq (Eq.symm g26))
    have f28 := ((P19.2.2.1.keep K26 nin0).keep K27 (ninS ne_a4_a26 nin0))
    have f30 := ((P19.1.keep K26).keep K27)
    refine own_callFM (pc' := 84) (cells' := 4) (slots' := 22) (argsL := []) (rest := []) (W := 0) (y := (⟨"java/util/List", "size", "()I"⟩ : MethodName)) (z := (⟨"java/util/ArrayList", "size", "()I"⟩ : MethodName)) (a := a4) X27 (W 318 rfl) (W 291 rfl) (fun s' a' hZ' => mvT hZ' (W 292 rfl)) (W 322 rfl) (W 323 rfl) (W 324 rfl) (W 325 rfl) (W 59 rfl) (by decide) f30 (own_alz l Z a0 hw n0 a4 (2 : Int32) h27 (own_old X27) f28) (W 326 rfl) (W 30 rfl) (by decide) (by decide) rfl (lenOf pd_24 rfl) rfl rfl dd_prog_5_method_4_79 rfl rfl rfl rfl (by decide) (by decide) ?_
    intro v29 T29 h29 X29 q29
    obtain ⟨rfl, rfl⟩ := q29
    show G T29 (mkF m 84 #[.val (.ref b), .unset, .val (.ref a4), .val (.int (Int32.ofNat (ys.length + zs.length))), .val (.ref a26), .unset] [(.int (2 : Int32))])
    refine own_iconst (pc' := 85) X29 dd_prog_5_method_4_84 rfl (z := (1 : Int32)) (by decide) ?_
    refine own_isub (pc' := 86) X29 dd_prog_5_method_4_85 rfl (r := (1 : Int32)) (by decide) ?_
    refine own_istore (pc' := 88) X29 dd_prog_5_method_4_86 rfl (Ls' := #[.val (.ref b), .unset, .val (.ref a4), .val (.int (Int32.ofNat (ys.length + zs.length))), .val (.ref a26), .val (.int (1 : Int32))]) rfl ?_
    refine own_iload (pc' := 90) X29 dd_prog_5_method_4_88 rfl rfl ?_
    refine own_ifN (pc' := 93) X29 dd_prog_5_method_4_90 rfl ((flt (by decide)).1) ?_
    refine own_aload (pc' := 95) X29 dd_prog_5_method_4_93 rfl rfl rfl ?_
    refine own_aload_n (pc' := 96) X29 dd_prog_5_method_4_95 rfl rfl rfl ?_
    refine own_iload (pc' := 98) X29 dd_prog_5_method_4_96 rfl rfl ?_
    have f31 := ((P19.2.1.keep K26 nin0).keep K27 (ninS ne_a4_a26 nin0))
    have ne_e9_a26 : e9 ≠ a26 := own_ne A9.lt (Nat.le_trans K19.1 (Nat.le_refl _)) (Nat.le_of_eq (Eq.symm g26))
    have f32 := ((A19'.keep K26 nin0).keep K27 (ninS ne_e9_a26 nin0))
    refine own_callFM (pc' := 103) (cells' := 4) (slots' := 22) (argsL := [(.int (1 : Int32))]) (rest := [(.ref a26)]) (W := 1) (y := (⟨"java/util/List", "get", "(I)Ljava/lang/Object;"⟩ : MethodName)) (z := (⟨"java/util/ArrayList", "get", "(I)Ljava/lang/Object;"⟩ : MethodName)) (a := a4) X29 (W 327 rfl) (W 302 rfl) (fun s' a' hZ' => mvT hZ' (W 303 rfl)) (W 328 rfl) (W 329 rfl) (W 330 rfl) (W 331 rfl) (W 59 rfl) (by decide) f30 (own_alg l Z a0 hw n0 a4 e9 ct2 k9 [(.ref ct), (.ref ct2), .null, .null, .null, .null, .null, .null, .null, .null] 1 2 h27 (own_old X29) f30 f31 f28 f32 rfl (by decide) (by decide)) (W 332 rfl) (W 30 rfl) (by decide) (by decide) rfl (lenOf pd_15 rfl) rfl rfl dd_prog_5_method_4_98 rfl rfl rfl rfl (by decide) (by decide) ?_
    intro v33 T33 h33 X33 q33
    obtain ⟨rfl, rfl⟩ := q33
    show G T33 (mkF m 103 #[.val (.ref b), .unset, .val (.ref a4), .val (.int (Int32.ofNat (ys.length + zs.length))), .val (.ref a26), .val (.int (1 : Int32))] [(.ref ct2), (.ref a26)])
    have f34 := (p_I2.keep (((((((Keep.refl h0 []).trans K4 all0).trans K5 (allS (Or.inr (Nat.le_trans (Nat.le_refl _) (Nat.le_of_eq (Eq.symm g4)))) all0)).trans K9 (allS (Or.inr (Nat.le_trans (Nat.le_refl _) (Nat.le_of_eq (Eq.symm g4)))) all0)).trans K19 (allS (Or.inr (Nat.le_trans (Nat.le_refl _) (Nat.le_of_eq (Eq.symm g4)))) (allS (Or.inr (Nat.le_trans (Nat.le_trans K4.1 (Nat.le_trans K5.1 (Nat.le_refl _))) z9)) all0))).trans K26 all0).trans K27 (allS (Or.inr (Nat.le_trans (Nat.le_trans K4.1 (Nat.le_trans K5.1 (Nat.le_trans K9.1 (Nat.le_trans K19.1 (Nat.le_refl _))))) (Nat.le_of_eq (Eq.symm g26)))) all0)) all0)
    refine own_castY (pc' := 106) X33 (W 345 rfl) (own_il_col Z a0 hw n0 ct2 em ea ey zs h27 (own_old X33) f34 EM) dd_prog_5_method_4_103 rfl ?_
    intro T35 X35
    have l_zs : (List.replicate (ys.length + zs.length) Value.null).length = ys.length + zs.length := by simp
    have ne_a26_e27 : a26 ≠ e27 := own_ne E26.lt (Nat.le_refl _) z27
    have age_a4 : h0.size ≤ a4 := Nat.le_trans (Nat.le_refl _) (Nat.le_of_eq (Eq.symm g4))
    have age_e9 : h0.size ≤ e9 := Nat.le_trans (Nat.le_trans K4.1 (Nat.le_trans K5.1 (Nat.le_refl _))) z9
    have age_a26 : h0.size ≤ a26 := Nat.le_trans (Nat.le_trans K4.1 (Nat.le_trans K5.1 (Nat.le_trans K9.1 (Nat.le_trans K19.1 (Nat.le_refl _))))) (Nat.le_of_eq (Eq.symm g26))
    refine own_callFM (pc' := 111) (cells' := 5) (slots' := 25) (argsL := [(.ref ct2)]) (rest := []) (W := 0) (y := (⟨"java/util/List", "addAll", "(Ljava/util/Collection;)Z"⟩ : MethodName)) (z := (⟨"java/util/ArrayList", "addAll", "(Ljava/util/Collection;)Z"⟩ : MethodName)) (a := a26) X35 (W 347 rfl) (W 348 rfl) (fun s' a' hZ' => mvT hZ' (W 349 rfl)) (W 350 rfl) (W 351 rfl) (W 352 rfl) (W 353 rfl) (W 59 rfl) (by decide) P27.1 (own_aal l Z a0 hw n0 a26 e27 k27 (0 : Int32) 0 (List.replicate (ys.length + zs.length) Value.null) ct2 em ea ey mr zs h27 (own_old X35) n_a26 n_e27 ⟨P27.1, P27.2.1, P27.2.2.1, P27.2.2.2⟩ A27 V27 ne_a26_e27 f34 EM EY p_Q0 MR (fun x q => (hZ x q).keep (((((((Keep.refl h0 []).trans K4 all0).trans K5 (allS (Or.inr age_a4) all0)).trans K9 (allS (Or.inr age_a4) all0)).trans K19 (allS (Or.inr age_a4) (allS (Or.inr age_e9) all0))).trans K26 all0).trans K27 (allS (Or.inr age_a26) all0))) (by omega) (by omega)) (W 354 rfl) (W 30 rfl) (by decide) (by decide) rfl (lenOf pd_26 rfl) rfl rfl dd_prog_5_method_4_106 rfl rfl rfl rfl (by decide) (by decide) ?_
    intro v36 T36 h36 X36 q36
    obtain ⟨i36, rfl, K36, ⟨mc36, P36⟩, A36⟩ := q36
    show G T36 (mkF m 111 #[.val (.ref b), .unset, .val (.ref a4), .val (.int (Int32.ofNat (ys.length + zs.length))), .val (.ref a26), .val (.int (1 : Int32))] [(.int i36)])
    refine own_pop (pc' := 112) X36 dd_prog_5_method_4_111 rfl rfl ?_
    refine own_iinc (pc' := 115) X36 dd_prog_5_method_4_112 rfl rfl (z := (-1 : Int32)) (by decide) (r := (0 : Int32)) (by decide) (Ls' := #[.val (.ref b), .unset, .val (.ref a4), .val (.int (Int32.ofNat (ys.length + zs.length))), .val (.ref a26), .val (.int (0 : Int32))]) rfl ?_
    refine own_goto (pc' := 88) X36 dd_prog_5_method_4_115 (by decide) (by decide) ?_
    refine own_iload (pc' := 90) X36 dd_prog_5_method_4_88 rfl rfl ?_
    refine own_ifN (pc' := 93) X36 dd_prog_5_method_4_90 rfl ((flt (by decide)).1) ?_
    refine own_aload (pc' := 95) X36 dd_prog_5_method_4_93 rfl rfl rfl ?_
    refine own_aload_n (pc' := 96) X36 dd_prog_5_method_4_95 rfl rfl rfl ?_
    refine own_iload (pc' := 98) X36 dd_prog_5_method_4_96 rfl rfl ?_
    have f37 := (f30.keep K36)
    have ne_a4_e27 : a4 ≠ e27 := own_ne E4.lt (Nat.le_trans K5.1 (Nat.le_trans K9.1 (Nat.le_trans K19.1 (Nat.le_trans K26.1 (Nat.le_refl _))))) z27
    have f38 := (f31.keep K36 (ninS ne_a4_a26 (ninS ne_a4_e27 nin0)))
    have f39 := (f28.keep K36 (ninS ne_a4_a26 (ninS ne_a4_e27 nin0)))
    have ne_e9_e27 : e9 ≠ e27 := own_ne A9.lt (Nat.le_trans K19.1 (Nat.le_trans K26.1 (Nat.le_refl _))) z27
    have f40 := (f32.keep K36 (ninS ne_e9_a26 (ninS ne_e9_e27 nin0)))
    refine own_callFM (pc' := 103) (cells' := 5) (slots' := 25) (argsL := [(.int (0 : Int32))]) (rest := [(.ref a26)]) (W := 1) (y := (⟨"java/util/List", "get", "(I)Ljava/lang/Object;"⟩ : MethodName)) (z := (⟨"java/util/ArrayList", "get", "(I)Ljava/lang/Object;"⟩ : MethodName)) (a := a4) X36 (W 327 rfl) (W 302 rfl) (fun s' a' hZ' => mvT hZ' (W 303 rfl)) (W 328 rfl) (W 329 rfl) (W 330 rfl) (W 331 rfl) (W 59 rfl) (by decide) f37 (own_alg l Z a0 hw n0 a4 e9 ct k9 [(.ref ct), (.ref ct2), .null, .null, .null, .null, .null, .null, .null, .null] 0 2 h36 (own_old X36) f37 f38 f39 f40 rfl (by decide) (by decide)) (W 332 rfl) (W 30 rfl) (by decide) (by decide) rfl (lenOf pd_15 rfl) rfl rfl dd_prog_5_method_4_98 rfl rfl rfl rfl (by decide) (by decide) ?_
    intro v41 T41 h41 X41 q41
    obtain ⟨rfl, rfl⟩ := q41
    show G T41 (mkF m 103 #[.val (.ref b), .unset, .val (.ref a4), .val (.int (Int32.ofNat (ys.length + zs.length))), .val (.ref a26), .val (.int (0 : Int32))] [(.ref ct), (.ref a26)])
    have f42 := (I1.keep ((((((((Keep.refl h0 []).trans K4 all0).trans K5 (allS (Or.inr (Nat.le_trans (Nat.le_refl _) (Nat.le_of_eq (Eq.symm g4)))) all0)).trans K9 (allS (Or.inr (Nat.le_trans (Nat.le_refl _) (Nat.le_of_eq (Eq.symm g4)))) all0)).trans K19 (allS (Or.inr (Nat.le_trans (Nat.le_refl _) (Nat.le_of_eq (Eq.symm g4)))) (allS (Or.inr (Nat.le_trans (Nat.le_trans K4.1 (Nat.le_trans K5.1 (Nat.le_refl _))) z9)) all0))).trans K26 all0).trans K27 (allS (Or.inr (Nat.le_trans (Nat.le_trans K4.1 (Nat.le_trans K5.1 (Nat.le_trans K9.1 (Nat.le_trans K19.1 (Nat.le_refl _))))) (Nat.le_of_eq (Eq.symm g26)))) all0)).trans K36 (allS (Or.inr (Nat.le_trans (Nat.le_trans K4.1 (Nat.le_trans K5.1 (Nat.le_trans K9.1 (Nat.le_trans K19.1 (Nat.le_refl _))))) (Nat.le_of_eq (Eq.symm g26)))) (allS (Or.inr (Nat.le_trans (Nat.le_trans K4.1 (Nat.le_trans K5.1 (Nat.le_trans K9.1 (Nat.le_trans K19.1 (Nat.le_trans K26.1 (Nat.le_refl _)))))) z27)) all0))) all0)
    refine own_castY (pc' := 106) X41 (W 345 rfl) (own_il_col Z a0 hw n0 ct em ea ey ys h36 (own_old X41) f42 EM) dd_prog_5_method_4_103 rfl ?_
    intro T43 X43
    have l_ys : ((List.replicate (ys.length + zs.length) Value.null).take 0 ++ zs.map Value.ref ++ (List.replicate (ys.length + zs.length) Value.null).drop (0 + zs.length)).length = ys.length + zs.length := by simp; omega
    have age_e27 : h0.size ≤ e27 := Nat.le_trans (Nat.le_trans K4.1 (Nat.le_trans K5.1 (Nat.le_trans K9.1 (Nat.le_trans K19.1 (Nat.le_trans K26.1 (Nat.le_refl _)))))) z27
    refine own_callFM (pc' := 111) (cells' := 6) (slots' := 28) (argsL := [(.ref ct)]) (rest := []) (W := 0) (y := (⟨"java/util/List", "addAll", "(Ljava/util/Collection;)Z"⟩ : MethodName)) (z := (⟨"java/util/ArrayList", "addAll", "(Ljava/util/Collection;)Z"⟩ : MethodName)) (a := a26) X43 (W 347 rfl) (W 348 rfl) (fun s' a' hZ' => mvT hZ' (W 349 rfl)) (W 350 rfl) (W 351 rfl) (W 352 rfl) (W 353 rfl) (W 59 rfl) (by decide) P36.1 (own_aal l Z a0 hw n0 a26 e27 k27 mc36 (0 + zs.length) ((List.replicate (ys.length + zs.length) Value.null).take 0 ++ zs.map Value.ref ++ (List.replicate (ys.length + zs.length) Value.null).drop (0 + zs.length)) ct em ea ey mr ys h36 (own_old X43) n_a26 n_e27 ⟨P36.1, P36.2.1, P36.2.2.1, P36.2.2.2⟩ A36 V27 ne_a26_e27 f42 EM EY p_Q0 MR (fun x q => (hY x q).keep ((((((((Keep.refl h0 []).trans K4 all0).trans K5 (allS (Or.inr age_a4) all0)).trans K9 (allS (Or.inr age_a4) all0)).trans K19 (allS (Or.inr age_a4) (allS (Or.inr age_e9) all0))).trans K26 all0).trans K27 (allS (Or.inr age_a26) all0)).trans K36 (allS (Or.inr age_a26) (allS (Or.inr age_e27) all0)))) (by omega) (by omega)) (W 354 rfl) (W 30 rfl) (by decide) (by decide) rfl (lenOf pd_26 rfl) rfl rfl dd_prog_5_method_4_106 rfl rfl rfl rfl (by decide) (by decide) ?_
    intro v44 T44 h44 X44 q44
    obtain ⟨i44, rfl, K44, ⟨mc44, P44⟩, A44⟩ := q44
    show G T44 (mkF m 111 #[.val (.ref b), .unset, .val (.ref a4), .val (.int (Int32.ofNat (ys.length + zs.length))), .val (.ref a26), .val (.int (0 : Int32))] [(.int i44)])
    refine own_pop (pc' := 112) X44 dd_prog_5_method_4_111 rfl rfl ?_
    refine own_iinc (pc' := 115) X44 dd_prog_5_method_4_112 rfl rfl (z := (-1 : Int32)) (by decide) (r := (-1 : Int32)) (by decide) (Ls' := #[.val (.ref b), .unset, .val (.ref a4), .val (.int (Int32.ofNat (ys.length + zs.length))), .val (.ref a26), .val (.int (-1 : Int32))]) rfl ?_
    refine own_goto (pc' := 88) X44 dd_prog_5_method_4_115 (by decide) (by decide) ?_
    refine own_iload (pc' := 90) X44 dd_prog_5_method_4_88 rfl rfl ?_
    refine own_ifY (pc' := 118) X44 dd_prog_5_method_4_90 ((tlt (by decide)).1) (by decide) (by decide) ?_
    refine own_aload (pc' := 120) X44 dd_prog_5_method_4_118 rfl rfl rfl ?_
    have e_s : 0 + zs.length + ys.length = (zs ++ ys).length := by simp
    refine own_callSM (pc' := 123) (cells' := 7) (slots' := 30) (argsL := [(.ref a26)]) (rest := []) (W := 0) (y := (⟨"java/util/Collections", "unmodifiableList", "(Ljava/util/List;)Ljava/util/List;"⟩ : MethodName)) X44 (W 363 rfl) (W 364 rfl) (by decide) (own_uml l Z a0 hw n0 a26 ma mu mw h44 (own_old X44) P44.1 MA MU MW) (W 366 rfl) (W 365 rfl) (by decide) (by decide) rfl (lenOf pd_27 rfl) rfl rfl dd_prog_5_method_4_120 rfl rfl rfl rfl (by decide) (by decide) ?_
    intro v45 T45 h45 X45 q45
    rcases q45 with q45 | q45
    · obtain ⟨rfl, rfl⟩ := q45
      show G T45 (mkF m 123 #[.val (.ref b), .unset, .val (.ref a4), .val (.int (Int32.ofNat (ys.length + zs.length))), .val (.ref a26), .val (.int (-1 : Int32))] [(.ref a26)])
      refine own_astore_n (pc' := 124) X45 dd_prog_5_method_4_123 rfl rfl (Ls' := #[.val (.ref b), .val (.ref a26), .val (.ref a4), .val (.int (Int32.ofNat (ys.length + zs.length))), .val (.ref a26), .val (.int (-1 : Int32))]) rfl ?_
      refine own_aload_n (pc' := 125) X45 dd_prog_5_method_4_124 rfl rfl rfl ?_
      exact own_ret X45 hGe (t := (.object "java/util/List")) rfl rfl (Or.inr (Or.inr (Or.inr (Or.inr ⟨rfl, rfl, rfl⟩)))) dd_prog_5_method_4_125 (by decide) (by decide) ⟨a26, rfl, (((((((((Keep.refl h0 []).trans K4 all0).trans K5 (allS (Or.inr age_a4) all0)).trans K9 (allS (Or.inr age_a4) all0)).trans K19 (allS (Or.inr age_a4) (allS (Or.inr age_e9) all0))).trans K26 all0).trans K27 (allS (Or.inr age_a26) all0)).trans K36 (allS (Or.inr age_a26) (allS (Or.inr age_e27) all0))).trans K44 (allS (Or.inr age_a26) (allS (Or.inr age_e27) all0))), Or.inr (Or.inl ⟨e27, _, P44.1, P44.2.1, e_s ▸ P44.2.2.1, own_cat zs ys ▸ A44⟩)⟩
    · obtain ⟨c45, rfl, K45, z45, P45⟩ := q45
      show G T45 (mkF m 123 #[.val (.ref b), .unset, .val (.ref a4), .val (.int (Int32.ofNat (ys.length + zs.length))), .val (.ref a26), .val (.int (-1 : Int32))] [(.ref c45)])
      refine own_astore_n (pc' := 124) X45 dd_prog_5_method_4_123 rfl rfl (Ls' := #[.val (.ref b), .val (.ref c45), .val (.ref a4), .val (.int (Int32.ofNat (ys.length + zs.length))), .val (.ref a26), .val (.int (-1 : Int32))]) rfl ?_
      refine own_aload_n (pc' := 125) X45 dd_prog_5_method_4_124 rfl rfl rfl ?_
      have f46 := (P44.1.keep K45)
      have f47 := (P44.2.1.keep K45 nin0)
      have f48 := (P44.2.2.1.keep K45 nin0)
      have f49 := (A44.keep K45 nin0)
      exact own_ret X45 hGe (t := (.object "java/util/List")) rfl rfl (Or.inr (Or.inr (Or.inr (Or.inr ⟨rfl, rfl, rfl⟩)))) dd_prog_5_method_4_125 (by decide) (by decide) ⟨c45, rfl, ((((((((((Keep.refl h0 []).trans K4 all0).trans K5 (allS (Or.inr age_a4) all0)).trans K9 (allS (Or.inr age_a4) all0)).trans K19 (allS (Or.inr age_a4) (allS (Or.inr age_e9) all0))).trans K26 all0).trans K27 (allS (Or.inr age_a26) all0)).trans K36 (allS (Or.inr age_a26) (allS (Or.inr age_e27) all0))).trans K44 (allS (Or.inr age_a26) (allS (Or.inr age_e27) all0))).trans K45 all0), Or.inr (Or.inr ⟨a26, ⟨P45.1, P45.2.1, P45.2.2⟩, ⟨e27, _, f46, f47, e_s ▸ f48, own_cat zs ys ▸ f49⟩⟩)⟩
theorem dd_prog_56_method_5_0 : decode prog_56_method_5_code 0 = .ok (.aload_n 0, 1) := by decide +kernel
theorem dd_prog_56_method_5_1 : decode prog_56_method_5_code 1 = .ok (.getfield 21, 3) := by decide +kernel
theorem dd_prog_56_method_5_4 : decode prog_56_method_5_code 4 = .ok (.invokevirtual 33, 3) := by decide +kernel
theorem dd_prog_56_method_5_7 : decode prog_56_method_5_code 7 = .ok (.areturn, 1) := by decide +kernel
theorem ef_own_ge (m : MethodId) (x0 : Addr) : entryFrame m #[(.ref x0)] 1 = mkF m 0 #[.val (.ref x0)] [] := by first | (simp [entryFrame, mkF, argsToLocals, Value.category]; done) | rfl
set_option maxRecDepth 65536 in
set_option maxHeartbeats 40000000 in
theorem own_ge (l : Launch) (Z : State) (a0 : Array Value) (hw : ∀ d ∈ tables_1, d.before a0 Z = true) (n0 : Nat) (d b : Addr) (em ea ey mr dd ma mu mw : Addr) (zs ys : List Addr) (h0 : Heap) (O0 : Old Z n0 h0) (p_E : Fld Z h0 d "com/example/topf/topf/core/MapValue" "entries" "Lcom/example/topf/topf/core/AppendedList;" (.ref b)) (A : own_A2 Z h0 em ey b zs ys) (hZ : ∀ x ∈ zs, Exa Z h0 x "java/util/KeyValueHolder") (hY : ∀ x ∈ ys, Exa Z h0 x "java/util/KeyValueHolder") (EM : own_EMP Z em ea) (EY : own_MTY Z ey) (MR : own_Mir Z "[Ljava/lang/Object;" mr) (DE : own_DEF Z dd) (MA : own_Mir Z "java/util/ArrayList" ma) (MU : own_Mir Z "java/util/Collections$UnmodifiableList" mu) (MW : own_Mir Z "java/util/Collections$UnmodifiableRandomAccessList" mw) (p_Q0 : Exa Z Z.heap ea "[Ljava/lang/Object;") :
    own_Met l Z n0 (⟨"com/example/topf/topf/core/MapValue", "getEntries", "()Ljava/util/List;"⟩ : MethodName) prog_56_method_5_code 1 (some (.object "java/util/List")) ({ frames := 6, cells := 7, slots := 30, locals := 94 } : Room) #[(.ref d)] h0 (fun v h => ∃ u : Addr, v = some (.ref u) ∧ Keep h0 h [] ∧ own_GL Z h em ey u (zs ++ ys)) := by
  refine own_enter (own := "com/example/topf/topf/core/MapValue") (nm := "getEntries") (plainFor_of_name pn_21) rfl rfl O0 ?_
  have W : ∀ (k : Nat) {d : Jvm.Cond}, tables_1[k]? = some d → d.before a0 Z = true := fun k d q => hw d (List.mem_of_getElem? q)
  intro G p e s m below meth c T0 hGe X0
  rw [ef_own_ge m d]
  refine own_aload_n (pc' := 1) X0 dd_prog_56_method_5_0 rfl rfl rfl ?_
  refine own_get (pc' := 4) X0 (host := "") (Or.inl (W 168 rfl)) Via.refl p_E dd_prog_56_method_5_1 rfl ?_
  intro T1 X1
  refine own_callVM (pc' := 7) (cells' := 7) (slots' := 30) (argsL := []) (rest := []) (W := 0) (y := (⟨"com/example/topf/topf/core/AppendedList", "items", "()Ljava/util/List;"⟩ : MethodName)) (z := (⟨"com/example/topf/topf/core/AppendedList", "items", "()Ljava/util/List;"⟩ : MethodName)) (a := b) X1 (W 261 rfl) (W 262 rfl) (fun s' hZ' => notFace_of_selects (args := #[]) (mvT hZ' (W 264 rfl))) (W 264 rfl) (W 263 rfl) (by decide) A.exa (own_it2 l Z a0 hw n0 b em ea ey mr dd ma mu mw zs ys h0 (own_old X1) A hZ hY EM EY MR DE MA MU MW p_Q0) (W 265 rfl) (W 125 rfl) (by decide) (by decide) rfl (lenOf pd_6 rfl) rfl rfl dd_prog_56_method_5_4 rfl rfl rfl rfl (by decide) (by decide) ?_
  intro v2 T2 h2 X2 q2
  obtain ⟨u2, rfl, K2, G2⟩ := q2
  show G T2 (mkF m 7 #[.val (.ref d)] [(.ref u2)])
  exact own_ret X2 hGe (t := (.object "java/util/List")) rfl rfl (Or.inr (Or.inr (Or.inr (Or.inr ⟨rfl, rfl, rfl⟩)))) dd_prog_56_method_5_7 (by decide) (by decide) ⟨u2, rfl, ((Keep.refl h0 []).trans K2 all0), G2⟩
theorem dd_jdk_119_method_2_0 : decode jdk_119_method_2_code 0 = .ok (.aload_n 0, 1) := by decide +kernel
theorem dd_jdk_119_method_2_1 : decode jdk_119_method_2_code 1 = .ok (.getfield 10, 3) := by decide +kernel
theorem dd_jdk_119_method_2_4 : decode jdk_119_method_2_code 4 = .ok (.invokeinterface 16 1, 5) := by decide +kernel
theorem dd_jdk_119_method_2_9 : decode jdk_119_method_2_code 9 = .ok (.ireturn, 1) := by decide +kernel
theorem ef_own_ucz (m : MethodId) (x0 : Addr) : entryFrame m #[(.ref x0)] 1 = mkF m 0 #[.val (.ref x0)] [] := by first | (simp [entryFrame, mkF, argsToLocals, Value.category]; done) | rfl
set_option maxRecDepth 65536 in
set_option maxHeartbeats 40000000 in
theorem own_ucz (l : Launch) (Z : State) (a0 : Array Value) (hw : ∀ d ∈ tables_1, d.before a0 Z = true) (n0 : Nat) (u g : Addr) (z : Int32) (h0 : Heap) (O0 : Old Z n0 h0) (p_U : (Exa Z h0 u "java/util/Collections$UnmodifiableRandomAccessList" ∧ Fld Z h0 u "java/util/Collections$UnmodifiableCollection" "c" "Ljava/util/Collection;" (.ref g) ∧ Fld Z h0 u "java/util/Collections$UnmodifiableList" "list" "Ljava/util/List;" (.ref g))) (p_E : Exa Z h0 g "java/util/ArrayList") (p_S : Fld Z h0 g "java/util/ArrayList" "size" "I" (.int z)) :
    own_Met l Z n0 (⟨"java/util/Collections$UnmodifiableCollection", "size", "()I"⟩ : MethodName) jdk_119_method_2_code 1 (some .int) ({ frames := 1, cells := 0, slots := 0, locals := 12 } : Room) #[(.ref u)] h0 (fun v h => v = some (.int z) ∧ h0 = h) := by
  refine own_enter (own := "java/util/Collections$UnmodifiableCollection") (nm := "size") (plainFor_of_name pn_14) rfl rfl O0 ?_
  have W : ∀ (k : Nat) {d : Jvm.Cond}, tables_1[k]? = some d → d.before a0 Z = true := fun k d q => hw d (List.mem_of_getElem? q)
  intro G p e s m below meth c T0 hGe X0
  rw [ef_own_ucz m u]
  refine own_aload_n (pc' := 1) X0 dd_jdk_119_method_2_0 rfl rfl rfl ?_
  refine own_get (pc' := 4) X0 (host := "") (Or.inl (W 398 rfl)) Via.refl p_U.2.1 dd_jdk_119_method_2_1 rfl ?_
  intro T1 X1
  refine own_callFM (pc' := 9) (cells' := 0) (slots' := 0) (argsL := []) (rest := []) (W := 0) (y := (⟨"java/util/Collection", "size", "()I"⟩ : MethodName)) (z := (⟨"java/util/ArrayList", "size", "()I"⟩ : MethodName)) (a := g) X1 (W 408 rfl) (W 409 rfl) (fun s' a' hZ' => mvT hZ' (W 410 rfl)) (W 411 rfl) (W 323 rfl) (W 324 rfl) (W 325 rfl) (W 150 rfl) (by decide) p_E (own_alz l Z a0 hw n0 g z h0 (own_old X1) p_S) (W 326 rfl) (W 30 rfl) (by decide) (by decide) rfl (lenOf pd_24 rfl) rfl rfl dd_jdk_119_method_2_4 rfl rfl rfl rfl (by decide) (by decide) ?_
  intro v2 T2 h2 X2 q2
  obtain ⟨rfl, rfl⟩ := q2
  show G T2 (mkF m 9 #[.val (.ref u)] [(.int z)])
  exact own_ret X2 hGe (t := .int) rfl rfl (Or.inl ⟨rfl, by simp, _, rfl⟩) dd_jdk_119_method_2_9 (by decide) (by decide) ⟨rfl, rfl⟩
theorem dd_jdk_120_method_4_0 : decode jdk_120_method_4_code 0 = .ok (.aload_n 0, 1) := by decide +kernel
theorem dd_jdk_120_method_4_1 : decode jdk_120_method_4_code 1 = .ok (.getfield 7, 3) := by decide +kernel
theorem dd_jdk_120_method_4_4 : decode jdk_120_method_4_code 4 = .ok (.iload_n 1, 1) := by decide +kernel
theorem dd_jdk_120_method_4_5 : decode jdk_120_method_4_code 5 = .ok (.invokeinterface 23 2, 5) := by decide +kernel
theorem dd_jdk_120_method_4_10 : decode jdk_120_method_4_code 10 = .ok (.areturn, 1) := by decide +kernel
theorem ef_own_ulg (m : MethodId) (x0 : Addr) (x1 : Int32) : entryFrame m #[(.ref x0), (.int x1)] 2 = mkF m 0 #[.val (.ref x0), .val (.int x1)] [] := by first | (simp [entryFrame, mkF, argsToLocals, Value.category]; done) | rfl
set_option maxRecDepth 65536 in
set_option maxHeartbeats 40000000 in
theorem own_ulg (l : Launch) (Z : State) (a0 : Array Value) (hw : ∀ d ∈ tables_1, d.before a0 Z = true) (n0 : Nat) (u a ar x : Addr) (kr : ClassId) (vs : List Value) (i n : Nat) (h0 : Heap) (O0 : Old Z n0 h0) (p_U : (Exa Z h0 u "java/util/Collections$UnmodifiableRandomAccessList" ∧ Fld Z h0 u "java/util/Collections$UnmodifiableCollection" "c" "Ljava/util/Collection;" (.ref a) ∧ Fld Z h0 u "java/util/Collections$UnmodifiableList" "list" "Ljava/util/List;" (.ref a))) (p_E : Exa Z h0 a "java/util/ArrayList") (p_F : Fld Z h0 a "java/util/ArrayList" "elementData" "[Ljava/lang/Object;" (.ref ar)) (p_S : Fld Z h0 a "java/util/ArrayList" "size" "I" (.int (Int32.ofNat n))) (p_A : own_Arr Z h0 ar kr (.object "java/lang/Object") vs) (p_v : vs[i]? = some (.ref x)) (p_i : i < n) (p_n : n < 2 ^ 31) :
    own_Met l Z n0 (⟨"java/util/Collections$UnmodifiableList", "get", "(I)Ljava/lang/Object;"⟩ : MethodName) jdk_120_method_4_code 2 (some (.object "java/lang/Object")) ({ frames := 3, cells := 0, slots := 0, locals := 40 } : Room) #[(.ref u), (.int (Int32.ofNat i))] h0 (fun v h => v = some (.ref x) ∧ h0 = h) := by
  refine own_enter (own := "java/util/Collections$UnmodifiableList") (nm := "get") (plainFor_of_name pn_15) rfl rfl O0 ?_
  have W : ∀ (k : Nat) {d : Jvm.Cond}, tables_1[k]? = some d → d.before a0 Z = true := fun k d q => hw d (List.mem_of_getElem? q)
  intro G p e s m below meth c T0 hGe X0
  rw [ef_own_ulg m u ((Int32.ofNat i))]
  refine own_aload_n (pc' := 1) X0 dd_jdk_120_method_4_0 rfl rfl rfl ?_
  refine own_get (pc' := 4) X0 (host := "") (Or.inl (W 400 rfl)) Via.refl p_U.2.2 dd_jdk_120_method_4_1 rfl ?_
  intro T1 X1
  refine own_iload_n (pc' := 5) X1 dd_jdk_120_method_4_4 rfl rfl ?_
  refine own_callFM (pc' := 10) (cells' := 0) (slots' := 0) (argsL := [(.int (Int32.ofNat i))]) (rest := []) (W := 0) (y := (⟨"java/util/List", "get", "(I)Ljava/lang/Object;"⟩ : MethodName)) (z := (⟨"java/util/ArrayList", "get", "(I)Ljava/lang/Object;"⟩ : MethodName)) (a := a) X1 (W 417 rfl) (W 302 rfl) (fun s' a' hZ' => mvT hZ' (W 303 rfl)) (W 328 rfl) (W 329 rfl) (W 330 rfl) (W 331 rfl) (W 59 rfl) (by decide) p_E (own_alg l Z a0 hw n0 a ar x kr vs i n h0 (own_old X1) p_E p_F p_S p_A p_v p_i p_n) (W 332 rfl) (W 30 rfl) (by decide) (by decide) rfl (lenOf pd_15 rfl) rfl rfl dd_jdk_120_method_4_5 rfl rfl rfl rfl (by decide) (by decide) ?_
  intro v2 T2 h2 X2 q2
  obtain ⟨rfl, rfl⟩ := q2
  show G T2 (mkF m 10 #[.val (.ref u), .val (.int (Int32.ofNat i))] [(.ref x)])
  exact own_ret X2 hGe (t := (.object "java/lang/Object")) rfl rfl (Or.inr (Or.inr (Or.inr (Or.inr ⟨rfl, rfl, rfl⟩)))) dd_jdk_120_method_4_10 (by decide) (by decide) ⟨rfl, rfl⟩
set_option maxRecDepth 65536 in
set_option maxHeartbeats 4000000 in
theorem own_gl_size (l : Launch) (Z : State) (a0 : Array Value) (hw : ∀ d ∈ tables_1, d.before a0 Z = true) (n0 : Nat) (u em ea ey : Addr) (xs : List Addr) (h0 : Heap) (O0 : Old Z n0 h0) (I : own_GL Z h0 em ey u xs) (EM : own_EMP Z em ea) (EY : own_MTY Z ey) : own_IC l Z a0 n0 (⟨"java/util/List", "size", "()I"⟩ : MethodName) u [] h0 2 ({ frames := 1, cells := 0, slots := 0, locals := 12 } : Room) (fun v h => v = some (.int (Int32.ofNat xs.length)) ∧ h0 = h) := by
  have W : ∀ (k : Nat) {d : Jvm.Cond}, tables_1[k]? = some d → d.before a0 Z = true := fun k d q => hw d (List.mem_of_getElem? q)
  rcases I with I | ⟨ar, kr, e1, e2, e3, e4⟩ | ⟨g, U, ar, kr, e1, e2, e3, e4⟩
  · exact (own_il_size l Z a0 hw n0 u em ea ey xs h0 O0 I EM EY).mono (by decide) (by decide) (by decide) (by decide) (by decide)
  · exact ⟨(⟨"java/util/ArrayList", "size", "()I"⟩ : MethodName), "java/util/ArrayList", _, _, _, _, (W 322 rfl), (W 323 rfl), (W 324 rfl), (W 325 rfl), (W 59 rfl), e1, own_alz l Z a0 hw n0 u _ h0 O0 e3, (W 326 rfl), (W 30 rfl), by decide, by decide, by decide, by decide, by decide⟩
  · exact ⟨(⟨"java/util/Collections$UnmodifiableCollection", "size", "()I"⟩ : MethodName), "java/util/Collections$UnmodifiableRandomAccessList", _, _, _, _, (W 402 rfl), (W 403 rfl), (W 404 rfl), (W 405 rfl), (W 406 rfl), U.1, own_ucz l Z a0 hw n0 u g _ h0 O0 U e1 e3, (W 407 rfl), (W 395 rfl), by decide, by decide, by decide, by decide, by decide⟩

set_option maxRecDepth 65536 in
set_option maxHeartbeats 4000000 in
theorem own_gl_get (l : Launch) (Z : State) (a0 : Array Value) (hw : ∀ d ∈ tables_1, d.before a0 Z = true) (n0 : Nat) (u em ea ey x : Addr) (i : Nat) (xs : List Addr) (h0 : Heap) (O0 : Old Z n0 h0) (I : own_GL Z h0 em ey u xs) (EM : own_EMP Z em ea) (EY : own_MTY Z ey) (hx : xs[i]? = some x) (p_6 : xs.length ≤ 6) : own_IC l Z a0 n0 (⟨"java/util/List", "get", "(I)Ljava/lang/Object;"⟩ : MethodName) u [.int (Int32.ofNat i)] h0 2 ({ frames := 3, cells := 0, slots := 0, locals := 40 } : Room) (fun v h => v = some (.ref x) ∧ h0 = h) := by
  have W : ∀ (k : Nat) {d : Jvm.Cond}, tables_1[k]? = some d → d.before a0 Z = true := fun k d q => hw d (List.mem_of_getElem? q)
  rcases I with I | ⟨ar, kr, e1, e2, e3, e4⟩ | ⟨g, U, ar, kr, e1, e2, e3, e4⟩
  · exact (own_il_get l Z a0 hw n0 u em ea ey x i xs h0 O0 I EM EY hx).mono (by decide) (by decide) (by decide) (by decide) (by decide)
  · exact ⟨(⟨"java/util/ArrayList", "get", "(I)Ljava/lang/Object;"⟩ : MethodName), "java/util/ArrayList", _, _, _, _, (W 328 rfl), (W 329 rfl), (W 330 rfl), (W 331 rfl), (W 59 rfl), e1, own_alg l Z a0 hw n0 u ar x kr _ i xs.length h0 O0 e1 e2 e3 e4 (by rw [List.getElem?_map, hx]; rfl) (List.getElem?_eq_some_iff.mp hx).1 (by omega), (W 332 rfl), (W 30 rfl), by decide, by decide, by decide, by decide, by decide⟩
  · exact ⟨(⟨"java/util/Collections$UnmodifiableList", "get", "(I)Ljava/lang/Object;"⟩ : MethodName), "java/util/Collections$UnmodifiableRandomAccessList", _, _, _, _, (W 412 rfl), (W 413 rfl), (W 414 rfl), (W 415 rfl), (W 406 rfl), U.1, own_ulg l Z a0 hw n0 u g ar x kr _ i xs.length h0 O0 U e1 e2 e3 e4 (by rw [List.getElem?_map, hx]; rfl) (List.getElem?_eq_some_iff.mp hx).1 (by omega), (W 416 rfl), (W 389 rfl), by decide, by decide, by decide, by decide, by decide⟩

theorem dd_method_3_0 : decode method_3_code 0 = .ok (.iload_n 1, 1) := by decide +kernel
theorem dd_method_3_1 : decode method_3_code 1 = .ok (.aload_n 0, 1) := by decide +kernel
theorem dd_method_3_2 : decode method_3_code 2 = .ok (.invokeinterface 63 1, 5) := by decide +kernel
theorem dd_method_3_7 : decode method_3_code 7 = .ok (.if_icmp .lt 5, 3) := by decide +kernel
theorem dd_method_3_12 : decode method_3_code 12 = .ok (.iload_n 1, 1) := by decide +kernel
theorem dd_method_3_13 : decode method_3_code 13 = .ok (.iload_n 2, 1) := by decide +kernel
theorem dd_method_3_14 : decode method_3_code 14 = .ok (.if_icmp .ge 9, 3) := by decide +kernel
theorem dd_method_3_17 : decode method_3_code 17 = .ok (.aload_n 3, 1) := by decide +kernel
theorem dd_method_3_18 : decode method_3_code 18 = .ok (.iload_n 1, 1) := by decide +kernel
theorem dd_method_3_19 : decode method_3_code 19 = .ok (.aaload, 1) := by decide +kernel
theorem dd_method_3_20 : decode method_3_code 20 = .ok (.goto 9, 3) := by decide +kernel
theorem dd_method_3_29 : decode method_3_code 29 = .ok (.astore 5, 2) := by decide +kernel
theorem dd_method_3_31 : decode method_3_code 31 = .ok (.aload_n 0, 1) := by decide +kernel
theorem dd_method_3_32 : decode method_3_code 32 = .ok (.iload_n 1, 1) := by decide +kernel
theorem dd_method_3_33 : decode method_3_code 33 = .ok (.invokeinterface 71 2, 5) := by decide +kernel
theorem dd_method_3_38 : decode method_3_code 38 = .ok (.aload 5, 2) := by decide +kernel
theorem dd_method_3_40 : decode method_3_code 40 = .ok (.if_acmp .ne 7, 3) := by decide +kernel
theorem dd_method_3_43 : decode method_3_code 43 = .ok (.iconst 1, 1) := by decide +kernel
theorem dd_method_3_44 : decode method_3_code 44 = .ok (.goto 4, 3) := by decide +kernel
theorem dd_method_3_48 : decode method_3_code 48 = .ok (.ireturn, 1) := by decide +kernel
theorem dd_method_3_23 : decode method_3_code 23 = .ok (.aload 4, 2) := by decide +kernel
theorem dd_method_3_25 : decode method_3_code 25 = .ok (.iload_n 1, 1) := by decide +kernel
theorem dd_method_3_26 : decode method_3_code 26 = .ok (.iload_n 2, 1) := by decide +kernel
theorem dd_method_3_27 : decode method_3_code 27 = .ok (.isub, 1) := by decide +kernel
theorem dd_method_3_28 : decode method_3_code 28 = .ok (.aaload, 1) := by decide +kernel
theorem dd_method_3_10 : decode method_3_code 10 = .ok (.iconst 1, 1) := by decide +kernel
theorem dd_method_3_11 : decode method_3_code 11 = .ok (.ireturn, 1) := by decide +kernel
theorem ef_own_ck (m : MethodId) (x0 : Addr) (x1 : Int32) (x2 : Int32) (x3 : Addr) (x4 : Addr) : entryFrame m #[(.ref x0), (.int x1), (.int x2), (.ref x3), (.ref x4)] 6 = mkF m 0 #[.val (.ref x0), .val (.int x1), .val (.int x2), .val (.ref x3), .val (.ref x4), .unset] [] := by first | (simp [entryFrame, mkF, argsToLocals, Value.category]; done) | rfl
set_option maxRecDepth 65536 in
set_option maxHeartbeats 40000000 in
theorem own_ck (l : Launch) (Z : State) (a0 : Array Value) (hw : ∀ d ∈ tables_1, d.before a0 Z = true) (n0 : Nat) (u pe oe em ea ey p0 p1 p2 o0 o1 o2 : Addr) (kp ko : ClassId) (i n k : Nat) (h0 : Heap) (O0 : Old Z n0 h0) (p_G : own_GL Z h0 em ey u ([p0, p1, p2].take k ++ [o0, o1, o2].take n)) (p_P : own_Arr Z h0 pe kp (.object "java/lang/Object") [(.ref p0), (.ref p1), (.ref p2)]) (p_O : own_Arr Z h0 oe ko (.object "java/lang/Object") [(.ref o0), (.ref o1), (.ref o2)]) (EM : own_EMP Z em ea) (EY : own_MTY Z ey) (p_i : i < 6) (p_k : k ≤ 3) (p_n : n ≤ 3) :
    own_Met l Z n0 (⟨"com/example/topf/topf/core/MapValueMergingPinLaw", "check", "(Ljava/util/List;II[Ljava/lang/Object;[Ljava/lang/Object;)Z"⟩ : MethodName) method_3_code 6 (some .boolean) ({ frames := 4, cells := 0, slots := 0, locals := 53 } : Room) #[(.ref u), (.int (Int32.ofNat i)), (.int (Int32.ofNat k)), (.ref pe), (.ref oe)] h0 (fun v h => v = some (.int 1) ∧ h0 = h) := by
  refine own_enter (own := "com/example/topf/topf/core/MapValueMergingPinLaw") (nm := "check") (plainFor_of_name pn_22) rfl rfl O0 ?_
  have W : ∀ (k : Nat) {d : Jvm.Cond}, tables_1[k]? = some d → d.before a0 Z = true := fun k d q => hw d (List.mem_of_getElem? q)
  intro G p e s m below meth c T0 hGe X0
  rw [ef_own_ck m u ((Int32.ofNat i)) ((Int32.ofNat k)) pe oe]
  have e_l : ([p0, p1, p2].take k ++ [o0, o1, o2].take n).length = k + n := by simp; omega
  refine own_iload_n (pc' := 1) X0 dd_method_3_0 rfl rfl ?_
  refine own_aload_n (pc' := 2) X0 dd_method_3_1 rfl rfl rfl ?_
  refine own_callIC (pc' := 7) (cells' := 0) (slots' := 0) (argsL := []) (rest := [(.int (Int32.ofNat i))]) (W := 1) (y := (⟨"java/util/List", "size", "()I"⟩ : MethodName)) (a := u) X0 (W 290 rfl) (W 291 rfl) (fun s' a' hZ' => mvT hZ' (W 292 rfl)) (by decide) (own_gl_size l Z a0 hw n0 u em ea ey ([p0, p1, p2].take k ++ [o0, o1, o2].take n) h0 (own_old X0) p_G EM EY) (by decide) (by decide) rfl (lenOf pd_24 rfl) rfl rfl dd_method_3_2 rfl rfl rfl rfl (by decide) (by decide) ?_
  intro v1 T1 h1 X1 q1
  obtain ⟨rfl, rfl⟩ := q1
  show G T1 (mkF m 7 #[.val (.ref u), .val (.int (Int32.ofNat i)), .val (.int (Int32.ofNat k)), .val (.ref pe), .val (.ref oe), .unset] [(.int (Int32.ofNat ([p0, p1, p2].take k ++ [o0, o1, o2].take n).length)), (.int (Int32.ofNat i))])
  rw [e_l]
  by_cases hT : i < k + n
  · refine own_icmpY (pc' := 12) X1 dd_method_3_7 ((tlt (own_i32lt hT (by omega))).1) (by decide) (by decide) ?_
    refine own_iload_n (pc' := 13) X1 dd_method_3_12 rfl rfl ?_
    refine own_iload_n (pc' := 14) X1 dd_method_3_13 rfl rfl ?_
    by_cases hk : i < k
    · refine own_icmpN (pc' := 17) X1 dd_method_3_14 rfl ((tlt (own_i32lt hk (by omega))).2.1) ?_
      refine own_aload_n (pc' := 18) X1 dd_method_3_17 rfl rfl rfl ?_
      refine own_iload_n (pc' := 19) X1 dd_method_3_18 rfl rfl ?_
      obtain ⟨x, hx⟩ : ∃ x, [p0, p1, p2][i]? = some x := ⟨_, List.getElem?_eq_getElem (by simp; omega)⟩
      refine own_aaload (pc' := 20) (i := i) (v := (.ref x)) X1 p_P rfl (own_i32 (by omega)) (show ([p0, p1, p2].map Value.ref)[i]? = some (.ref x) by rw [List.getElem?_map, hx]; rfl) dd_method_3_19 rfl ?_
      refine own_goto (pc' := 29) X1 dd_method_3_20 (by decide) (by decide) ?_
      refine own_astore (pc' := 31) X1 dd_method_3_29 rfl rfl (Ls' := #[.val (.ref u), .val (.int (Int32.ofNat i)), .val (.int (Int32.ofNat k)), .val (.ref pe), .val (.ref oe), .val (.ref x)]) rfl ?_
      refine own_aload_n (pc' := 32) X1 dd_method_3_31 rfl rfl rfl ?_
      refine own_iload_n (pc' := 33) X1 dd_method_3_32 rfl rfl ?_
      refine own_callIC (pc' := 38) (cells' := 0) (slots' := 0) (argsL := [(.int (Int32.ofNat i))]) (rest := []) (W := 0) (y := (⟨"java/util/List", "get", "(I)Ljava/lang/Object;"⟩ : MethodName)) (a := u) X1 (W 301 rfl) (W 302 rfl) (fun s' a' hZ' => mvT hZ' (W 303 rfl)) (by decide) (own_gl_get l Z a0 hw n0 u em ea ey x i ([p0, p1, p2].take k ++ [o0, o1, o2].take n) h0 (own_old X1) p_G EM EY (own_cka hx hk) (by omega)) (by decide) (by decide) rfl (lenOf pd_15 rfl) rfl rfl dd_method_3_33 rfl rfl rfl rfl (by decide) (by decide) ?_
      intro v2 T2 h2 X2 q2
      obtain ⟨rfl, rfl⟩ := q2
      show G T2 (mkF m 38 #[.val (.ref u), .val (.int (Int32.ofNat i)), .val (.int (Int32.ofNat k)), .val (.ref pe), .val (.ref oe), .val (.ref x)] [(.ref x)])
      refine own_aload (pc' := 40) X2 dd_method_3_38 rfl rfl rfl ?_
      refine own_acmp (pc' := 43) (same := true) X2 dd_method_3_40 rfl rfl (by simp) (by decide) (by decide) ?_
      refine own_iconst (pc' := 44) X2 dd_method_3_43 rfl (z := (1 : Int32)) (by decide) ?_
      refine own_goto (pc' := 48) X2 dd_method_3_44 (by decide) (by decide) ?_
      exact own_ret X2 hGe (t := .boolean) rfl rfl (Or.inl ⟨rfl, by simp, _, rfl⟩) dd_method_3_48 (by decide) (by decide) ⟨rfl, rfl⟩
    · refine own_icmpY (pc' := 23) X1 dd_method_3_14 ((flt (own_i32le (by omega) (by omega))).2.1) (by decide) (by decide) ?_
      refine own_aload (pc' := 25) X1 dd_method_3_23 rfl rfl rfl ?_
      refine own_iload_n (pc' := 26) X1 dd_method_3_25 rfl rfl ?_
      refine own_iload_n (pc' := 27) X1 dd_method_3_26 rfl rfl ?_
      refine own_isub (pc' := 28) X1 dd_method_3_27 rfl (r := (Int32.ofNat (i - k))) (own_i32sub (by omega) (by omega)) ?_
      obtain ⟨x, hx⟩ : ∃ x, [o0, o1, o2][i - k]? = some x := ⟨_, List.getElem?_eq_getElem (by simp; omega)⟩
      refine own_aaload (pc' := 29) (i := (i - k)) (v := (.ref x)) X1 p_O rfl (own_i32 (by omega)) (show ([o0, o1, o2].map Value.ref)[i - k]? = some (.ref x) by rw [List.getElem?_map, hx]; rfl) dd_method_3_28 rfl ?_
      refine own_astore (pc' := 31) X1 dd_method_3_29 rfl rfl (Ls' := #[.val (.ref u), .val (.int (Int32.ofNat i)), .val (.int (Int32.ofNat k)), .val (.ref pe), .val (.ref oe), .val (.ref x)]) rfl ?_
      refine own_aload_n (pc' := 32) X1 dd_method_3_31 rfl rfl rfl ?_
      refine own_iload_n (pc' := 33) X1 dd_method_3_32 rfl rfl ?_
      refine own_callIC (pc' := 38) (cells' := 0) (slots' := 0) (argsL := [(.int (Int32.ofNat i))]) (rest := []) (W := 0) (y := (⟨"java/util/List", "get", "(I)Ljava/lang/Object;"⟩ : MethodName)) (a := u) X1 (W 301 rfl) (W 302 rfl) (fun s' a' hZ' => mvT hZ' (W 303 rfl)) (by decide) (own_gl_get l Z a0 hw n0 u em ea ey x i ([p0, p1, p2].take k ++ [o0, o1, o2].take n) h0 (own_old X1) p_G EM EY (own_ckb (by simp; omega) hx (by omega) hT) (by omega)) (by decide) (by decide) rfl (lenOf pd_15 rfl) rfl rfl dd_method_3_33 rfl rfl rfl rfl (by decide) (by decide) ?_
      intro v3 T3 h3 X3 q3
      obtain ⟨rfl, rfl⟩ := q3
      show G T3 (mkF m 38 #[.val (.ref u), .val (.int (Int32.ofNat i)), .val (.int (Int32.ofNat k)), .val (.ref pe), .val (.ref oe), .val (.ref x)] [(.ref x)])
      refine own_aload (pc' := 40) X3 dd_method_3_38 rfl rfl rfl ?_
      refine own_acmp (pc' := 43) (same := true) X3 dd_method_3_40 rfl rfl (by simp) (by decide) (by decide) ?_
      refine own_iconst (pc' := 44) X3 dd_method_3_43 rfl (z := (1 : Int32)) (by decide) ?_
      refine own_goto (pc' := 48) X3 dd_method_3_44 (by decide) (by decide) ?_
      exact own_ret X3 hGe (t := .boolean) rfl rfl (Or.inl ⟨rfl, by simp, _, rfl⟩) dd_method_3_48 (by decide) (by decide) ⟨rfl, rfl⟩
  · refine own_icmpN (pc' := 10) X1 dd_method_3_7 rfl ((flt (own_i32le (by omega) (by omega))).1) ?_
    refine own_iconst (pc' := 11) X1 dd_method_3_10 rfl (z := (1 : Int32)) (by decide) ?_
    exact own_ret X1 hGe (t := .boolean) rfl rfl (Or.inl ⟨rfl, by simp, _, rfl⟩) dd_method_3_11 (by decide) (by decide) ⟨rfl, rfl⟩
theorem own_4 (x : Int32) : x &&& 3 = 0 ∨ x &&& 3 = 1 ∨ x &&& 3 = 2 ∨ x &&& 3 = 3 := by
  have q := c_and x 3 (by decide)
  have e3 : (3 : Int32).toInt = 3 := by decide
  rw [e3] at q
  have : (x &&& 3).toInt = 0 ∨ (x &&& 3).toInt = 1 ∨ (x &&& 3).toInt = 2 ∨ (x &&& 3).toInt = 3 := by omega
  rcases this with z | z | z | z
  · exact Or.inl (Int32.toInt_inj.mp (z.trans (by decide)))
  · exact Or.inr (Or.inl (Int32.toInt_inj.mp (z.trans (by decide))))
  · exact Or.inr (Or.inr (Or.inl (Int32.toInt_inj.mp (z.trans (by decide)))))
  · exact Or.inr (Or.inr (Or.inr (Int32.toInt_inj.mp (z.trans (by decide)))))

theorem own_tk {P : Addr → Prop} {a b d : Addr} {n : Nat} (h1 : P a) (h2 : P b) (h3 : P d) : ∀ x ∈ [a, b, d].take n, P x := fun x q => by
  have z := List.mem_of_mem_take q
  simp only [List.mem_cons, List.not_mem_nil, or_false] at z
  rcases z with rfl | rfl | rfl <;> assumption
theorem own_tkl {a b d : Addr} {n : Nat} : ([a, b, d].take n).length ≤ 3 := by rw [List.length_take]; exact Nat.min_le_right _ 3
theorem pd_28 : parseMethodDescriptor "(Ljava/lang/Object;Ljava/lang/Object;)Ljava/util/Map$Entry;" = some ⟨[(.object "java/lang/Object"), (.object "java/lang/Object")], some (.object "java/util/Map$Entry")⟩ := by decide +kernel
theorem ef_own_law (m : MethodId) (x0 : Int32) (x1 : Int32) (x2 : Int32) (x3 : Int32) : entryFrame m #[(.int x0), (.int x1), (.int x2), (.int x3)] maxLocals = mkF m 0 #[.val (.int x0), .val (.int x1), .val (.int x2), .val (.int x3), .unset, .unset, .unset, .unset, .unset, .unset, .unset, .unset, .unset, .unset, .unset, .unset, .unset, .unset, .unset, .unset, .unset, .unset, .unset, .unset, .unset] [] := by first | (simp [entryFrame, mkF, argsToLocals, Value.category, maxLocals]; done) | rfl
theorem pd_29 : parseMethodDescriptor "(I)Ljava/lang/String;" = some ⟨[.int], some (.object "java/lang/String")⟩ := by decide +kernel
theorem pd_30 : parseMethodDescriptor "(Ljava/util/List;Ljava/lang/String;)V" = some ⟨[(.object "java/util/List"), (.object "java/lang/String")], none⟩ := by decide +kernel
theorem pd_31 : parseMethodDescriptor "()Lcom/example/topf/topf/core/MapValue;" = some ⟨[], some (.object "com/example/topf/topf/core/MapValue")⟩ := by decide +kernel
theorem pd_32 : parseMethodDescriptor "()Ljava/lang/String;" = some ⟨[], some (.object "java/lang/String")⟩ := by decide +kernel
theorem pd_33 : parseMethodDescriptor "(Ljava/lang/String;Ljava/lang/String;)Z" = some ⟨[(.object "java/lang/String"), (.object "java/lang/String")], some .boolean⟩ := by decide +kernel
theorem pd_34 : parseMethodDescriptor "(Lcom/example/topf/topf/core/DefinedValue;)Lcom/example/topf/topf/core/DefinedValue;" = some ⟨[(.object "com/example/topf/topf/core/DefinedValue")], some (.object "com/example/topf/topf/core/DefinedValue")⟩ := by decide +kernel
theorem pd_35 : parseMethodDescriptor "(Ljava/util/List;II[Ljava/lang/Object;[Ljava/lang/Object;)Z" = some ⟨[(.object "java/util/List"), .int, .int, (.array (.object "java/lang/Object")), (.array (.object "java/lang/Object"))], some .boolean⟩ := by decide +kernel
set_option maxRecDepth 65536 in
set_option maxHeartbeats 40000000 in
theorem own_P4 {G : State → JFrame → Prop} {p : Program} {l : Launch} {e : Env} {s : State} {m : MethodId} {args : Array Value} {below : List Frame} {meth : Method} {c : Code} {Z : State} {a0 : Array Value} {n0 : Nat} {T0 : State} {h0 : Heap} (hw : ∀ d ∈ tables_1, d.before a0 Z = true) (i0 i1 i2 i3 : Int32) (em ea ey mr dd ma mu mw nv o0 o1 o2 p0 p1 p2 oe pe la lb fm fd fmm frm fpq : Addr) (ko kp : ClassId) (n k : Nat) (vc vd : Value)
    (X0 : own_At G p l e room_1 s m args below meth c Z n0 "com/example/topf/topf/core/MapValueMergingPinLaw" "law" code maxLocals ret T0 h0 31 94) (hGe : G = own_Fin p e below s Z n0 (fun v h => v = some (.int 1)) room_1.cells room_1.slots) (hb0 : Exa Z h0 o0 "java/util/KeyValueHolder") (n_o0 : n0 ≤ o0) (hb2 : Exa Z h0 o1 "java/util/KeyValueHolder") (n_o1 : n0 ≤ o1) (hb4 : Exa Z h0 o2 "java/util/KeyValueHolder") (n_o2 : n0 ≤ o2) (hb6 : Exa Z h0 p0 "java/util/KeyValueHolder") (n_p0 : n0 ≤ p0) (hb8 : Exa Z h0 p1 "java/util/KeyValueHolder") (n_p1 : n0 ≤ p1) (hb10 : Exa Z h0 p2 "java/util/KeyValueHolder") (n_p2 : n0 ≤ p2) (hb12 : own_Arr Z h0 oe ko (.object "java/lang/Object") [(.ref o0), (.ref o1), (.ref o2)]) (hb13 : own_Arr Z h0 pe kp (.object "java/lang/Object") [(.ref p0), (.ref p1), (.ref p2)]) (hb14 : Exa Z h0 frm "com/example/topf/topf/core/MapValue") (hb15 : Fld Z h0 frm "com/example/topf/topf/core/MapValue" "entries" "Lcom/example/topf/topf/core/AppendedList;" (.ref fpq)) (at_fpq : own_A2 Z h0 em ey fpq ([p0, p1, p2].take k) ([o0, o1, o2].take n)) (le_n : n ≤ 3) (le_k : k ≤ 3) (EM : own_EMP Z em ea) (EY : own_MTY Z ey) (MR : own_Mir Z "[Ljava/lang/Object;" mr) (DE : own_DEF Z dd) (MA : own_Mir Z "java/util/ArrayList" ma) (MU : own_Mir Z "java/util/Collections$UnmodifiableList" mu) (MW : own_Mir Z "java/util/Collections$UnmodifiableRandomAccessList" mw) (p_Q0 : Exa Z Z.heap ea "[Ljava/lang/Object;") (CS : own_CS Z) :
    G T0 (mkF m 354 #[.val (.int i0), .val (.int i1), .val (.int i2), .val (.int i3), .val (.int (Int32.ofNat n)), .val (.int (Int32.ofNat k)), .val (.ref nv), .val (.ref o0), .val (.ref o1), .val (.ref o2), .val (.ref p0), .val (.ref p1), .val (.ref p2), .val (.ref oe), .val (.ref pe), .val (.ref la), .val (.ref lb), .val vc, .val vd, .val (.ref fm), .val (.ref fd), .val (.ref fmm), .val (.ref frm), .val (.ref frm), .unset] []) := by
  have W : ∀ (k : Nat) {d : Jvm.Cond}, tables_1[k]? = some d → d.before a0 Z = true := fun k d q => hw d (List.mem_of_getElem? q)
  refine own_aload (pc' := 356) X0 at_354 rfl rfl rfl ?_
  refine own_callVM (pc' := 359) (cells' := 38) (slots' := 124) (argsL := []) (rest := []) (W := 0) (y := (⟨"com/example/topf/topf/core/MapValue", "getEntries", "()Ljava/util/List;"⟩ : MethodName)) (z := (⟨"com/example/topf/topf/core/MapValue", "getEntries", "()Ljava/util/List;"⟩ : MethodName)) (a := frm) X0 (W 285 rfl) (W 286 rfl) (fun s' hZ' => notFace_of_selects (args := #[]) (mvT hZ' (W 288 rfl))) (W 288 rfl) (W 287 rfl) (by decide) hb14 (own_ge l Z a0 hw n0 frm fpq em ea ey mr dd ma mu mw ([p0, p1, p2].take k) ([o0, o1, o2].take n) h0 (own_old X0) hb15 at_fpq (own_tk (P := fun x => Exa Z h0 x "java/util/KeyValueHolder") hb6 hb8 hb10) (own_tk (P := fun x => Exa Z h0 x "java/util/KeyValueHolder") hb0 hb2 hb4) EM EY MR DE MA MU MW p_Q0) (W 289 rfl) (W 119 rfl) (by decide) (by decide) rfl (lenOf pd_6 rfl) rfl rfl at_356 rfl rfl rfl rfl (by decide) (by decide) ?_
  intro v1 T1 h1 X1 q1
  obtain ⟨u1, rfl, K1, G1⟩ := q1
  show G T1 (mkF m 359 #[.val (.int i0), .val (.int i1), .val (.int i2), .val (.int i3), .val (.int (Int32.ofNat n)), .val (.int (Int32.ofNat k)), .val (.ref nv), .val (.ref o0), .val (.ref o1), .val (.ref o2), .val (.ref p0), .val (.ref p1), .val (.ref p2), .val (.ref oe), .val (.ref pe), .val (.ref la), .val (.ref lb), .val vc, .val vd, .val (.ref fm), .val (.ref fd), .val (.ref fmm), .val (.ref frm), .val (.ref frm), .unset] [(.ref u1)])
  refine own_astore (pc' := 361) X1 at_359 rfl rfl (Ls' := #[.val (.int i0), .val (.int i1), .val (.int i2), .val (.int i3), .val (.int (Int32.ofNat n)), .val (.int (Int32.ofNat k)), .val (.ref nv), .val (.ref o0), .val (.ref o1), .val (.ref o2), .val (.ref p0), .val (.ref p1), .val (.ref p2), .val (.ref oe), .val (.ref pe), .val (.ref la), .val (.ref lb), .val vc, .val vd, .val (.ref fm), .val (.ref fd), .val (.ref fmm), .val (.ref frm), .val (.ref frm), .val (.ref u1)]) rfl ?_
  refine own_aload (pc' := 363) X1 at_361 rfl rfl rfl ?_
  have e_l : ([p0, p1, p2].take k ++ [o0, o1, o2].take n).length = k + n := by simp; omega
  refine own_callIC (pc' := 368) (cells' := 38) (slots' := 124) (argsL := []) (rest := []) (W := 0) (y := (⟨"java/util/List", "size", "()I"⟩ : MethodName)) (a := u1) X1 (W 290 rfl) (W 291 rfl) (fun s' a' hZ' => mvT hZ' (W 292 rfl)) (by decide) (own_gl_size l Z a0 hw n0 u1 em ea ey ([p0, p1, p2].take k ++ [o0, o1, o2].take n) h1 (own_old X1) G1 EM EY) (by decide) (by decide) rfl (lenOf pd_24 rfl) rfl rfl at_363 rfl rfl rfl rfl (by decide) (by decide) ?_
  intro v2 T2 h2 X2 q2
  obtain ⟨rfl, rfl⟩ := q2
  show G T2 (mkF m 368 #[.val (.int i0), .val (.int i1), .val (.int i2), .val (.int i3), .val (.int (Int32.ofNat n)), .val (.int (Int32.ofNat k)), .val (.ref nv), .val (.ref o0), .val (.ref o1), .val (.ref o2), .val (.ref p0), .val (.ref p1), .val (.ref p2), .val (.ref oe), .val (.ref pe), .val (.ref la), .val (.ref lb), .val vc, .val vd, .val (.ref fm), .val (.ref fd), .val (.ref fmm), .val (.ref frm), .val (.ref frm), .val (.ref u1)] [(.int (Int32.ofNat ([p0, p1, p2].take k ++ [o0, o1, o2].take n).length))])
  rw [e_l]
  refine own_iload (pc' := 370) X2 at_368 rfl rfl ?_
  refine own_iload (pc' := 372) X2 at_370 rfl rfl ?_
  refine own_iadd (pc' := 373) X2 at_372 rfl (r := (Int32.ofNat (k + n))) (own_i32add (by omega)) ?_
  refine own_icmpY (pc' := 378) X2 at_373 ((teq rfl).1) (by decide) (by decide) ?_
  refine own_aload (pc' := 380) X2 at_378 rfl rfl rfl ?_
  refine own_iconst (pc' := 381) X2 at_380 rfl (z := (0 : Int32)) (by decide) ?_
  refine own_iload (pc' := 383) X2 at_381 rfl rfl ?_
  refine own_aload (pc' := 385) X2 at_383 rfl rfl rfl ?_
  refine own_aload (pc' := 387) X2 at_385 rfl rfl rfl ?_
  have f3 := (hb13.keep K1 nin0)
  have f4 := (hb12.keep K1 nin0)
  refine own_callSM (pc' := 390) (cells' := 38) (slots' := 124) (argsL := [(.ref u1), (.int (0 : Int32)), (.int (Int32.ofNat k)), (.ref pe), (.ref oe)]) (rest := []) (W := 0) (y := (⟨"com/example/topf/topf/core/MapValueMergingPinLaw", "check", "(Ljava/util/List;II[Ljava/lang/Object;[Ljava/lang/Object;)Z"⟩ : MethodName)) X2 (W 298 rfl) (W 299 rfl) (by decide) (own_ck l Z a0 hw n0 u1 pe oe em ea ey p0 p1 p2 o0 o1 o2 kp ko 0 n k h1 (own_old X2) G1 f3 f4 EM EY (by decide) le_k le_n) (W 300 rfl) (W 87 rfl) (by decide) (by decide) rfl (lenOf pd_35 rfl) rfl rfl at_387 rfl rfl rfl rfl (by decide) (by decide) ?_
  intro v5 T5 h5 X5 q5
  obtain ⟨rfl, rfl⟩ := q5
  show G T5 (mkF m 390 #[.val (.int i0), .val (.int i1), .val (.int i2), .val (.int i3), .val (.int (Int32.ofNat n)), .val (.int (Int32.ofNat k)), .val (.ref nv), .val (.ref o0), .val (.ref o1), .val (.ref o2), .val (.ref p0), .val (.ref p1), .val (.ref p2), .val (.ref oe), .val (.ref pe), .val (.ref la), .val (.ref lb), .val vc, .val vd, .val (.ref fm), .val (.ref fd), .val (.ref fmm), .val (.ref frm), .val (.ref frm), .val (.ref u1)] [(.int (1 : Int32))])
  refine own_ifN (pc' := 393) X5 at_390 rfl ((feq (by decide)).1) ?_
  refine own_aload (pc' := 395) X5 at_393 rfl rfl rfl ?_
  refine own_iconst (pc' := 396) X5 at_395 rfl (z := (1 : Int32)) (by decide) ?_
  refine own_iload (pc' := 398) X5 at_396 rfl rfl ?_
  refine own_aload (pc' := 400) X5 at_398 rfl rfl rfl ?_
  refine own_aload (pc' := 402) X5 at_400 rfl rfl rfl ?_
  refine own_callSM (pc' := 405) (cells' := 38) (slots' := 124) (argsL := [(.ref u1), (.int (1 : Int32)), (.int (Int32.ofNat k)), (.ref pe), (.ref oe)]) (rest := []) (W := 0) (y := (⟨"com/example/topf/topf/core/MapValueMergingPinLaw", "check", "(Ljava/util/List;II[Ljava/lang/Object;[Ljava/lang/Object;)Z"⟩ : MethodName)) X5 (W 298 rfl) (W 299 rfl) (by decide) (own_ck l Z a0 hw n0 u1 pe oe em ea ey p0 p1 p2 o0 o1 o2 kp ko 1 n k h1 (own_old X5) G1 f3 f4 EM EY (by decide) le_k le_n) (W 300 rfl) (W 87 rfl) (by decide) (by decide) rfl (lenOf pd_35 rfl) rfl rfl at_402 rfl rfl rfl rfl (by decide) (by decide) ?_
  intro v6 T6 h6 X6 q6
  obtain ⟨rfl, rfl⟩ := q6
  show G T6 (mkF m 405 #[.val (.int i0), .val (.int i1), .val (.int i2), .val (.int i3), .val (.int (Int32.ofNat n)), .val (.int (Int32.ofNat k)), .val (.ref nv), .val (.ref o0), .val (.ref o1), .val (.ref o2), .val (.ref p0), .val (.ref p1), .val (.ref p2), .val (.ref oe), .val (.ref pe), .val (.ref la), .val (.ref lb), .val vc, .val vd, .val (.ref fm), .val (.ref fd), .val (.ref fmm), .val (.ref frm), .val (.ref frm), .val (.ref u1)] [(.int (1 : Int32))])
  refine own_ifN (pc' := 408) X6 at_405 rfl ((feq (by decide)).1) ?_
  refine own_aload (pc' := 410) X6 at_408 rfl rfl rfl ?_
  refine own_iconst (pc' := 411) X6 at_410 rfl (z := (2 : Int32)) (by decide) ?_
  refine own_iload (pc' := 413) X6 at_411 rfl rfl ?_
  refine own_aload (pc' := 415) X6 at_413 rfl rfl rfl ?_
  refine own_aload (pc' := 417) X6 at_415 rfl rfl rfl ?_
  refine own_callSM (pc' := 420) (cells' := 38) (slots' := 124) (argsL := [(.ref u1), (.int (2 : Int32)), (.int (Int32.ofNat k)), (.ref pe), (.ref oe)]) (rest := []) (W := 0) (y := (⟨"com/example/topf/topf/core/MapValueMergingPinLaw", "check", "(Ljava/util/List;II[Ljava/lang/Object;[Ljava/lang/Object;)Z"⟩ : MethodName)) X6 (W 298 rfl) (W 299 rfl) (by decide) (own_ck l Z a0 hw n0 u1 pe oe em ea ey p0 p1 p2 o0 o1 o2 kp ko 2 n k h1 (own_old X6) G1 f3 f4 EM EY (by decide) le_k le_n) (W 300 rfl) (W 87 rfl) (by decide) (by decide) rfl (lenOf pd_35 rfl) rfl rfl at_417 rfl rfl rfl rfl (by decide) (by decide) ?_
  intro v7 T7 h7 X7 q7
  obtain ⟨rfl, rfl⟩ := q7
  show G T7 (mkF m 420 #[.val (.int i0), .val (.int i1), .val (.int i2), .val (.int i3), .val (.int (Int32.ofNat n)), .val (.int (Int32.ofNat k)), .val (.ref nv), .val (.ref o0), .val (.ref o1), .val (.ref o2), .val (.ref p0), .val (.ref p1), .val (.ref p2), .val (.ref oe), .val (.ref pe), .val (.ref la), .val (.ref lb), .val vc, .val vd, .val (.ref fm), .val (.ref fd), .val (.ref fmm), .val (.ref frm), .val (.ref frm), .val (.ref u1)] [(.int (1 : Int32))])
  refine own_ifN (pc' := 423) X7 at_420 rfl ((feq (by decide)).1) ?_
  refine own_aload (pc' := 425) X7 at_423 rfl rfl rfl ?_
  refine own_iconst (pc' := 426) X7 at_425 rfl (z := (3 : Int32)) (by decide) ?_
  refine own_iload (pc' := 428) X7 at_426 rfl rfl ?_
  refine own_aload (pc' := 430) X7 at_428 rfl rfl rfl ?_
  refine own_aload (pc' := 432) X7 at_430 rfl rfl rfl ?_
  refine own_callSM (pc' := 435) (cells' := 38) (slots' := 124) (argsL := [(.ref u1), (.int (3 : Int32)), (.int (Int32.ofNat k)), (.ref pe), (.ref oe)]) (rest := []) (W := 0) (y := (⟨"com/example/topf/topf/core/MapValueMergingPinLaw", "check", "(Ljava/util/List;II[Ljava/lang/Object;[Ljava/lang/Object;)Z"⟩ : MethodName)) X7 (W 298 rfl) (W 299 rfl) (by decide) (own_ck l Z a0 hw n0 u1 pe oe em ea ey p0 p1 p2 o0 o1 o2 kp ko 3 n k h1 (own_old X7) G1 f3 f4 EM EY (by decide) le_k le_n) (W 300 rfl) (W 87 rfl) (by decide) (by decide) rfl (lenOf pd_35 rfl) rfl rfl at_432 rfl rfl rfl rfl (by decide) (by decide) ?_
  intro v8 T8 h8 X8 q8
  obtain ⟨rfl, rfl⟩ := q8
  show G T8 (mkF m 435 #[.val (.int i0), .val (.int i1), .val (.int i2), .val (.int i3), .val (.int (Int32.ofNat n)), .val (.int (Int32.ofNat k)), .val (.ref nv), .val (.ref o0), .val (.ref o1), .val (.ref o2), .val (.ref p0), .val (.ref p1), .val (.ref p2), .val (.ref oe), .val (.ref pe), .val (.ref la), .val (.ref lb), .val vc, .val vd, .val (.ref fm), .val (.ref fd), .val (.ref fmm), .val (.ref frm), .val (.ref frm), .val (.ref u1)] [(.int (1 : Int32))])
  refine own_ifN (pc' := 438) X8 at_435 rfl ((feq (by decide)).1) ?_
  refine own_aload (pc' := 440) X8 at_438 rfl rfl rfl ?_
  refine own_iconst (pc' := 441) X8 at_440 rfl (z := (4 : Int32)) (by decide) ?_
  refine own_iload (pc' := 443) X8 at_441 rfl rfl ?_
  refine own_aload (pc' := 445) X8 at_443 rfl rfl rfl ?_
  refine own_aload (pc' := 447) X8 at_445 rfl rfl rfl ?_
  refine own_callSM (pc' := 450) (cells' := 38) (slots' := 124) (argsL := [(.ref u1), (.int (4 : Int32)), (.int (Int32.ofNat k)), (.ref pe), (.ref oe)]) (rest := []) (W := 0) (y := (⟨"com/example/topf/topf/core/MapValueMergingPinLaw", "check", "(Ljava/util/List;II[Ljava/lang/Object;[Ljava/lang/Object;)Z"⟩ : MethodName)) X8 (W 298 rfl) (W 299 rfl) (by decide) (own_ck l Z a0 hw n0 u1 pe oe em ea ey p0 p1 p2 o0 o1 o2 kp ko 4 n k h1 (own_old X8) G1 f3 f4 EM EY (by decide) le_k le_n) (W 300 rfl) (W 87 rfl) (by decide) (by decide) rfl (lenOf pd_35 rfl) rfl rfl at_447 rfl rfl rfl rfl (by decide) (by decide) ?_
  intro v9 T9 h9 X9 q9
  obtain ⟨rfl, rfl⟩ := q9
  show G T9 (mkF m 450 #[.val (.int i0), .val (.int i1), .val (.int i2), .val (.int i3), .val (.int (Int32.ofNat n)), .val (.int (Int32.ofNat k)), .val (.ref nv), .val (.ref o0), .val (.ref o1), .val (.ref o2), .val (.ref p0), .val (.ref p1), .val (.ref p2), .val (.ref oe), .val (.ref pe), .val (.ref la), .val (.ref lb), .val vc, .val vd, .val (.ref fm), .val (.ref fd), .val (.ref fmm), .val (.ref frm), .val (.ref frm), .val (.ref u1)] [(.int (1 : Int32))])
  refine own_ifN (pc' := 453) X9 at_450 rfl ((feq (by decide)).1) ?_
  refine own_aload (pc' := 455) X9 at_453 rfl rfl rfl ?_
  refine own_iconst (pc' := 456) X9 at_455 rfl (z := (5 : Int32)) (by decide) ?_
  refine own_iload (pc' := 458) X9 at_456 rfl rfl ?_
  refine own_aload (pc' := 460) X9 at_458 rfl rfl rfl ?_
  refine own_aload (pc' := 462) X9 at_460 rfl rfl rfl ?_
  refine own_callSM (pc' := 465) (cells' := 38) (slots' := 124) (argsL := [(.ref u1), (.int (5 : Int32)), (.int (Int32.ofNat k)), (.ref pe), (.ref oe)]) (rest := []) (W := 0) (y := (⟨"com/example/topf/topf/core/MapValueMergingPinLaw", "check", "(Ljava/util/List;II[Ljava/lang/Object;[Ljava/lang/Object;)Z"⟩ : MethodName)) X9 (W 298 rfl) (W 299 rfl) (by decide) (own_ck l Z a0 hw n0 u1 pe oe em ea ey p0 p1 p2 o0 o1 o2 kp ko 5 n k h1 (own_old X9) G1 f3 f4 EM EY (by decide) le_k le_n) (W 300 rfl) (W 87 rfl) (by decide) (by decide) rfl (lenOf pd_35 rfl) rfl rfl at_462 rfl rfl rfl rfl (by decide) (by decide) ?_
  intro v10 T10 h10 X10 q10
  obtain ⟨rfl, rfl⟩ := q10
  show G T10 (mkF m 465 #[.val (.int i0), .val (.int i1), .val (.int i2), .val (.int i3), .val (.int (Int32.ofNat n)), .val (.int (Int32.ofNat k)), .val (.ref nv), .val (.ref o0), .val (.ref o1), .val (.ref o2), .val (.ref p0), .val (.ref p1), .val (.ref p2), .val (.ref oe), .val (.ref pe), .val (.ref la), .val (.ref lb), .val vc, .val vd, .val (.ref fm), .val (.ref fd), .val (.ref fmm), .val (.ref frm), .val (.ref frm), .val (.ref u1)] [(.int (1 : Int32))])
  refine own_ifN (pc' := 468) X10 at_465 rfl ((feq (by decide)).1) ?_
  refine own_iconst (pc' := 469) X10 at_468 rfl (z := (1 : Int32)) (by decide) ?_
  refine own_goto (pc' := 473) X10 at_469 (by decide) (by decide) ?_
  exact own_ret X10 hGe (t := .boolean) rfl rfl (Or.inl ⟨rfl, by simp, _, rfl⟩) at_473 (by decide) (by decide) rfl
set_option maxRecDepth 65536 in
set_option maxHeartbeats 40000000 in
theorem own_P3 {G : State → JFrame → Prop} {p : Program} {l : Launch} {e : Env} {s : State} {m : MethodId} {args : Array Value} {below : List Frame} {meth : Method} {c : Code} {Z : State} {a0 : Array Value} {n0 : Nat} {T0 : State} {h0 : Heap} (hw : ∀ d ∈ tables_1, d.before a0 Z = true) (i0 i1 i2 i3 : Int32) (em ea ey mr dd ma mu mw nv o0 o1 o2 p0 p1 p2 oe pe la lb : Addr) (ko kp : ClassId) (n k : Nat)
    (X0 : own_At G p l e room_1 s m args below meth c Z n0 "com/example/topf/topf/core/MapValueMergingPinLaw" "law" code maxLocals ret T0 h0 12 44) (hGe : G = own_Fin p e below s Z n0 (fun v h => v = some (.int 1)) room_1.cells room_1.slots) (hb0 : Exa Z h0 o0 "java/util/KeyValueHolder") (n_o0 : n0 ≤ o0) (hb2 : Exa Z h0 o1 "java/util/KeyValueHolder") (n_o1 : n0 ≤ o1) (hb4 : Exa Z h0 o2 "java/util/KeyValueHolder") (n_o2 : n0 ≤ o2) (hb6 : Exa Z h0 p0 "java/util/KeyValueHolder") (n_p0 : n0 ≤ p0) (hb8 : Exa Z h0 p1 "java/util/KeyValueHolder") (n_p1 : n0 ≤ p1) (hb10 : Exa Z h0 p2 "java/util/KeyValueHolder") (n_p2 : n0 ≤ p2) (hb12 : own_Arr Z h0 oe ko (.object "java/lang/Object") [(.ref o0), (.ref o1), (.ref o2)]) (hb13 : own_Arr Z h0 pe kp (.object "java/lang/Object") [(.ref p0), (.ref p1), (.ref p2)]) (at_la : own_AT Z h0 la ([o0, o1, o2].take n)) (at_lb : own_AT Z h0 lb ([p0, p1, p2].take k)) (le_n : n ≤ 3) (le_k : k ≤ 3) (EM : own_EMP Z em ea) (EY : own_MTY Z ey) (MR : own_Mir Z "[Ljava/lang/Object;" mr) (DE : own_DEF Z dd) (MA : own_Mir Z "java/util/ArrayList" ma) (MU : own_Mir Z "java/util/Collections$UnmodifiableList" mu) (MW : own_Mir Z "java/util/Collections$UnmodifiableRandomAccessList" mw) (p_Q0 : Exa Z Z.heap ea "[Ljava/lang/Object;") (CS : own_CS Z) :
    G T0 (mkF m 223 #[.val (.int i0), .val (.int i1), .val (.int i2), .val (.int i3), .val (.int (Int32.ofNat n)), .val (.int (Int32.ofNat k)), .val (.ref nv), .val (.ref o0), .val (.ref o1), .val (.ref o2), .val (.ref p0), .val (.ref p1), .val (.ref p2), .val (.ref oe), .val (.ref pe), .val (.ref la), .val (.ref lb), .unset, .unset, .unset, .unset, .unset, .unset, .unset, .unset] []) := by
  have W : ∀ (k : Nat) {d : Jvm.Cond}, tables_1[k]? = some d → d.before a0 Z = true := fun k d q => hw d (List.mem_of_getElem? q)
  refine own_iload_n (pc' := 224) X0 at_223 rfl rfl ?_
  refine own_callSM (pc' := 227) (cells' := 15) (slots' := 52) (argsL := [(.int i2)]) (rest := []) (W := 0) (y := (⟨"com/example/topf/topf/core/MapValueMergingPinLaw", "name", "(I)Ljava/lang/String;"⟩ : MethodName)) X0 (W 85 rfl) (W 86 rfl) (by decide) (own_name l Z a0 hw n0 i2 h0 (own_old X0) CS) (W 88 rfl) (W 87 rfl) (by decide) (by decide) rfl (lenOf pd_29 rfl) rfl rfl at_224 rfl rfl rfl rfl (by decide) (by decide) ?_
  intro v1 T1 h1 X1 q1
  obtain ⟨vc1, rfl, K1, N1⟩ := q1
  show G T1 (mkF m 227 #[.val (.int i0), .val (.int i1), .val (.int i2), .val (.int i3), .val (.int (Int32.ofNat n)), .val (.int (Int32.ofNat k)), .val (.ref nv), .val (.ref o0), .val (.ref o1), .val (.ref o2), .val (.ref p0), .val (.ref p1), .val (.ref p2), .val (.ref oe), .val (.ref pe), .val (.ref la), .val (.ref lb), .unset, .unset, .unset, .unset, .unset, .unset, .unset, .unset] [vc1])
  refine own_astore (pc' := 229) X1 at_227 rfl N1.ref (Ls' := #[.val (.int i0), .val (.int i1), .val (.int i2), .val (.int i3), .val (.int (Int32.ofNat n)), .val (.int (Int32.ofNat k)), .val (.ref nv), .val (.ref o0), .val (.ref o1), .val (.ref o2), .val (.ref p0), .val (.ref p1), .val (.ref p2), .val (.ref oe), .val (.ref pe), .val (.ref la), .val (.ref lb), .val vc1, .unset, .unset, .unset, .unset, .unset, .unset, .unset]) (by rcases own_rv N1.ref with q | ⟨y, q⟩ <;> (rw [q]; rfl)) ?_
  refine own_iload_n (pc' := 230) X1 at_229 rfl rfl ?_
  refine own_callSM (pc' := 233) (cells' := 18) (slots' := 60) (argsL := [(.int i3)]) (rest := []) (W := 0) (y := (⟨"com/example/topf/topf/core/MapValueMergingPinLaw", "name", "(I)Ljava/lang/String;"⟩ : MethodName)) X1 (W 85 rfl) (W 86 rfl) (by decide) (own_name l Z a0 hw n0 i3 h1 (own_old X1) CS) (W 88 rfl) (W 87 rfl) (by decide) (by decide) rfl (lenOf pd_29 rfl) rfl rfl at_230 rfl rfl rfl rfl (by decide) (by decide) ?_
  intro v2 T2 h2 X2 q2
  obtain ⟨vc2, rfl, K2, N2⟩ := q2
  show G T2 (mkF m 233 #[.val (.int i0), .val (.int i1), .val (.int i2), .val (.int i3), .val (.int (Int32.ofNat n)), .val (.int (Int32.ofNat k)), .val (.ref nv), .val (.ref o0), .val (.ref o1), .val (.ref o2), .val (.ref p0), .val (.ref p1), .val (.ref p2), .val (.ref oe), .val (.ref pe), .val (.ref la), .val (.ref lb), .val vc1, .unset, .unset, .unset, .unset, .unset, .unset, .unset] [vc2])
  refine own_astore (pc' := 235) X2 at_233 rfl N2.ref (Ls' := #[.val (.int i0), .val (.int i1), .val (.int i2), .val (.int i3), .val (.int (Int32.ofNat n)), .val (.int (Int32.ofNat k)), .val (.ref nv), .val (.ref o0), .val (.ref o1), .val (.ref o2), .val (.ref p0), .val (.ref p1), .val (.ref p2), .val (.ref oe), .val (.ref pe), .val (.ref la), .val (.ref lb), .val vc1, .val vc2, .unset, .unset, .unset, .unset, .unset, .unset]) (by rcases own_rv N2.ref with q | ⟨y, q⟩ <;> (rw [q]; rfl)) ?_
  refine own_new (pc' := 238) (cells' := 19) (slots' := 63) X2 (W 117 rfl) (W 118 rfl) (W 119 rfl) at_235 rfl rfl rfl (by decide) (by decide) ?_
  intro T3 h3 a3 g3 X3 K3 E3 D3 U3
  have n_a3 : n0 ≤ a3 := by rw [g3]; exact own_n0 X2
  have F3_entries : Fld Z h3 a3 "com/example/topf/topf/core/MapValue" "entries" "Lcom/example/topf/topf/core/AppendedList;" .null := D3 (Or.inr (W 169 rfl)) (ty := (.object "com/example/topf/topf/core/AppendedList")) (by decide)
  have F3_mapClass : Fld Z h3 a3 "com/example/topf/topf/core/MapValue" "mapClass" "Ljava/lang/String;" .null := D3 (Or.inr (W 171 rfl)) (ty := (.object "java/lang/String")) (by decide)
  have F3_merging : Fld Z h3 a3 "com/example/topf/topf/core/MapValue" "merging" "Z" (.int (0 : Int32)) := D3 (Or.inr (W 173 rfl)) (ty := .boolean) (by decide)
  refine own_dup (pc' := 239) X3 at_238 rfl rfl ?_
  refine own_aload (pc' := 241) X3 at_239 rfl rfl rfl ?_
  have f4 := ((N1.keep K2).keep K3)
  refine own_aload (pc' := 243) X3 at_241 rfl rfl f4.ref ?_
  have f5 := (((hb0.keep K1).keep K2).keep K3)
  have f6 := (((hb2.keep K1).keep K2).keep K3)
  have f7 := (((hb4.keep K1).keep K2).keep K3)
  have f8 := (at_la.keep ((((Keep.refl h0 []).trans K1 all0).trans K2 all0).trans K3 all0) all0)
  refine own_callIM (pc' := 246) (cells' := 23) (slots' := 73) (argsL := [(.ref la), vc1]) (rest := [(.ref a3)]) (W := 1) (y := (⟨"com/example/topf/topf/core/MapValue", "<init>", "(Ljava/util/List;Ljava/lang/String;)V"⟩ : MethodName)) (a := a3) X3 (W 120 rfl) (W 121 rfl) rfl (by decide) (own_mvlV l Z a0 hw n0 a3 la em ea ey mr ([o0, o1, o2].take n) vc1 h3 (own_old X3) n_a3 ⟨E3, F3_entries, F3_mapClass, F3_merging⟩ f8 own_tkl (own_tk (P := fun x => Exa Z h3 x "java/util/KeyValueHolder") f5 f6 f7) (own_tk (P := fun x => x ≠ ey) (Ne.symm (own_ne EY.2 (show Z.heap.size ≤ n0 from Nat.le_of_eq (own_old X0).1) n_o0)) (Ne.symm (own_ne EY.2 (show Z.heap.size ≤ n0 from Nat.le_of_eq (own_old X0).1) n_o1)) (Ne.symm (own_ne EY.2 (show Z.heap.size ≤ n0 from Nat.le_of_eq (own_old X0).1) n_o2))) EM EY MR f4.ref) (W 122 rfl) (W 119 rfl) (by decide) (by decide) rfl (lenOf pd_30 rfl) rfl rfl at_243 rfl rfl rfl rfl (by decide) (by decide) ?_
  intro v9 T9 h9 X9 q9
  obtain ⟨rfl, K9, y9, z9, M9, A9⟩ := q9
  show G T9 (mkF m 246 #[.val (.int i0), .val (.int i1), .val (.int i2), .val (.int i3), .val (.int (Int32.ofNat n)), .val (.int (Int32.ofNat k)), .val (.ref nv), .val (.ref o0), .val (.ref o1), .val (.ref o2), .val (.ref p0), .val (.ref p1), .val (.ref p2), .val (.ref oe), .val (.ref pe), .val (.ref la), .val (.ref lb), .val vc1, .val vc2, .unset, .unset, .unset, .unset, .unset, .unset] [(.ref a3)])
  refine own_astore (pc' := 248) X9 at_246 rfl rfl (Ls' := #[.val (.int i0), .val (.int i1), .val (.int i2), .val (.int i3), .val (.int (Int32.ofNat n)), .val (.int (Int32.ofNat k)), .val (.ref nv), .val (.ref o0), .val (.ref o1), .val (.ref o2), .val (.ref p0), .val (.ref p1), .val (.ref p2), .val (.ref oe), .val (.ref pe), .val (.ref la), .val (.ref lb), .val vc1, .val vc2, .val (.ref a3), .unset, .unset, .unset, .unset, .unset]) rfl ?_
  refine own_new (pc' := 251) (cells' := 24) (slots' := 76) X9 (W 117 rfl) (W 118 rfl) (W 119 rfl) at_248 rfl rfl rfl (by decide) (by decide) ?_
  intro T10 h10 a10 g10 X10 K10 E10 D10 U10
  have n_a10 : n0 ≤ a10 := by rw [g10]; exact own_n0 X9
  have F10_entries : Fld Z h10 a10 "com/example/topf/topf/core/MapValue" "entries" "Lcom/example/topf/topf/core/AppendedList;" .null := D10 (Or.inr (W 169 rfl)) (ty := (.object "com/example/topf/topf/core/AppendedList")) (by decide)
  have F10_mapClass : Fld Z h10 a10 "com/example/topf/topf/core/MapValue" "mapClass" "Ljava/lang/String;" .null := D10 (Or.inr (W 171 rfl)) (ty := (.object "java/lang/String")) (by decide)
  have F10_merging : Fld Z h10 a10 "com/example/topf/topf/core/MapValue" "merging" "Z" (.int (0 : Int32)) := D10 (Or.inr (W 173 rfl)) (ty := .boolean) (by decide)
  refine own_dup (pc' := 252) X10 at_251 rfl rfl ?_
  refine own_aload (pc' := 254) X10 at_252 rfl rfl rfl ?_
  have f11 := (((N2.keep K3).keep K9).keep K10)
  refine own_aload (pc' := 256) X10 at_254 rfl rfl f11.ref ?_
  have f12 := (((((hb6.keep K1).keep K2).keep K3).keep K9).keep K10)
  have f13 := (((((hb8.keep K1).keep K2).keep K3).keep K9).keep K10)
  have f14 := (((((hb10.keep K1).keep K2).keep K3).keep K9).keep K10)
  have f15 := (at_lb.keep ((((((Keep.refl h0 []).trans K1 all0).trans K2 all0).trans K3 all0).trans K9 (allS (Or.inr (Nat.le_trans (Nat.le_trans K1.1 (Nat.le_trans K2.1 (Nat.le_refl _))) (Nat.le_of_eq (Eq.symm g3)))) all0)).trans K10 all0) all0)
  refine own_callIM (pc' := 259) (cells' := 28) (slots' := 86) (argsL := [(.ref lb), vc2]) (rest := [(.ref a10)]) (W := 1) (y := (⟨"com/example/topf/topf/core/MapValue", "<init>", "(Ljava/util/List;Ljava/lang/String;)V"⟩ : MethodName)) (a := a10) X10 (W 120 rfl) (W 121 rfl) rfl (by decide) (own_mvlV l Z a0 hw n0 a10 lb em ea ey mr ([p0, p1, p2].take k) vc2 h10 (own_old X10) n_a10 ⟨E10, F10_entries, F10_mapClass, F10_merging⟩ f15 own_tkl (own_tk (P := fun x => Exa Z h10 x "java/util/KeyValueHolder") f12 f13 f14) (own_tk (P := fun x => x ≠ ey) (Ne.symm (own_ne EY.2 (show Z.heap.size ≤ n0 from Nat.le_of_eq (own_old X0).1) n_p0)) (Ne.symm (own_ne EY.2 (show Z.heap.size ≤ n0 from Nat.le_of_eq (own_old X0).1) n_p1)) (Ne.symm (own_ne EY.2 (show Z.heap.size ≤ n0 from Nat.le_of_eq (own_old X0).1) n_p2))) EM EY MR f11.ref) (W 122 rfl) (W 119 rfl) (by decide) (by decide) rfl (lenOf pd_30 rfl) rfl rfl at_256 rfl rfl rfl rfl (by decide) (by decide) ?_
  intro v16 T16 h16 X16 q16
  obtain ⟨rfl, K16, y16, z16, M16, A16⟩ := q16
  show G T16 (mkF m 259 #[.val (.int i0), .val (.int i1), .val (.int i2), .val (.int i3), .val (.int (Int32.ofNat n)), .val (.int (Int32.ofNat k)), .val (.ref nv), .val (.ref o0), .val (.ref o1), .val (.ref o2), .val (.ref p0), .val (.ref p1), .val (.ref p2), .val (.ref oe), .val (.ref pe), .val (.ref la), .val (.ref lb), .val vc1, .val vc2, .val (.ref a3), .unset, .unset, .unset, .unset, .unset] [(.ref a10)])
  refine own_astore (pc' := 261) X16 at_259 rfl rfl (Ls' := #[.val (.int i0), .val (.int i1), .val (.int i2), .val (.int i3), .val (.int (Int32.ofNat n)), .val (.int (Int32.ofNat k)), .val (.ref nv), .val (.ref o0), .val (.ref o1), .val (.ref o2), .val (.ref p0), .val (.ref p1), .val (.ref p2), .val (.ref oe), .val (.ref pe), .val (.ref la), .val (.ref lb), .val vc1, .val vc2, .val (.ref a3), .val (.ref a10), .unset, .unset, .unset, .unset]) rfl ?_
  refine own_aload (pc' := 263) X16 at_261 rfl rfl rfl ?_
  have f17 := ((M9.1.keep K10).keep K16)
  have ne_a3_a10 : a3 ≠ a10 := own_ne E3.lt (Nat.le_trans K9.1 (Nat.le_refl _)) (Nat.le_of_eq (Eq.symm g10))
  have f18 := ((M9.2.1.keep K10 nin0).keep K16 (ninS ne_a3_a10 nin0))
  have f19 := ((M9.2.2.1.keep K10 nin0).keep K16 (ninS ne_a3_a10 nin0))
  have f20 := ((M9.2.2.2.keep K10 nin0).keep K16 (ninS ne_a3_a10 nin0))
  have f21 := (((f4.keep K9).keep K10).keep K16)
  refine own_callVM (pc' := 266) (cells' := 29) (slots' := 89) (argsL := []) (rest := []) (W := 0) (y := (⟨"com/example/topf/topf/core/MapValue", "merging", "()Lcom/example/topf/topf/core/MapValue;"⟩ : MethodName)) (z := (⟨"com/example/topf/topf/core/MapValue", "merging", "()Lcom/example/topf/topf/core/MapValue;"⟩ : MethodName)) (a := a3) X16 (W 236 rfl) (W 237 rfl) (fun s' hZ' => notFace_of_selects (args := #[]) (mvT hZ' (W 239 rfl))) (W 239 rfl) (W 238 rfl) (by decide) f17 (own_mrg l Z a0 hw n0 a3 y9 vc1 h16 (own_old X16) ⟨f17, f18, f19, f20⟩ f21.ref) (W 240 rfl) (W 119 rfl) (by decide) (by decide) rfl (lenOf pd_31 rfl) rfl rfl at_263 rfl rfl rfl rfl (by decide) (by decide) ?_
  intro v22 T22 h22 X22 q22
  obtain ⟨b22, rfl, K22, z22, M22⟩ := q22
  show G T22 (mkF m 266 #[.val (.int i0), .val (.int i1), .val (.int i2), .val (.int i3), .val (.int (Int32.ofNat n)), .val (.int (Int32.ofNat k)), .val (.ref nv), .val (.ref o0), .val (.ref o1), .val (.ref o2), .val (.ref p0), .val (.ref p1), .val (.ref p2), .val (.ref oe), .val (.ref pe), .val (.ref la), .val (.ref lb), .val vc1, .val vc2, .val (.ref a3), .val (.ref a10), .unset, .unset, .unset, .unset] [(.ref b22)])
  refine own_astore (pc' := 268) X22 at_266 rfl rfl (Ls' := #[.val (.int i0), .val (.int i1), .val (.int i2), .val (.int i3), .val (.int (Int32.ofNat n)), .val (.int (Int32.ofNat k)), .val (.ref nv), .val (.ref o0), .val (.ref o1), .val (.ref o2), .val (.ref p0), .val (.ref p1), .val (.ref p2), .val (.ref oe), .val (.ref pe), .val (.ref la), .val (.ref lb), .val vc1, .val vc2, .val (.ref a3), .val (.ref a10), .val (.ref b22), .unset, .unset, .unset]) rfl ?_
  refine own_aload (pc' := 270) X22 at_268 rfl rfl rfl ?_
  refine own_callVM (pc' := 273) (cells' := 29) (slots' := 89) (argsL := []) (rest := []) (W := 0) (y := (⟨"com/example/topf/topf/core/MapValue", "isMerging", "()Z"⟩ : MethodName)) (z := (⟨"com/example/topf/topf/core/MapValue", "isMerging", "()Z"⟩ : MethodName)) (a := b22) X22 (W 242 rfl) (W 243 rfl) (fun s' hZ' => notFace_of_selects (args := #[]) (mvT hZ' (W 245 rfl))) (W 245 rfl) (W 244 rfl) (by decide) M22.1 (own_ism l Z a0 hw n0 b22 (1 : Int32) h22 (own_old X22) (Or.inr rfl) M22.2.2.2) (W 246 rfl) (W 119 rfl) (by decide) (by decide) rfl (lenOf pd_5 rfl) rfl rfl at_270 rfl rfl rfl rfl (by decide) (by decide) ?_
  intro v23 T23 h23 X23 q23
  obtain ⟨rfl, rfl⟩ := q23
  show G T23 (mkF m 273 #[.val (.int i0), .val (.int i1), .val (.int i2), .val (.int i3), .val (.int (Int32.ofNat n)), .val (.int (Int32.ofNat k)), .val (.ref nv), .val (.ref o0), .val (.ref o1), .val (.ref o2), .val (.ref p0), .val (.ref p1), .val (.ref p2), .val (.ref oe), .val (.ref pe), .val (.ref la), .val (.ref lb), .val vc1, .val vc2, .val (.ref a3), .val (.ref a10), .val (.ref b22), .unset, .unset, .unset] [(.int (1 : Int32))])
  refine own_ifY (pc' := 278) X23 at_273 ((feq (by decide)).2) (by decide) (by decide) ?_
  refine own_aload (pc' := 280) X23 at_278 rfl rfl rfl ?_
  have f24 := (f21.keep K22)
  refine own_callVM (pc' := 283) (cells' := 29) (slots' := 89) (argsL := []) (rest := []) (W := 0) (y := (⟨"com/example/topf/topf/core/MapValue", "getMapClass", "()Ljava/lang/String;"⟩ : MethodName)) (z := (⟨"com/example/topf/topf/core/MapValue", "getMapClass", "()Ljava/lang/String;"⟩ : MethodName)) (a := b22) X23 (W 247 rfl) (W 248 rfl) (fun s' hZ' => notFace_of_selects (args := #[]) (mvT hZ' (W 250 rfl))) (W 250 rfl) (W 249 rfl) (by decide) M22.1 (own_gmc l Z a0 hw n0 b22 vc1 h22 (own_old X23) M22.2.2.1 f24.ref) (W 251 rfl) (W 119 rfl) (by decide) (by decide) rfl (lenOf pd_32 rfl) rfl rfl at_280 rfl rfl rfl rfl (by decide) (by decide) ?_
  intro v25 T25 h25 X25 q25
  obtain ⟨rfl, rfl⟩ := q25
  show G T25 (mkF m 283 #[.val (.int i0), .val (.int i1), .val (.int i2), .val (.int i3), .val (.int (Int32.ofNat n)), .val (.int (Int32.ofNat k)), .val (.ref nv), .val (.ref o0), .val (.ref o1), .val (.ref o2), .val (.ref p0), .val (.ref p1), .val (.ref p2), .val (.ref oe), .val (.ref pe), .val (.ref la), .val (.ref lb), .val vc1, .val vc2, .val (.ref a3), .val (.ref a10), .val (.ref b22), .unset, .unset, .unset] [vc1])
  refine own_aload (pc' := 285) X25 at_283 rfl rfl f24.ref ?_
  refine own_callSM (pc' := 288) (cells' := 29) (slots' := 89) (argsL := [vc1, vc1]) (rest := []) (W := 0) (y := (⟨"com/example/topf/topf/core/MapValueMergingPinLaw", "same", "(Ljava/lang/String;Ljava/lang/String;)Z"⟩ : MethodName)) X25 (W 252 rfl) (W 253 rfl) (by decide) (own_smV l Z a0 hw n0 vc1 h22 (own_old X25) f24) (W 254 rfl) (W 87 rfl) (by decide) (by decide) rfl (lenOf pd_33 rfl) rfl rfl at_285 rfl rfl rfl rfl (by decide) (by decide) ?_
  intro v26 T26 h26 X26 q26
  obtain ⟨rfl, rfl⟩ := q26
  show G T26 (mkF m 288 #[.val (.int i0), .val (.int i1), .val (.int i2), .val (.int i3), .val (.int (Int32.ofNat n)), .val (.int (Int32.ofNat k)), .val (.ref nv), .val (.ref o0), .val (.ref o1), .val (.ref o2), .val (.ref p0), .val (.ref p1), .val (.ref p2), .val (.ref oe), .val (.ref pe), .val (.ref la), .val (.ref lb), .val vc1, .val vc2, .val (.ref a3), .val (.ref a10), .val (.ref b22), .unset, .unset, .unset] [(.int (1 : Int32))])
  refine own_ifY (pc' := 293) X26 at_288 ((feq (by decide)).2) (by decide) (by decide) ?_
  refine own_aload (pc' := 295) X26 at_293 rfl rfl rfl ?_
  refine own_aload (pc' := 297) X26 at_295 rfl rfl rfl ?_
  have f27 := (M16.1.keep K22)
  have f28 := (M16.2.1.keep K22 nin0)
  have f29 := (M16.2.2.1.keep K22 nin0)
  have f30 := (M16.2.2.2.keep K22 nin0)
  have f31 := (A9.keep ((((Keep.refl h9 []).trans K10 all0).trans K16 (allS (Or.inr (Nat.le_trans (Nat.le_refl _) (Nat.le_of_eq (Eq.symm g10)))) all0)).trans K22 all0) all0)
  have f32 := (A16.keep ((Keep.refl h16 []).trans K22 all0) all0)
  have f33 := ((f11.keep K16).keep K22)
  refine own_callVM (pc' := 300) (cells' := 31) (slots' := 94) (argsL := [(.ref a10)]) (rest := []) (W := 0) (y := (⟨"com/example/topf/topf/core/MapValue", "inheriting", "(Lcom/example/topf/topf/core/DefinedValue;)Lcom/example/topf/topf/core/DefinedValue;"⟩ : MethodName)) (z := (⟨"com/example/topf/topf/core/MapValue", "inheriting", "(Lcom/example/topf/topf/core/DefinedValue;)Lcom/example/topf/topf/core/DefinedValue;"⟩ : MethodName)) (a := b22) X26 (W 255 rfl) (W 256 rfl) (fun s' hZ' => notFace_of_selects (args := #[]) (mvT hZ' (W 258 rfl))) (W 258 rfl) (W 257 rfl) (by decide) M22.1 (own_inh l Z a0 hw n0 b22 a10 y9 y16 em ea ey ([p0, p1, p2].take k) ([o0, o1, o2].take n) vc1 vc2 h22 (own_old X26) ⟨M22.1, M22.2.1, M22.2.2.1, M22.2.2.2⟩ ⟨f27, f28, f29, f30⟩ f31 f32 f24.ref f33.ref EM EY) (W 259 rfl) (W 119 rfl) (by decide) (by decide) rfl (lenOf pd_34 rfl) rfl rfl at_297 rfl rfl rfl rfl (by decide) (by decide) ?_
  intro v34 T34 h34 X34 q34
  obtain ⟨b34, y34, rfl, K34, M34, A34⟩ := q34
  show G T34 (mkF m 300 #[.val (.int i0), .val (.int i1), .val (.int i2), .val (.int i3), .val (.int (Int32.ofNat n)), .val (.int (Int32.ofNat k)), .val (.ref nv), .val (.ref o0), .val (.ref o1), .val (.ref o2), .val (.ref p0), .val (.ref p1), .val (.ref p2), .val (.ref oe), .val (.ref pe), .val (.ref la), .val (.ref lb), .val vc1, .val vc2, .val (.ref a3), .val (.ref a10), .val (.ref b22), .unset, .unset, .unset] [(.ref b34)])
  refine own_astore (pc' := 302) X34 at_300 rfl rfl (Ls' := #[.val (.int i0), .val (.int i1), .val (.int i2), .val (.int i3), .val (.int (Int32.ofNat n)), .val (.int (Int32.ofNat k)), .val (.ref nv), .val (.ref o0), .val (.ref o1), .val (.ref o2), .val (.ref p0), .val (.ref p1), .val (.ref p2), .val (.ref oe), .val (.ref pe), .val (.ref la), .val (.ref lb), .val vc1, .val vc2, .val (.ref a3), .val (.ref a10), .val (.ref b22), .val (.ref b34), .unset, .unset]) rfl ?_
  refine own_aload (pc' := 304) X34 at_302 rfl rfl rfl ?_
  refine own_instY (pc' := 307) X34 (W 117 rfl) (Ins.self M34.1) at_304 rfl ?_
  intro T35 X35
  refine own_ifY (pc' := 312) X35 at_307 ((feq (by decide)).2) (by decide) (by decide) ?_
  refine own_aload (pc' := 314) X35 at_312 rfl rfl rfl ?_
  refine own_castY (pc' := 317) X35 (W 117 rfl) (Ins.self M34.1) at_314 rfl ?_
  intro T36 X36
  refine own_astore (pc' := 319) X36 at_317 rfl rfl (Ls' := #[.val (.int i0), .val (.int i1), .val (.int i2), .val (.int i3), .val (.int (Int32.ofNat n)), .val (.int (Int32.ofNat k)), .val (.ref nv), .val (.ref o0), .val (.ref o1), .val (.ref o2), .val (.ref p0), .val (.ref p1), .val (.ref p2), .val (.ref oe), .val (.ref pe), .val (.ref la), .val (.ref lb), .val vc1, .val vc2, .val (.ref a3), .val (.ref a10), .val (.ref b22), .val (.ref b34), .val (.ref b34), .unset]) rfl ?_
  refine own_aload (pc' := 321) X36 at_319 rfl rfl rfl ?_
  refine own_callVM (pc' := 324) (cells' := 31) (slots' := 94) (argsL := []) (rest := []) (W := 0) (y := (⟨"com/example/topf/topf/core/MapValue", "isMerging", "()Z"⟩ : MethodName)) (z := (⟨"com/example/topf/topf/core/MapValue", "isMerging", "()Z"⟩ : MethodName)) (a := b34) X36 (W 242 rfl) (W 243 rfl) (fun s' hZ' => notFace_of_selects (args := #[]) (mvT hZ' (W 245 rfl))) (W 245 rfl) (W 244 rfl) (by decide) M34.1 (own_ism l Z a0 hw n0 b34 (0 : Int32) h34 (own_old X36) (Or.inl rfl) M34.2.2.2) (W 246 rfl) (W 119 rfl) (by decide) (by decide) rfl (lenOf pd_5 rfl) rfl rfl at_321 rfl rfl rfl rfl (by decide) (by decide) ?_
  intro v37 T37 h37 X37 q37
  obtain ⟨rfl, rfl⟩ := q37
  show G T37 (mkF m 324 #[.val (.int i0), .val (.int i1), .val (.int i2), .val (.int i3), .val (.int (Int32.ofNat n)), .val (.int (Int32.ofNat k)), .val (.ref nv), .val (.ref o0), .val (.ref o1), .val (.ref o2), .val (.ref p0), .val (.ref p1), .val (.ref p2), .val (.ref oe), .val (.ref pe), .val (.ref la), .val (.ref lb), .val vc1, .val vc2, .val (.ref a3), .val (.ref a10), .val (.ref b22), .val (.ref b34), .val (.ref b34), .unset] [(.int (0 : Int32))])
  refine own_ifY (pc' := 329) X37 at_324 ((teq rfl).1) (by decide) (by decide) ?_
  have f38 := (f24.keep K34)
  have f39 := (f33.keep K34)
  have NC := f38
  rcases NC with rfl | ⟨xc, rfl, Exc⟩
  · have fM : Fld Z h34 b34 "com/example/topf/topf/core/MapValue" "mapClass" "Ljava/lang/String;" vc2 := M34.2.2.1
    refine own_aload (pc' := 331) X37 at_329 rfl rfl rfl ?_
    refine own_callVM (pc' := 334) (cells' := 31) (slots' := 94) (argsL := []) (rest := []) (W := 0) (y := (⟨"com/example/topf/topf/core/MapValue", "getMapClass", "()Ljava/lang/String;"⟩ : MethodName)) (z := (⟨"com/example/topf/topf/core/MapValue", "getMapClass", "()Ljava/lang/String;"⟩ : MethodName)) (a := b34) X37 (W 247 rfl) (W 248 rfl) (fun s' hZ' => notFace_of_selects (args := #[]) (mvT hZ' (W 250 rfl))) (W 250 rfl) (W 249 rfl) (by decide) M34.1 (own_gmc l Z a0 hw n0 b34 vc2 h34 (own_old X37) fM f39.ref) (W 251 rfl) (W 119 rfl) (by decide) (by decide) rfl (lenOf pd_32 rfl) rfl rfl at_331 rfl rfl rfl rfl (by decide) (by decide) ?_
    intro v40 T40 h40 X40 q40
    obtain ⟨rfl, rfl⟩ := q40
    show G T40 (mkF m 334 #[.val (.int i0), .val (.int i1), .val (.int i2), .val (.int i3), .val (.int (Int32.ofNat n)), .val (.int (Int32.ofNat k)), .val (.ref nv), .val (.ref o0), .val (.ref o1), .val (.ref o2), .val (.ref p0), .val (.ref p1), .val (.ref p2), .val (.ref oe), .val (.ref pe), .val (.ref la), .val (.ref lb), .val .null, .val vc2, .val (.ref a3), .val (.ref a10), .val (.ref b22), .val (.ref b34), .val (.ref b34), .unset] [vc2])
    refine own_aload (pc' := 336) X40 at_334 rfl rfl rfl ?_
    refine own_ifnullY (pc' := 344) X40 at_336 (by decide) (by decide) ?_
    refine own_aload (pc' := 346) X40 at_344 rfl rfl f39.ref ?_
    refine own_callSM (pc' := 349) (cells' := 31) (slots' := 94) (argsL := [vc2, vc2]) (rest := []) (W := 0) (y := (⟨"com/example/topf/topf/core/MapValueMergingPinLaw", "same", "(Ljava/lang/String;Ljava/lang/String;)Z"⟩ : MethodName)) X40 (W 252 rfl) (W 253 rfl) (by decide) (own_smV l Z a0 hw n0 vc2 h34 (own_old X40) f39) (W 254 rfl) (W 87 rfl) (by decide) (by decide) rfl (lenOf pd_33 rfl) rfl rfl at_346 rfl rfl rfl rfl (by decide) (by decide) ?_
    intro v41 T41 h41 X41 q41
    obtain ⟨rfl, rfl⟩ := q41
    show G T41 (mkF m 349 #[.val (.int i0), .val (.int i1), .val (.int i2), .val (.int i3), .val (.int (Int32.ofNat n)), .val (.int (Int32.ofNat k)), .val (.ref nv), .val (.ref o0), .val (.ref o1), .val (.ref o2), .val (.ref p0), .val (.ref p1), .val (.ref p2), .val (.ref oe), .val (.ref pe), .val (.ref la), .val (.ref lb), .val .null, .val vc2, .val (.ref a3), .val (.ref a10), .val (.ref b22), .val (.ref b34), .val (.ref b34), .unset] [(.int (1 : Int32))])
    refine own_ifY (pc' := 354) X41 at_349 ((feq (by decide)).2) (by decide) (by decide) ?_
    have f42 := (((((f5.keep K9).keep K10).keep K16).keep K22).keep K34)
    have f43 := (((((f6.keep K9).keep K10).keep K16).keep K22).keep K34)
    have f44 := (((((f7.keep K9).keep K10).keep K16).keep K22).keep K34)
    have f45 := (((f12.keep K16).keep K22).keep K34)
    have f46 := (((f13.keep K16).keep K22).keep K34)
    have f47 := (((f14.keep K16).keep K22).keep K34)
    have ne_oe_a3 : oe ≠ a3 := own_ne hb12.lt (Nat.le_trans K1.1 (Nat.le_trans K2.1 (Nat.le_refl _))) (Nat.le_of_eq (Eq.symm g3))
    have ne_oe_a10 : oe ≠ a10 := own_ne hb12.lt (Nat.le_trans K1.1 (Nat.le_trans K2.1 (Nat.le_trans K3.1 (Nat.le_trans K9.1 (Nat.le_refl _))))) (Nat.le_of_eq (Eq.symm g10))
    have f48 := ((((((((hb12.keep K1 nin0).keep K2 nin0).keep K3 nin0).keep K9 (ninS ne_oe_a3 nin0)).keep K10 nin0).keep K16 (ninS ne_oe_a10 nin0)).keep K22 nin0).keep K34 nin0)
    have ne_pe_a3 : pe ≠ a3 := own_ne hb13.lt (Nat.le_trans K1.1 (Nat.le_trans K2.1 (Nat.le_refl _))) (Nat.le_of_eq (Eq.symm g3))
    have ne_pe_a10 : pe ≠ a10 := own_ne hb13.lt (Nat.le_trans K1.1 (Nat.le_trans K2.1 (Nat.le_trans K3.1 (Nat.le_trans K9.1 (Nat.le_refl _))))) (Nat.le_of_eq (Eq.symm g10))
    have f49 := ((((((((hb13.keep K1 nin0).keep K2 nin0).keep K3 nin0).keep K9 (ninS ne_pe_a3 nin0)).keep K10 nin0).keep K16 (ninS ne_pe_a10 nin0)).keep K22 nin0).keep K34 nin0)
    exact own_P4 hw i0 i1 i2 i3 em ea ey mr dd ma mu mw nv o0 o1 o2 p0 p1 p2 oe pe la lb a3 a10 b22 b34 y34 ko kp n k Value.null vc2 (own_mono X41 (by decide : 31 ≤ 31) (by decide : 94 ≤ 94)) hGe f42 n_o0 f43 n_o1 f44 n_o2 f45 n_p0 f46 n_p1 f47 n_p2 f48 f49 M34.1 M34.2.1 A34 le_n le_k EM EY MR DE MA MU MW p_Q0 CS
  · have fM : Fld Z h34 b34 "com/example/topf/topf/core/MapValue" "mapClass" "Ljava/lang/String;" (.ref xc) := M34.2.2.1
    refine own_aload (pc' := 331) X37 at_329 rfl rfl rfl ?_
    refine own_callVM (pc' := 334) (cells' := 31) (slots' := 94) (argsL := []) (rest := []) (W := 0) (y := (⟨"com/example/topf/topf/core/MapValue", "getMapClass", "()Ljava/lang/String;"⟩ : MethodName)) (z := (⟨"com/example/topf/topf/core/MapValue", "getMapClass", "()Ljava/lang/String;"⟩ : MethodName)) (a := b34) X37 (W 247 rfl) (W 248 rfl) (fun s' hZ' => notFace_of_selects (args := #[]) (mvT hZ' (W 250 rfl))) (W 250 rfl) (W 249 rfl) (by decide) M34.1 (own_gmc l Z a0 hw n0 b34 (.ref xc) h34 (own_old X37) fM rfl) (W 251 rfl) (W 119 rfl) (by decide) (by decide) rfl (lenOf pd_32 rfl) rfl rfl at_331 rfl rfl rfl rfl (by decide) (by decide) ?_
    intro v50 T50 h50 X50 q50
    obtain ⟨rfl, rfl⟩ := q50
    show G T50 (mkF m 334 #[.val (.int i0), .val (.int i1), .val (.int i2), .val (.int i3), .val (.int (Int32.ofNat n)), .val (.int (Int32.ofNat k)), .val (.ref nv), .val (.ref o0), .val (.ref o1), .val (.ref o2), .val (.ref p0), .val (.ref p1), .val (.ref p2), .val (.ref oe), .val (.ref pe), .val (.ref la), .val (.ref lb), .val (.ref xc), .val vc2, .val (.ref a3), .val (.ref a10), .val (.ref b22), .val (.ref b34), .val (.ref b34), .unset] [(.ref xc)])
    refine own_aload (pc' := 336) X50 at_334 rfl rfl rfl ?_
    refine own_ifnullN (pc' := 339) X50 at_336 rfl ?_
    refine own_aload (pc' := 341) X50 at_339 rfl rfl rfl ?_
    refine own_goto (pc' := 346) X50 at_341 (by decide) (by decide) ?_
    refine own_callSM (pc' := 349) (cells' := 31) (slots' := 94) (argsL := [(.ref xc), (.ref xc)]) (rest := []) (W := 0) (y := (⟨"com/example/topf/topf/core/MapValueMergingPinLaw", "same", "(Ljava/lang/String;Ljava/lang/String;)Z"⟩ : MethodName)) X50 (W 252 rfl) (W 253 rfl) (by decide) (own_smV l Z a0 hw n0 (.ref xc) h34 (own_old X50) (Or.inr ⟨xc, rfl, Exc⟩)) (W 254 rfl) (W 87 rfl) (by decide) (by decide) rfl (lenOf pd_33 rfl) rfl rfl at_346 rfl rfl rfl rfl (by decide) (by decide) ?_
    intro v51 T51 h51 X51 q51
    obtain ⟨rfl, rfl⟩ := q51
    show G T51 (mkF m 349 #[.val (.int i0), .val (.int i1), .val (.int i2), .val (.int i3), .val (.int (Int32.ofNat n)), .val (.int (Int32.ofNat k)), .val (.ref nv), .val (.ref o0), .val (.ref o1), .val (.ref o2), .val (.ref p0), .val (.ref p1), .val (.ref p2), .val (.ref oe), .val (.ref pe), .val (.ref la), .val (.ref lb), .val (.ref xc), .val vc2, .val (.ref a3), .val (.ref a10), .val (.ref b22), .val (.ref b34), .val (.ref b34), .unset] [(.int (1 : Int32))])
    refine own_ifY (pc' := 354) X51 at_349 ((feq (by decide)).2) (by decide) (by decide) ?_
    have f52 := (((((f5.keep K9).keep K10).keep K16).keep K22).keep K34)
    have f53 := (((((f6.keep K9).keep K10).keep K16).keep K22).keep K34)
    have f54 := (((((f7.keep K9).keep K10).keep K16).keep K22).keep K34)
    have f55 := (((f12.keep K16).keep K22).keep K34)
    have f56 := (((f13.keep K16).keep K22).keep K34)
    have f57 := (((f14.keep K16).keep K22).keep K34)
    have ne_oe_a3 : oe ≠ a3 := own_ne hb12.lt (Nat.le_trans K1.1 (Nat.le_trans K2.1 (Nat.le_refl _))) (Nat.le_of_eq (Eq.symm g3))
    have ne_oe_a10 : oe ≠ a10 := own_ne hb12.lt (Nat.le_trans K1.1 (Nat.le_trans K2.1 (Nat.le_trans K3.1 (Nat.le_trans K9.1 (Nat.le_refl _))))) (Nat.le_of_eq (Eq.symm g10))
    have f58 := ((((((((hb12.keep K1 nin0).keep K2 nin0).keep K3 nin0).keep K9 (ninS ne_oe_a3 nin0)).keep K10 nin0).keep K16 (ninS ne_oe_a10 nin0)).keep K22 nin0).keep K34 nin0)
    have ne_pe_a3 : pe ≠ a3 := own_ne hb13.lt (Nat.le_trans K1.1 (Nat.le_trans K2.1 (Nat.le_refl _))) (Nat.le_of_eq (Eq.symm g3))
    have ne_pe_a10 : pe ≠ a10 := own_ne hb13.lt (Nat.le_trans K1.1 (Nat.le_trans K2.1 (Nat.le_trans K3.1 (Nat.le_trans K9.1 (Nat.le_refl _))))) (Nat.le_of_eq (Eq.symm g10))
    have f59 := ((((((((hb13.keep K1 nin0).keep K2 nin0).keep K3 nin0).keep K9 (ninS ne_pe_a3 nin0)).keep K10 nin0).keep K16 (ninS ne_pe_a10 nin0)).keep K22 nin0).keep K34 nin0)
    exact own_P4 hw i0 i1 i2 i3 em ea ey mr dd ma mu mw nv o0 o1 o2 p0 p1 p2 oe pe la lb a3 a10 b22 b34 y34 ko kp n k (Value.ref xc) vc2 (own_mono X51 (by decide : 31 ≤ 31) (by decide : 94 ≤ 94)) hGe f52 n_o0 f53 n_o1 f54 n_o2 f55 n_p0 f56 n_p1 f57 n_p2 f58 f59 M34.1 M34.2.1 A34 le_n le_k EM EY MR DE MA MU MW p_Q0 CS
set_option maxRecDepth 65536 in
set_option maxHeartbeats 40000000 in
theorem own_P2 {G : State → JFrame → Prop} {p : Program} {l : Launch} {e : Env} {s : State} {m : MethodId} {args : Array Value} {below : List Frame} {meth : Method} {c : Code} {Z : State} {a0 : Array Value} {n0 : Nat} {T0 : State} {h0 : Heap} (hw : ∀ d ∈ tables_1, d.before a0 Z = true) (i0 i1 i2 i3 : Int32) (em ea ey mr dd ma mu mw nv o0 o1 o2 p0 p1 p2 oe pe la : Addr) (ko kp : ClassId) (n : Nat)
    (X0 : own_At G p l e room_1 s m args below meth c Z n0 "com/example/topf/topf/core/MapValueMergingPinLaw" "law" code maxLocals ret T0 h0 10 31) (hGe : G = own_Fin p e below s Z n0 (fun v h => v = some (.int 1)) room_1.cells room_1.slots) (hb0 : Exa Z h0 o0 "java/util/KeyValueHolder") (n_o0 : n0 ≤ o0) (hb2 : Exa Z h0 o1 "java/util/KeyValueHolder") (n_o1 : n0 ≤ o1) (hb4 : Exa Z h0 o2 "java/util/KeyValueHolder") (n_o2 : n0 ≤ o2) (hb6 : Exa Z h0 p0 "java/util/KeyValueHolder") (n_p0 : n0 ≤ p0) (hb8 : Exa Z h0 p1 "java/util/KeyValueHolder") (n_p1 : n0 ≤ p1) (hb10 : Exa Z h0 p2 "java/util/KeyValueHolder") (n_p2 : n0 ≤ p2) (hb12 : own_Arr Z h0 oe ko (.object "java/lang/Object") [(.ref o0), (.ref o1), (.ref o2)]) (hb13 : own_Arr Z h0 pe kp (.object "java/lang/Object") [(.ref p0), (.ref p1), (.ref p2)]) (at_la : own_AT Z h0 la ([o0, o1, o2].take n)) (le_n : n ≤ 3) (EM : own_EMP Z em ea) (EY : own_MTY Z ey) (MR : own_Mir Z "[Ljava/lang/Object;" mr) (DE : own_DEF Z dd) (MA : own_Mir Z "java/util/ArrayList" ma) (MU : own_Mir Z "java/util/Collections$UnmodifiableList" mu) (MW : own_Mir Z "java/util/Collections$UnmodifiableRandomAccessList" mw) (p_Q0 : Exa Z Z.heap ea "[Ljava/lang/Object;") (CS : own_CS Z) :
    G T0 (mkF m 167 #[.val (.int i0), .val (.int i1), .val (.int i2), .val (.int i3), .val (.int (Int32.ofNat n)), .val (.int (i1 &&& (3 : Int32))), .val (.ref nv), .val (.ref o0), .val (.ref o1), .val (.ref o2), .val (.ref p0), .val (.ref p1), .val (.ref p2), .val (.ref oe), .val (.ref pe), .val (.ref la), .unset, .unset, .unset, .unset, .unset, .unset, .unset, .unset, .unset] []) := by
  have W : ∀ (k : Nat) {d : Jvm.Cond}, tables_1[k]? = some d → d.before a0 Z = true := fun k d q => hw d (List.mem_of_getElem? q)
  refine own_new (pc' := 170) (cells' := 11) (slots' := 34) X0 (W 28 rfl) (W 29 rfl) (W 30 rfl) at_167 rfl rfl rfl (by decide) (by decide) ?_
  intro T1 h1 a1 g1 X1 K1 E1 D1 U1
  have n_a1 : n0 ≤ a1 := by rw [g1]; exact own_n0 X0
  have F1_modCount : Fld Z h1 a1 "java/util/AbstractList" "modCount" "I" (.int (0 : Int32)) := D1 (Or.inl (W 48 rfl)) (ty := .int) (by decide)
  have F1_elementData : Fld Z h1 a1 "java/util/ArrayList" "elementData" "[Ljava/lang/Object;" .null := D1 (Or.inl (W 51 rfl)) (ty := (.array (.object "java/lang/Object"))) (by decide)
  have F1_size : Fld Z h1 a1 "java/util/ArrayList" "size" "I" (.int (0 : Int32)) := D1 (Or.inl (W 64 rfl)) (ty := .int) (by decide)
  refine own_dup (pc' := 171) X1 at_170 rfl rfl ?_
  refine own_callIM (pc' := 174) (cells' := 11) (slots' := 34) (argsL := []) (rest := [(.ref a1)]) (W := 1) (y := (⟨"java/util/ArrayList", "<init>", "()V"⟩ : MethodName)) (a := a1) X1 (W 31 rfl) (W 32 rfl) rfl (by decide) (own_ali l Z a0 hw n0 a1 dd h1 (own_old X1) n_a1 ⟨E1, F1_elementData, F1_size, F1_modCount⟩ DE) (W 33 rfl) (W 30 rfl) (by decide) (by decide) rfl (lenOf pd_0 rfl) rfl rfl at_171 rfl rfl rfl rfl (by decide) (by decide) ?_
  intro v2 T2 h2 X2 q2
  obtain ⟨rfl, K2, P2⟩ := q2
  show G T2 (mkF m 174 #[.val (.int i0), .val (.int i1), .val (.int i2), .val (.int i3), .val (.int (Int32.ofNat n)), .val (.int (i1 &&& (3 : Int32))), .val (.ref nv), .val (.ref o0), .val (.ref o1), .val (.ref o2), .val (.ref p0), .val (.ref p1), .val (.ref p2), .val (.ref oe), .val (.ref pe), .val (.ref la), .unset, .unset, .unset, .unset, .unset, .unset, .unset, .unset, .unset] [(.ref a1)])
  refine own_astore (pc' := 176) X2 at_174 rfl rfl (Ls' := #[.val (.int i0), .val (.int i1), .val (.int i2), .val (.int i3), .val (.int (Int32.ofNat n)), .val (.int (i1 &&& (3 : Int32))), .val (.ref nv), .val (.ref o0), .val (.ref o1), .val (.ref o2), .val (.ref p0), .val (.ref p1), .val (.ref p2), .val (.ref oe), .val (.ref pe), .val (.ref la), .val (.ref a1), .unset, .unset, .unset, .unset, .unset, .unset, .unset, .unset]) rfl ?_
  rcases own_4 i1 with e5 | e5 | e5 | e5
  · rw [e5]
    show G T2 (mkF m 176 #[.val (.int i0), .val (.int i1), .val (.int i2), .val (.int i3), .val (.int (Int32.ofNat n)), .val (.int (0 : Int32)), .val (.ref nv), .val (.ref o0), .val (.ref o1), .val (.ref o2), .val (.ref p0), .val (.ref p1), .val (.ref p2), .val (.ref oe), .val (.ref pe), .val (.ref la), .val (.ref a1), .unset, .unset, .unset, .unset, .unset, .unset, .unset, .unset] [])
    refine own_iload (pc' := 178) X2 at_176 rfl rfl ?_
    refine own_ifY (pc' := 191) X2 at_178 ((flt (by decide)).2.2.2) (by decide) (by decide) ?_
    refine own_iload (pc' := 193) X2 at_191 rfl rfl ?_
    refine own_iconst (pc' := 194) X2 at_193 rfl (z := (1 : Int32)) (by decide) ?_
    refine own_icmpY (pc' := 207) X2 at_194 ((flt (by decide)).2.2.2) (by decide) (by decide) ?_
    refine own_iload (pc' := 209) X2 at_207 rfl rfl ?_
    refine own_iconst (pc' := 210) X2 at_209 rfl (z := (2 : Int32)) (by decide) ?_
    refine own_icmpY (pc' := 223) X2 at_210 ((flt (by decide)).2.2.2) (by decide) (by decide) ?_
    have f3 := ((hb0.keep K1).keep K2)
    have f4 := ((hb2.keep K1).keep K2)
    have f5 := ((hb4.keep K1).keep K2)
    have f6 := ((hb6.keep K1).keep K2)
    have f7 := ((hb8.keep K1).keep K2)
    have f8 := ((hb10.keep K1).keep K2)
    have ne_oe_a1 : oe ≠ a1 := own_ne hb12.lt (Nat.le_refl _) (Nat.le_of_eq (Eq.symm g1))
    have f9 := ((hb12.keep K1 nin0).keep K2 (ninS ne_oe_a1 nin0))
    have ne_pe_a1 : pe ≠ a1 := own_ne hb13.lt (Nat.le_refl _) (Nat.le_of_eq (Eq.symm g1))
    have f10 := ((hb13.keep K1 nin0).keep K2 (ninS ne_pe_a1 nin0))
    have f11 := (at_la.keep (((Keep.refl h0 []).trans K1 all0).trans K2 (allS (Or.inr (Nat.le_trans (Nat.le_refl _) (Nat.le_of_eq (Eq.symm g1)))) all0)) all0)
    exact own_P3 hw i0 i1 i2 i3 em ea ey mr dd ma mu mw nv o0 o1 o2 p0 p1 p2 oe pe la a1 ko kp n 0 (own_mono X2 (by decide : 11 ≤ 12) (by decide : 34 ≤ 44)) hGe f3 n_o0 f4 n_o1 f5 n_o2 f6 n_p0 f7 n_p1 f8 n_p2 f9 f10 f11 ⟨dd, default, P2.1, P2.2.1, P2.2.2.1, Or.inl rfl⟩ le_n (by decide) EM EY MR DE MA MU MW p_Q0 CS
  · rw [e5]
    show G T2 (mkF m 176 #[.val (.int i0), .val (.int i1), .val (.int i2), .val (.int i3), .val (.int (Int32.ofNat n)), .val (.int (1 : Int32)), .val (.ref nv), .val (.ref o0), .val (.ref o1), .val (.ref o2), .val (.ref p0), .val (.ref p1), .val (.ref p2), .val (.ref oe), .val (.ref pe), .val (.ref la), .val (.ref a1), .unset, .unset, .unset, .unset, .unset, .unset, .unset, .unset] [])
    refine own_iload (pc' := 178) X2 at_176 rfl rfl ?_
    refine own_ifN (pc' := 181) X2 at_178 rfl ((tlt (by decide)).2.2.2) ?_
    refine own_aload (pc' := 183) X2 at_181 rfl rfl rfl ?_
    refine own_aload (pc' := 185) X2 at_183 rfl rfl rfl ?_
    have f12 := ((hb6.keep K1).keep K2)
    refine own_callFM (pc' := 190) (cells' := 12) (slots' := 44) (argsL := [(.ref p0)]) (rest := []) (W := 0) (y := (⟨"java/util/List", "add", "(Ljava/lang/Object;)Z"⟩ : MethodName)) (z := (⟨"java/util/ArrayList", "add", "(Ljava/lang/Object;)Z"⟩ : MethodName)) (a := a1) X2 (W 52 rfl) (W 53 rfl) (fun s' a' hZ' => mvT hZ' (W 54 rfl)) (W 55 rfl) (W 56 rfl) (W 57 rfl) (W 58 rfl) (W 59 rfl) (by decide) P2.1 (own_add1a l Z a0 hw n0 a1 p0 dd (0 : Int32) h2 (own_old X2) n_a1 ⟨P2.1, P2.2.1, P2.2.2.1, P2.2.2.2⟩ DE ⟨_, f12, (W 27 rfl)⟩) (W 60 rfl) (W 30 rfl) (by decide) (by decide) rfl (lenOf pd_22 rfl) rfl rfl at_185 rfl rfl rfl rfl (by decide) (by decide) ?_
    intro v13 T13 h13 X13 q13
    obtain ⟨rfl, e13, k13, K13, z13, ⟨mc13, P13⟩, A13, E13, V13⟩ := q13
    have n_e13 : n0 ≤ e13 := Nat.le_trans (own_n0 X2) z13
    show G T13 (mkF m 190 #[.val (.int i0), .val (.int i1), .val (.int i2), .val (.int i3), .val (.int (Int32.ofNat n)), .val (.int (1 : Int32)), .val (.ref nv), .val (.ref o0), .val (.ref o1), .val (.ref o2), .val (.ref p0), .val (.ref p1), .val (.ref p2), .val (.ref oe), .val (.ref pe), .val (.ref la), .val (.ref a1), .unset, .unset, .unset, .unset, .unset, .unset, .unset, .unset] [(.int (1 : Int32))])
    refine own_pop (pc' := 191) X13 at_190 rfl rfl ?_
    refine own_iload (pc' := 193) X13 at_191 rfl rfl ?_
    refine own_iconst (pc' := 194) X13 at_193 rfl (z := (1 : Int32)) (by decide) ?_
    refine own_icmpY (pc' := 207) X13 at_194 ((flt (by decide)).2.2.2) (by decide) (by decide) ?_
    refine own_iload (pc' := 209) X13 at_207 rfl rfl ?_
    refine own_iconst (pc' := 210) X13 at_209 rfl (z := (2 : Int32)) (by decide) ?_
    refine own_icmpY (pc' := 223) X13 at_210 ((flt (by decide)).2.2.2) (by decide) (by decide) ?_
    have f14 := (((hb0.keep K1).keep K2).keep K13)
    have f15 := (((hb2.keep K1).keep K2).keep K13)
    have f16 := (((hb4.keep K1).keep K2).keep K13)
    have f17 := (f12.keep K13)
    have f18 := (((hb8.keep K1).keep K2).keep K13)
    have f19 := (((hb10.keep K1).keep K2).keep K13)
    have ne_oe_a1 : oe ≠ a1 := own_ne hb12.lt (Nat.le_refl _) (Nat.le_of_eq (Eq.symm g1))
    have f20 := (((hb12.keep K1 nin0).keep K2 (ninS ne_oe_a1 nin0)).keep K13 (ninS ne_oe_a1 nin0))
    have ne_pe_a1 : pe ≠ a1 := own_ne hb13.lt (Nat.le_refl _) (Nat.le_of_eq (Eq.symm g1))
    have f21 := (((hb13.keep K1 nin0).keep K2 (ninS ne_pe_a1 nin0)).keep K13 (ninS ne_pe_a1 nin0))
    have f22 := (at_la.keep ((((Keep.refl h0 []).trans K1 all0).trans K2 (allS (Or.inr (Nat.le_trans (Nat.le_refl _) (Nat.le_of_eq (Eq.symm g1)))) all0)).trans K13 (allS (Or.inr (Nat.le_trans (Nat.le_refl _) (Nat.le_of_eq (Eq.symm g1)))) all0)) all0)
    exact own_P3 hw i0 i1 i2 i3 em ea ey mr dd ma mu mw nv o0 o1 o2 p0 p1 p2 oe pe la a1 ko kp n 1 (own_mono X13 (by decide : 12 ≤ 12) (by decide : 44 ≤ 44)) hGe f14 n_o0 f15 n_o1 f16 n_o2 f17 n_p0 f18 n_p1 f19 n_p2 f20 f21 f22 ⟨e13, k13, P13.1, P13.2.1, P13.2.2.1, Or.inr ⟨A13, E13⟩⟩ le_n (by decide) EM EY MR DE MA MU MW p_Q0 CS
  · rw [e5]
    show G T2 (mkF m 176 #[.val (.int i0), .val (.int i1), .val (.int i2), .val (.int i3), .val (.int (Int32.ofNat n)), .val (.int (2 : Int32)), .val (.ref nv), .val (.ref o0), .val (.ref o1), .val (.ref o2), .val (.ref p0), .val (.ref p1), .val (.ref p2), .val (.ref oe), .val (.ref pe), .val (.ref la), .val (.ref a1), .unset, .unset, .unset, .unset, .unset, .unset, .unset, .unset] [])
    refine own_iload (pc' := 178) X2 at_176 rfl rfl ?_
    refine own_ifN (pc' := 181) X2 at_178 rfl ((tlt (by decide)).2.2.2) ?_
    refine own_aload (pc' := 183) X2 at_181 rfl rfl rfl ?_
    refine own_aload (pc' := 185) X2 at_183 rfl rfl rfl ?_
    have f23 := ((hb6.keep K1).keep K2)
    refine own_callFM (pc' := 190) (cells' := 12) (slots' := 44) (argsL := [(.ref p0)]) (rest := []) (W := 0) (y := (⟨"java/util/List", "add", "(Ljava/lang/Object;)Z"⟩ : MethodName)) (z := (⟨"java/util/ArrayList", "add", "(Ljava/lang/Object;)Z"⟩ : MethodName)) (a := a1) X2 (W 52 rfl) (W 53 rfl) (fun s' a' hZ' => mvT hZ' (W 54 rfl)) (W 55 rfl) (W 56 rfl) (W 57 rfl) (W 58 rfl) (W 59 rfl) (by decide) P2.1 (own_add1a l Z a0 hw n0 a1 p0 dd (0 : Int32) h2 (own_old X2) n_a1 ⟨P2.1, P2.2.1, P2.2.2.1, P2.2.2.2⟩ DE ⟨_, f23, (W 27 rfl)⟩) (W 60 rfl) (W 30 rfl) (by decide) (by decide) rfl (lenOf pd_22 rfl) rfl rfl at_185 rfl rfl rfl rfl (by decide) (by decide) ?_
    intro v24 T24 h24 X24 q24
    obtain ⟨rfl, e24, k24, K24, z24, ⟨mc24, P24⟩, A24, E24, V24⟩ := q24
    have n_e24 : n0 ≤ e24 := Nat.le_trans (own_n0 X2) z24
    show G T24 (mkF m 190 #[.val (.int i0), .val (.int i1), .val (.int i2), .val (.int i3), .val (.int (Int32.ofNat n)), .val (.int (2 : Int32)), .val (.ref nv), .val (.ref o0), .val (.ref o1), .val (.ref o2), .val (.ref p0), .val (.ref p1), .val (.ref p2), .val (.ref oe), .val (.ref pe), .val (.ref la), .val (.ref a1), .unset, .unset, .unset, .unset, .unset, .unset, .unset, .unset] [(.int (1 : Int32))])
    refine own_pop (pc' := 191) X24 at_190 rfl rfl ?_
    refine own_iload (pc' := 193) X24 at_191 rfl rfl ?_
    refine own_iconst (pc' := 194) X24 at_193 rfl (z := (1 : Int32)) (by decide) ?_
    refine own_icmpN (pc' := 197) X24 at_194 rfl ((tlt (by decide)).2.2.2) ?_
    refine own_aload (pc' := 199) X24 at_197 rfl rfl rfl ?_
    refine own_aload (pc' := 201) X24 at_199 rfl rfl rfl ?_
    have f25 := (((hb8.keep K1).keep K2).keep K24)
    have ne_a1_e24 : a1 ≠ e24 := own_ne E1.lt (Nat.le_trans K2.1 (Nat.le_refl _)) z24
    refine own_callFM (pc' := 206) (cells' := 12) (slots' := 44) (argsL := [(.ref p1)]) (rest := []) (W := 0) (y := (⟨"java/util/List", "add", "(Ljava/lang/Object;)Z"⟩ : MethodName)) (z := (⟨"java/util/ArrayList", "add", "(Ljava/lang/Object;)Z"⟩ : MethodName)) (a := a1) X24 (W 52 rfl) (W 53 rfl) (fun s' a' hZ' => mvT hZ' (W 54 rfl)) (W 55 rfl) (W 56 rfl) (W 57 rfl) (W 58 rfl) (W 59 rfl) (by decide) P24.1 (own_add1b1 l Z a0 hw n0 a1 p1 e24 k24 mc24 [(.ref p0), .null, .null, .null, .null, .null, .null, .null, .null, .null] h24 (own_old X24) n_a1 n_e24 ⟨P24.1, P24.2.1, P24.2.2.1, P24.2.2.2⟩ A24 rfl V24 ne_a1_e24 ⟨_, f25, (W 27 rfl)⟩) (W 60 rfl) (W 30 rfl) (by decide) (by decide) rfl (lenOf pd_22 rfl) rfl rfl at_201 rfl rfl rfl rfl (by decide) (by decide) ?_
    intro v26 T26 h26 X26 q26
    obtain ⟨rfl, K26, ⟨mc26, P26⟩, A26⟩ := q26
    have A26' : own_Arr Z h26 e24 k24 (.object "java/lang/Object") [(.ref p0), (.ref p1), .null, .null, .null, .null, .null, .null, .null, .null] := A26
    show G T26 (mkF m 206 #[.val (.int i0), .val (.int i1), .val (.int i2), .val (.int i3), .val (.int (Int32.ofNat n)), .val (.int (2 : Int32)), .val (.ref nv), .val (.ref o0), .val (.ref o1), .val (.ref o2), .val (.ref p0), .val (.ref p1), .val (.ref p2), .val (.ref oe), .val (.ref pe), .val (.ref la), .val (.ref a1), .unset, .unset, .unset, .unset, .unset, .unset, .unset, .unset] [(.int (1 : Int32))])
    refine own_pop (pc' := 207) X26 at_206 rfl rfl ?_
    refine own_iload (pc' := 209) X26 at_207 rfl rfl ?_
    refine own_iconst (pc' := 210) X26 at_209 rfl (z := (2 : Int32)) (by decide) ?_
    refine own_icmpY (pc' := 223) X26 at_210 ((flt (by decide)).2.2.2) (by decide) (by decide) ?_
    have f27 := ((((hb0.keep K1).keep K2).keep K24).keep K26)
    have f28 := ((((hb2.keep K1).keep K2).keep K24).keep K26)
    have f29 := ((((hb4.keep K1).keep K2).keep K24).keep K26)
    have f30 := ((f23.keep K24).keep K26)
    have f31 := (f25.keep K26)
    have f32 := ((((hb10.keep K1).keep K2).keep K24).keep K26)
    have ne_oe_a1 : oe ≠ a1 := own_ne hb12.lt (Nat.le_refl _) (Nat.le_of_eq (Eq.symm g1))
    have ne_oe_e24 : oe ≠ e24 := own_ne hb12.lt (Nat.le_trans K1.1 (Nat.le_trans K2.1 (Nat.le_refl _))) z24
    have f33 := ((((hb12.keep K1 nin0).keep K2 (ninS ne_oe_a1 nin0)).keep K24 (ninS ne_oe_a1 nin0)).keep K26 (ninS ne_oe_a1 (ninS ne_oe_e24 nin0)))
    have ne_pe_a1 : pe ≠ a1 := own_ne hb13.lt (Nat.le_refl _) (Nat.le_of_eq (Eq.symm g1))
    have ne_pe_e24 : pe ≠ e24 := own_ne hb13.lt (Nat.le_trans K1.1 (Nat.le_trans K2.1 (Nat.le_refl _))) z24
    have f34 := ((((hb13.keep K1 nin0).keep K2 (ninS ne_pe_a1 nin0)).keep K24 (ninS ne_pe_a1 nin0)).keep K26 (ninS ne_pe_a1 (ninS ne_pe_e24 nin0)))
    have f35 := (at_la.keep (((((Keep.refl h0 []).trans K1 all0).trans K2 (allS (Or.inr (Nat.le_trans (Nat.le_refl _) (Nat.le_of_eq (Eq.symm g1)))) all0)).trans K24 (allS (Or.inr (Nat.le_trans (Nat.le_refl _) (Nat.le_of_eq (Eq.symm g1)))) all0)).trans K26 (allS (Or.inr (Nat.le_trans (Nat.le_refl _) (Nat.le_of_eq (Eq.symm g1)))) (allS (Or.inr (Nat.le_trans (Nat.le_trans K1.1 (Nat.le_trans K2.1 (Nat.le_refl _))) z24)) all0))) all0)
    have f36 := (E24.keep K26)
    exact own_P3 hw i0 i1 i2 i3 em ea ey mr dd ma mu mw nv o0 o1 o2 p0 p1 p2 oe pe la a1 ko kp n 2 (own_mono X26 (by decide : 12 ≤ 12) (by decide : 44 ≤ 44)) hGe f27 n_o0 f28 n_o1 f29 n_o2 f30 n_p0 f31 n_p1 f32 n_p2 f33 f34 f35 ⟨e24, k24, P26.1, P26.2.1, P26.2.2.1, Or.inr ⟨A26', f36⟩⟩ le_n (by decide) EM EY MR DE MA MU MW p_Q0 CS
  · rw [e5]
    show G T2 (mkF m 176 #[.val (.int i0), .val (.int i1), .val (.int i2), .val (.int i3), .val (.int (Int32.ofNat n)), .val (.int (3 : Int32)), .val (.ref nv), .val (.ref o0), .val (.ref o1), .val (.ref o2), .val (.ref p0), .val (.ref p1), .val (.ref p2), .val (.ref oe), .val (.ref pe), .val (.ref la), .val (.ref a1), .unset, .unset, .unset, .unset, .unset, .unset, .unset, .unset] [])
    refine own_iload (pc' := 178) X2 at_176 rfl rfl ?_
    refine own_ifN (pc' := 181) X2 at_178 rfl ((tlt (by decide)).2.2.2) ?_
    refine own_aload (pc' := 183) X2 at_181 rfl rfl rfl ?_
    refine own_aload (pc' := 185) X2 at_183 rfl rfl rfl ?_
    have f37 := ((hb6.keep K1).keep K2)
    refine own_callFM (pc' := 190) (cells' := 12) (slots' := 44) (argsL := [(.ref p0)]) (rest := []) (W := 0) (y := (⟨"java/util/List", "add", "(Ljava/lang/Object;)Z"⟩ : MethodName)) (z := (⟨"java/util/ArrayList", "add", "(Ljava/lang/Object;)Z"⟩ : MethodName)) (a := a1) X2 (W 52 rfl) (W 53 rfl) (fun s' a' hZ' => mvT hZ' (W 54 rfl)) (W 55 rfl) (W 56 rfl) (W 57 rfl) (W 58 rfl) (W 59 rfl) (by decide) P2.1 (own_add1a l Z a0 hw n0 a1 p0 dd (0 : Int32) h2 (own_old X2) n_a1 ⟨P2.1, P2.2.1, P2.2.2.1, P2.2.2.2⟩ DE ⟨_, f37, (W 27 rfl)⟩) (W 60 rfl) (W 30 rfl) (by decide) (by decide) rfl (lenOf pd_22 rfl) rfl rfl at_185 rfl rfl rfl rfl (by decide) (by decide) ?_
    intro v38 T38 h38 X38 q38
    obtain ⟨rfl, e38, k38, K38, z38, ⟨mc38, P38⟩, A38, E38, V38⟩ := q38
    have n_e38 : n0 ≤ e38 := Nat.le_trans (own_n0 X2) z38
    show G T38 (mkF m 190 #[.val (.int i0), .val (.int i1), .val (.int i2), .val (.int i3), .val (.int (Int32.ofNat n)), .val (.int (3 : Int32)), .val (.ref nv), .val (.ref o0), .val (.ref o1), .val (.ref o2), .val (.ref p0), .val (.ref p1), .val (.ref p2), .val (.ref oe), .val (.ref pe), .val (.ref la), .val (.ref a1), .unset, .unset, .unset, .unset, .unset, .unset, .unset, .unset] [(.int (1 : Int32))])
    refine own_pop (pc' := 191) X38 at_190 rfl rfl ?_
    refine own_iload (pc' := 193) X38 at_191 rfl rfl ?_
    refine own_iconst (pc' := 194) X38 at_193 rfl (z := (1 : Int32)) (by decide) ?_
    refine own_icmpN (pc' := 197) X38 at_194 rfl ((tlt (by decide)).2.2.2) ?_
    refine own_aload (pc' := 199) X38 at_197 rfl rfl rfl ?_
    refine own_aload (pc' := 201) X38 at_199 rfl rfl rfl ?_
    have f39 := (((hb8.keep K1).keep K2).keep K38)
    have ne_a1_e38 : a1 ≠ e38 := own_ne E1.lt (Nat.le_trans K2.1 (Nat.le_refl _)) z38
    refine own_callFM (pc' := 206) (cells' := 12) (slots' := 44) (argsL := [(.ref p1)]) (rest := []) (W := 0) (y := (⟨"java/util/List", "add", "(Ljava/lang/Object;)Z"⟩ : MethodName)) (z := (⟨"java/util/ArrayList", "add", "(Ljava/lang/Object;)Z"⟩ : MethodName)) (a := a1) X38 (W 52 rfl) (W 53 rfl) (fun s' a' hZ' => mvT hZ' (W 54 rfl)) (W 55 rfl) (W 56 rfl) (W 57 rfl) (W 58 rfl) (W 59 rfl) (by decide) P38.1 (own_add1b1 l Z a0 hw n0 a1 p1 e38 k38 mc38 [(.ref p0), .null, .null, .null, .null, .null, .null, .null, .null, .null] h38 (own_old X38) n_a1 n_e38 ⟨P38.1, P38.2.1, P38.2.2.1, P38.2.2.2⟩ A38 rfl V38 ne_a1_e38 ⟨_, f39, (W 27 rfl)⟩) (W 60 rfl) (W 30 rfl) (by decide) (by decide) rfl (lenOf pd_22 rfl) rfl rfl at_201 rfl rfl rfl rfl (by decide) (by decide) ?_
    intro v40 T40 h40 X40 q40
    obtain ⟨rfl, K40, ⟨mc40, P40⟩, A40⟩ := q40
    have A40' : own_Arr Z h40 e38 k38 (.object "java/lang/Object") [(.ref p0), (.ref p1), .null, .null, .null, .null, .null, .null, .null, .null] := A40
    show G T40 (mkF m 206 #[.val (.int i0), .val (.int i1), .val (.int i2), .val (.int i3), .val (.int (Int32.ofNat n)), .val (.int (3 : Int32)), .val (.ref nv), .val (.ref o0), .val (.ref o1), .val (.ref o2), .val (.ref p0), .val (.ref p1), .val (.ref p2), .val (.ref oe), .val (.ref pe), .val (.ref la), .val (.ref a1), .unset, .unset, .unset, .unset, .unset, .unset, .unset, .unset] [(.int (1 : Int32))])
    refine own_pop (pc' := 207) X40 at_206 rfl rfl ?_
    refine own_iload (pc' := 209) X40 at_207 rfl rfl ?_
    refine own_iconst (pc' := 210) X40 at_209 rfl (z := (2 : Int32)) (by decide) ?_
    refine own_icmpN (pc' := 213) X40 at_210 rfl ((tlt (by decide)).2.2.2) ?_
    refine own_aload (pc' := 215) X40 at_213 rfl rfl rfl ?_
    refine own_aload (pc' := 217) X40 at_215 rfl rfl rfl ?_
    have f41 := ((((hb10.keep K1).keep K2).keep K38).keep K40)
    refine own_callFM (pc' := 222) (cells' := 12) (slots' := 44) (argsL := [(.ref p2)]) (rest := []) (W := 0) (y := (⟨"java/util/List", "add", "(Ljava/lang/Object;)Z"⟩ : MethodName)) (z := (⟨"java/util/ArrayList", "add", "(Ljava/lang/Object;)Z"⟩ : MethodName)) (a := a1) X40 (W 52 rfl) (W 53 rfl) (fun s' a' hZ' => mvT hZ' (W 54 rfl)) (W 55 rfl) (W 56 rfl) (W 57 rfl) (W 58 rfl) (W 59 rfl) (by decide) P40.1 (own_add1b2 l Z a0 hw n0 a1 p2 e38 k38 mc40 [(.ref p0), (.ref p1), .null, .null, .null, .null, .null, .null, .null, .null] h40 (own_old X40) n_a1 n_e38 ⟨P40.1, P40.2.1, P40.2.2.1, P40.2.2.2⟩ A40' rfl V38 ne_a1_e38 ⟨_, f41, (W 27 rfl)⟩) (W 60 rfl) (W 30 rfl) (by decide) (by decide) rfl (lenOf pd_22 rfl) rfl rfl at_217 rfl rfl rfl rfl (by decide) (by decide) ?_
    intro v42 T42 h42 X42 q42
    obtain ⟨rfl, K42, ⟨mc42, P42⟩, A42⟩ := q42
    have A42' : own_Arr Z h42 e38 k38 (.object "java/lang/Object") [(.ref p0), (.ref p1), (.ref p2), .null, .null, .null, .null, .null, .null, .null] := A42
    show G T42 (mkF m 222 #[.val (.int i0), .val (.int i1), .val (.int i2), .val (.int i3), .val (.int (Int32.ofNat n)), .val (.int (3 : Int32)), .val (.ref nv), .val (.ref o0), .val (.ref o1), .val (.ref o2), .val (.ref p0), .val (.ref p1), .val (.ref p2), .val (.ref oe), .val (.ref pe), .val (.ref la), .val (.ref a1), .unset, .unset, .unset, .unset, .unset, .unset, .unset, .unset] [(.int (1 : Int32))])
    refine own_pop (pc' := 223) X42 at_222 rfl rfl ?_
    have f43 := (((((hb0.keep K1).keep K2).keep K38).keep K40).keep K42)
    have f44 := (((((hb2.keep K1).keep K2).keep K38).keep K40).keep K42)
    have f45 := (((((hb4.keep K1).keep K2).keep K38).keep K40).keep K42)
    have f46 := (((f37.keep K38).keep K40).keep K42)
    have f47 := ((f39.keep K40).keep K42)
    have f48 := (f41.keep K42)
    have ne_oe_a1 : oe ≠ a1 := own_ne hb12.lt (Nat.le_refl _) (Nat.le_of_eq (Eq.symm g1))
    have ne_oe_e38 : oe ≠ e38 := own_ne hb12.lt (Nat.le_trans K1.1 (Nat.le_trans K2.1 (Nat.le_refl _))) z38
    have f49 := (((((hb12.keep K1 nin0).keep K2 (ninS ne_oe_a1 nin0)).keep K38 (ninS ne_oe_a1 nin0)).keep K40 (ninS ne_oe_a1 (ninS ne_oe_e38 nin0))).keep K42 (ninS ne_oe_a1 (ninS ne_oe_e38 nin0)))
    have ne_pe_a1 : pe ≠ a1 := own_ne hb13.lt (Nat.le_refl _) (Nat.le_of_eq (Eq.symm g1))
    have ne_pe_e38 : pe ≠ e38 := own_ne hb13.lt (Nat.le_trans K1.1 (Nat.le_trans K2.1 (Nat.le_refl _))) z38
    have f50 := (((((hb13.keep K1 nin0).keep K2 (ninS ne_pe_a1 nin0)).keep K38 (ninS ne_pe_a1 nin0)).keep K40 (ninS ne_pe_a1 (ninS ne_pe_e38 nin0))).keep K42 (ninS ne_pe_a1 (ninS ne_pe_e38 nin0)))
    have f51 := (at_la.keep ((((((Keep.refl h0 []).trans K1 all0).trans K2 (allS (Or.inr (Nat.le_trans (Nat.le_refl _) (Nat.le_of_eq (Eq.symm g1)))) all0)).trans K38 (allS (Or.inr (Nat.le_trans (Nat.le_refl _) (Nat.le_of_eq (Eq.symm g1)))) all0)).trans K40 (allS (Or.inr (Nat.le_trans (Nat.le_refl _) (Nat.le_of_eq (Eq.symm g1)))) (allS (Or.inr (Nat.le_trans (Nat.le_trans K1.1 (Nat.le_trans K2.1 (Nat.le_refl _))) z38)) all0))).trans K42 (allS (Or.inr (Nat.le_trans (Nat.le_refl _) (Nat.le_of_eq (Eq.symm g1)))) (allS (Or.inr (Nat.le_trans (Nat.le_trans K1.1 (Nat.le_trans K2.1 (Nat.le_refl _))) z38)) all0))) all0)
    have f52 := ((E38.keep K40).keep K42)
    exact own_P3 hw i0 i1 i2 i3 em ea ey mr dd ma mu mw nv o0 o1 o2 p0 p1 p2 oe pe la a1 ko kp n 3 (own_mono X42 (by decide : 12 ≤ 12) (by decide : 44 ≤ 44)) hGe f43 n_o0 f44 n_o1 f45 n_o2 f46 n_p0 f47 n_p1 f48 n_p2 f49 f50 f51 ⟨e38, k38, P42.1, P42.2.1, P42.2.2.1, Or.inr ⟨A42', f52⟩⟩ le_n (by decide) EM EY MR DE MA MU MW p_Q0 CS
set_option maxRecDepth 65536 in
set_option maxHeartbeats 40000000 in
theorem own_law (l : Launch) (Z : State) (a0 : Array Value) (hw : ∀ d ∈ tables_1, d.before a0 Z = true) (n0 : Nat) (i0 i1 i2 i3 : Int32) (em ea ey mr dd ma mu mw nv : Addr) (h0 : Heap) (O0 : Old Z n0 h0) (EM : own_EMP Z em ea) (EY : own_MTY Z ey) (MR : own_Mir Z "[Ljava/lang/Object;" mr) (DE : own_DEF Z dd) (MA : own_Mir Z "java/util/ArrayList" ma) (MU : own_Mir Z "java/util/Collections$UnmodifiableList" mu) (MW : own_Mir Z "java/util/Collections$UnmodifiableRandomAccessList" mw) (p_Q0 : Exa Z Z.heap ea "[Ljava/lang/Object;") (CS : own_CS Z) (NV : Sta Z Z.heap "com/example/topf/topf/core/NullValue" "INSTANCE" "Lcom/example/topf/topf/core/NullValue;" (.ref nv)) :
    own_Met l Z n0 x code maxLocals ret room_1 #[(.int i0), (.int i1), (.int i2), (.int i3)] h0 (fun v h => v = some (.int 1)) := by
  refine own_enter (own := "com/example/topf/topf/core/MapValueMergingPinLaw") (nm := "law") (plainFor_of_name pn_22) rfl rfl O0 ?_
  have W : ∀ (k : Nat) {d : Jvm.Cond}, tables_1[k]? = some d → d.before a0 Z = true := fun k d q => hw d (List.mem_of_getElem? q)
  intro G p e s m below meth c T0 hGe X0
  rw [ef_own_law m i0 i1 i2 i3]
  refine own_iload_n (pc' := 1) X0 at_0 rfl rfl ?_
  refine own_iconst (pc' := 2) X0 at_1 rfl (z := (3 : Int32)) (by decide) ?_
  refine own_iand (pc' := 3) X0 at_2 rfl (r := (i0 &&& (3 : Int32))) rfl ?_
  refine own_istore (pc' := 5) X0 at_3 rfl (Ls' := #[.val (.int i0), .val (.int i1), .val (.int i2), .val (.int i3), .val (.int (i0 &&& (3 : Int32))), .unset, .unset, .unset, .unset, .unset, .unset, .unset, .unset, .unset, .unset, .unset, .unset, .unset, .unset, .unset, .unset, .unset, .unset, .unset, .unset]) rfl ?_
  refine own_iload_n (pc' := 6) X0 at_5 rfl rfl ?_
  refine own_iconst (pc' := 7) X0 at_6 rfl (z := (3 : Int32)) (by decide) ?_
  refine own_iand (pc' := 8) X0 at_7 rfl (r := (i1 &&& (3 : Int32))) rfl ?_
  refine own_istore (pc' := 10) X0 at_8 rfl (Ls' := #[.val (.int i0), .val (.int i1), .val (.int i2), .val (.int i3), .val (.int (i0 &&& (3 : Int32))), .val (.int (i1 &&& (3 : Int32))), .unset, .unset, .unset, .unset, .unset, .unset, .unset, .unset, .unset, .unset, .unset, .unset, .unset, .unset, .unset, .unset, .unset, .unset, .unset]) rfl ?_
  refine own_getS (pc' := 13) X0 (W 0 rfl) Via.refl (own_sta X0 NV) at_10 rfl ?_
  intro T1 X1
  refine own_astore (pc' := 15) X1 at_13 rfl rfl (Ls' := #[.val (.int i0), .val (.int i1), .val (.int i2), .val (.int i3), .val (.int (i0 &&& (3 : Int32))), .val (.int (i1 &&& (3 : Int32))), .val (.ref nv), .unset, .unset, .unset, .unset, .unset, .unset, .unset, .unset, .unset, .unset, .unset, .unset, .unset, .unset, .unset, .unset, .unset, .unset]) rfl ?_
  refine own_aload (pc' := 17) X1 at_15 rfl rfl rfl ?_
  refine own_aload (pc' := 19) X1 at_17 rfl rfl rfl ?_
  refine own_callSM (pc' := 22) (cells' := 1) (slots' := 2) (argsL := [(.ref nv), (.ref nv)]) (rest := []) (W := 0) (y := (⟨"java/util/Map", "entry", "(Ljava/lang/Object;Ljava/lang/Object;)Ljava/util/Map$Entry;"⟩ : MethodName)) X1 (W 3 rfl) (W 4 rfl) (by decide) (own_ent l Z a0 hw n0 nv h0 (own_old X1)) (W 6 rfl) (W 5 rfl) (by decide) (by decide) rfl (lenOf pd_28 rfl) rfl rfl at_19 rfl rfl rfl rfl (by decide) (by decide) ?_
  intro v2 T2 h2 X2 q2
  obtain ⟨c2, rfl, K2, z2, E2⟩ := q2
  have n_c2 : n0 ≤ c2 := Nat.le_trans (own_n0 X1) z2
  show G T2 (mkF m 22 #[.val (.int i0), .val (.int i1), .val (.int i2), .val (.int i3), .val (.int (i0 &&& (3 : Int32))), .val (.int (i1 &&& (3 : Int32))), .val (.ref nv), .unset, .unset, .unset, .unset, .unset, .unset, .unset, .unset, .unset, .unset, .unset, .unset, .unset, .unset, .unset, .unset, .unset, .unset] [(.ref c2)])
  refine own_astore (pc' := 24) X2 at_22 rfl rfl (Ls' := #[.val (.int i0), .val (.int i1), .val (.int i2), .val (.int i3), .val (.int (i0 &&& (3 : Int32))), .val (.int (i1 &&& (3 : Int32))), .val (.ref nv), .val (.ref c2), .unset, .unset, .unset, .unset, .unset, .unset, .unset, .unset, .unset, .unset, .unset, .unset, .unset, .unset, .unset, .unset, .unset]) rfl ?_
  refine own_aload (pc' := 26) X2 at_24 rfl rfl rfl ?_
  refine own_aload (pc' := 28) X2 at_26 rfl rfl rfl ?_
  refine own_callSM (pc' := 31) (cells' := 2) (slots' := 4) (argsL := [(.ref nv), (.ref nv)]) (rest := []) (W := 0) (y := (⟨"java/util/Map", "entry", "(Ljava/lang/Object;Ljava/lang/Object;)Ljava/util/Map$Entry;"⟩ : MethodName)) X2 (W 3 rfl) (W 4 rfl) (by decide) (own_ent l Z a0 hw n0 nv h2 (own_old X2)) (W 6 rfl) (W 5 rfl) (by decide) (by decide) rfl (lenOf pd_28 rfl) rfl rfl at_28 rfl rfl rfl rfl (by decide) (by decide) ?_
  intro v3 T3 h3 X3 q3
  obtain ⟨c3, rfl, K3, z3, E3⟩ := q3
  have n_c3 : n0 ≤ c3 := Nat.le_trans (own_n0 X2) z3
  show G T3 (mkF m 31 #[.val (.int i0), .val (.int i1), .val (.int i2), .val (.int i3), .val (.int (i0 &&& (3 : Int32))), .val (.int (i1 &&& (3 : Int32))), .val (.ref nv), .val (.ref c2), .unset, .unset, .unset, .unset, .unset, .unset, .unset, .unset, .unset, .unset, .unset, .unset, .unset, .unset, .unset, .unset, .unset] [(.ref c3)])
  refine own_astore (pc' := 33) X3 at_31 rfl rfl (Ls' := #[.val (.int i0), .val (.int i1), .val (.int i2), .val (.int i3), .val (.int (i0 &&& (3 : Int32))), .val (.int (i1 &&& (3 : Int32))), .val (.ref nv), .val (.ref c2), .val (.ref c3), .unset, .unset, .unset, .unset, .unset, .unset, .unset, .unset, .unset, .unset, .unset, .unset, .unset, .unset, .unset, .unset]) rfl ?_
  refine own_aload (pc' := 35) X3 at_33 rfl rfl rfl ?_
  refine own_aload (pc' := 37) X3 at_35 rfl rfl rfl ?_
  refine own_callSM (pc' := 40) (cells' := 3) (slots' := 6) (argsL := [(.ref nv), (.ref nv)]) (rest := []) (W := 0) (y := (⟨"java/util/Map", "entry", "(Ljava/lang/Object;Ljava/lang/Object;)Ljava/util/Map$Entry;"⟩ : MethodName)) X3 (W 3 rfl) (W 4 rfl) (by decide) (own_ent l Z a0 hw n0 nv h3 (own_old X3)) (W 6 rfl) (W 5 rfl) (by decide) (by decide) rfl (lenOf pd_28 rfl) rfl rfl at_37 rfl rfl rfl rfl (by decide) (by decide) ?_
  intro v4 T4 h4 X4 q4
  obtain ⟨c4, rfl, K4, z4, E4⟩ := q4
  have n_c4 : n0 ≤ c4 := Nat.le_trans (own_n0 X3) z4
  show G T4 (mkF m 40 #[.val (.int i0), .val (.int i1), .val (.int i2), .val (.int i3), .val (.int (i0 &&& (3 : Int32))), .val (.int (i1 &&& (3 : Int32))), .val (.ref nv), .val (.ref c2), .val (.ref c3), .unset, .unset, .unset, .unset, .unset, .unset, .unset, .unset, .unset, .unset, .unset, .unset, .unset, .unset, .unset, .unset] [(.ref c4)])
  refine own_astore (pc' := 42) X4 at_40 rfl rfl (Ls' := #[.val (.int i0), .val (.int i1), .val (.int i2), .val (.int i3), .val (.int (i0 &&& (3 : Int32))), .val (.int (i1 &&& (3 : Int32))), .val (.ref nv), .val (.ref c2), .val (.ref c3), .val (.ref c4), .unset, .unset, .unset, .unset, .unset, .unset, .unset, .unset, .unset, .unset, .unset, .unset, .unset, .unset, .unset]) rfl ?_
  refine own_aload (pc' := 44) X4 at_42 rfl rfl rfl ?_
  refine own_aload (pc' := 46) X4 at_44 rfl rfl rfl ?_
  refine own_callSM (pc' := 49) (cells' := 4) (slots' := 8) (argsL := [(.ref nv), (.ref nv)]) (rest := []) (W := 0) (y := (⟨"java/util/Map", "entry", "(Ljava/lang/Object;Ljava/lang/Object;)Ljava/util/Map$Entry;"⟩ : MethodName)) X4 (W 3 rfl) (W 4 rfl) (by decide) (own_ent l Z a0 hw n0 nv h4 (own_old X4)) (W 6 rfl) (W 5 rfl) (by decide) (by decide) rfl (lenOf pd_28 rfl) rfl rfl at_46 rfl rfl rfl rfl (by decide) (by decide) ?_
  intro v5 T5 h5 X5 q5
  obtain ⟨c5, rfl, K5, z5, E5⟩ := q5
  have n_c5 : n0 ≤ c5 := Nat.le_trans (own_n0 X4) z5
  show G T5 (mkF m 49 #[.val (.int i0), .val (.int i1), .val (.int i2), .val (.int i3), .val (.int (i0 &&& (3 : Int32))), .val (.int (i1 &&& (3 : Int32))), .val (.ref nv), .val (.ref c2), .val (.ref c3), .val (.ref c4), .unset, .unset, .unset, .unset, .unset, .unset, .unset, .unset, .unset, .unset, .unset, .unset, .unset, .unset, .unset] [(.ref c5)])
  refine own_astore (pc' := 51) X5 at_49 rfl rfl (Ls' := #[.val (.int i0), .val (.int i1), .val (.int i2), .val (.int i3), .val (.int (i0 &&& (3 : Int32))), .val (.int (i1 &&& (3 : Int32))), .val (.ref nv), .val (.ref c2), .val (.ref c3), .val (.ref c4), .val (.ref c5), .unset, .unset, .unset, .unset, .unset, .unset, .unset, .unset, .unset, .unset, .unset, .unset, .unset, .unset]) rfl ?_
  refine own_aload (pc' := 53) X5 at_51 rfl rfl rfl ?_
  refine own_aload (pc' := 55) X5 at_53 rfl rfl rfl ?_
  refine own_callSM (pc' := 58) (cells' := 5) (slots' := 10) (argsL := [(.ref nv), (.ref nv)]) (rest := []) (W := 0) (y := (⟨"java/util/Map", "entry", "(Ljava/lang/Object;Ljava/lang/Object;)Ljava/util/Map$Entry;"⟩ : MethodName)) X5 (W 3 rfl) (W 4 rfl) (by decide) (own_ent l Z a0 hw n0 nv h5 (own_old X5)) (W 6 rfl) (W 5 rfl) (by decide) (by decide) rfl (lenOf pd_28 rfl) rfl rfl at_55 rfl rfl rfl rfl (by decide) (by decide) ?_
  intro v6 T6 h6 X6 q6
  obtain ⟨c6, rfl, K6, z6, E6⟩ := q6
  have n_c6 : n0 ≤ c6 := Nat.le_trans (own_n0 X5) z6
  show G T6 (mkF m 58 #[.val (.int i0), .val (.int i1), .val (.int i2), .val (.int i3), .val (.int (i0 &&& (3 : Int32))), .val (.int (i1 &&& (3 : Int32))), .val (.ref nv), .val (.ref c2), .val (.ref c3), .val (.ref c4), .val (.ref c5), .unset, .unset, .unset, .unset, .unset, .unset, .unset, .unset, .unset, .unset, .unset, .unset, .unset, .unset] [(.ref c6)])
  refine own_astore (pc' := 60) X6 at_58 rfl rfl (Ls' := #[.val (.int i0), .val (.int i1), .val (.int i2), .val (.int i3), .val (.int (i0 &&& (3 : Int32))), .val (.int (i1 &&& (3 : Int32))), .val (.ref nv), .val (.ref c2), .val (.ref c3), .val (.ref c4), .val (.ref c5), .val (.ref c6), .unset, .unset, .unset, .unset, .unset, .unset, .unset, .unset, .unset, .unset, .unset, .unset, .unset]) rfl ?_
  refine own_aload (pc' := 62) X6 at_60 rfl rfl rfl ?_
  refine own_aload (pc' := 64) X6 at_62 rfl rfl rfl ?_
  refine own_callSM (pc' := 67) (cells' := 6) (slots' := 12) (argsL := [(.ref nv), (.ref nv)]) (rest := []) (W := 0) (y := (⟨"java/util/Map", "entry", "(Ljava/lang/Object;Ljava/lang/Object;)Ljava/util/Map$Entry;"⟩ : MethodName)) X6 (W 3 rfl) (W 4 rfl) (by decide) (own_ent l Z a0 hw n0 nv h6 (own_old X6)) (W 6 rfl) (W 5 rfl) (by decide) (by decide) rfl (lenOf pd_28 rfl) rfl rfl at_64 rfl rfl rfl rfl (by decide) (by decide) ?_
  intro v7 T7 h7 X7 q7
  obtain ⟨c7, rfl, K7, z7, E7⟩ := q7
  have n_c7 : n0 ≤ c7 := Nat.le_trans (own_n0 X6) z7
  show G T7 (mkF m 67 #[.val (.int i0), .val (.int i1), .val (.int i2), .val (.int i3), .val (.int (i0 &&& (3 : Int32))), .val (.int (i1 &&& (3 : Int32))), .val (.ref nv), .val (.ref c2), .val (.ref c3), .val (.ref c4), .val (.ref c5), .val (.ref c6), .unset, .unset, .unset, .unset, .unset, .unset, .unset, .unset, .unset, .unset, .unset, .unset, .unset] [(.ref c7)])
  refine own_astore (pc' := 69) X7 at_67 rfl rfl (Ls' := #[.val (.int i0), .val (.int i1), .val (.int i2), .val (.int i3), .val (.int (i0 &&& (3 : Int32))), .val (.int (i1 &&& (3 : Int32))), .val (.ref nv), .val (.ref c2), .val (.ref c3), .val (.ref c4), .val (.ref c5), .val (.ref c6), .val (.ref c7), .unset, .unset, .unset, .unset, .unset, .unset, .unset, .unset, .unset, .unset, .unset, .unset]) rfl ?_
  refine own_iconst (pc' := 70) X7 at_69 rfl (z := (3 : Int32)) (by decide) ?_
  refine own_anewR (pc' := 73) (cells' := 7) (slots' := 15) (n := 3) (cap := 3) (ad := "[Ljava/lang/Object;") X7 (W 25 rfl) (W 26 rfl) (by decide) (by decide) (by decide) at_70 rfl rfl (by decide) (by decide) rfl (by decide) (by decide) ?_
  intro T8 h8 a8 k8 g8 X8 K8 A8 E8 V8
  have n_a8 : n0 ≤ a8 := by rw [g8]; exact own_n0 X7
  have A8' : own_Arr Z h8 a8 k8 (.object "java/lang/Object") [.null, .null, .null] := A8
  refine own_dup (pc' := 74) X8 at_73 rfl rfl ?_
  refine own_iconst (pc' := 75) X8 at_74 rfl (z := (0 : Int32)) (by decide) ?_
  refine own_aload (pc' := 77) X8 at_75 rfl rfl rfl ?_
  have f9 := ((((((E2.keep K3).keep K4).keep K5).keep K6).keep K7).keep K8)
  refine own_aastore (pc' := 78) (i := 0) X8 A8' rfl rfl (own_stoR A8' V8 (Ins.of_exa f9 (W 27 rfl))) (by decide) (Nat.le_of_ble_eq_true rfl) n_a8 at_77 rfl ?_
  intro T10 h10 X10 K10 A10
  have A10' : own_Arr Z h10 a8 k8 (.object "java/lang/Object") [(.ref c2), .null, .null] := A10
  refine own_dup (pc' := 79) X10 at_78 rfl rfl ?_
  refine own_iconst (pc' := 80) X10 at_79 rfl (z := (1 : Int32)) (by decide) ?_
  refine own_aload (pc' := 82) X10 at_80 rfl rfl rfl ?_
  have f11 := ((((((E3.keep K4).keep K5).keep K6).keep K7).keep K8).keep K10)
  refine own_aastore (pc' := 83) (i := 1) X10 A10' rfl rfl (own_stoR A10' V8 (Ins.of_exa f11 (W 27 rfl))) (by decide) (Nat.le_of_ble_eq_true rfl) n_a8 at_82 rfl ?_
  intro T12 h12 X12 K12 A12
  have A12' : own_Arr Z h12 a8 k8 (.object "java/lang/Object") [(.ref c2), (.ref c3), .null] := A12
  refine own_dup (pc' := 84) X12 at_83 rfl rfl ?_
  refine own_iconst (pc' := 85) X12 at_84 rfl (z := (2 : Int32)) (by decide) ?_
  refine own_aload (pc' := 87) X12 at_85 rfl rfl rfl ?_
  have f13 := ((((((E4.keep K5).keep K6).keep K7).keep K8).keep K10).keep K12)
  refine own_aastore (pc' := 88) (i := 2) X12 A12' rfl rfl (own_stoR A12' V8 (Ins.of_exa f13 (W 27 rfl))) (by decide) (Nat.le_of_ble_eq_true rfl) n_a8 at_87 rfl ?_
  intro T14 h14 X14 K14 A14
  have A14' : own_Arr Z h14 a8 k8 (.object "java/lang/Object") [(.ref c2), (.ref c3), (.ref c4)] := A14
  refine own_astore (pc' := 90) X14 at_88 rfl rfl (Ls' := #[.val (.int i0), .val (.int i1), .val (.int i2), .val (.int i3), .val (.int (i0 &&& (3 : Int32))), .val (.int (i1 &&& (3 : Int32))), .val (.ref nv), .val (.ref c2), .val (.ref c3), .val (.ref c4), .val (.ref c5), .val (.ref c6), .val (.ref c7), .val (.ref a8), .unset, .unset, .unset, .unset, .unset, .unset, .unset, .unset, .unset, .unset, .unset]) rfl ?_
  refine own_iconst (pc' := 91) X14 at_90 rfl (z := (3 : Int32)) (by decide) ?_
  refine own_anewR (pc' := 94) (cells' := 8) (slots' := 18) (n := 3) (cap := 3) (ad := "[Ljava/lang/Object;") X14 (W 25 rfl) (W 26 rfl) (by decide) (by decide) (by decide) at_91 rfl rfl (by decide) (by decide) rfl (by decide) (by decide) ?_
  intro T15 h15 a15 k15 g15 X15 K15 A15 E15 V15
  have n_a15 : n0 ≤ a15 := by rw [g15]; exact own_n0 X14
  have A15' : own_Arr Z h15 a15 k15 (.object "java/lang/Object") [.null, .null, .null] := A15
  refine own_dup (pc' := 95) X15 at_94 rfl rfl ?_
  refine own_iconst (pc' := 96) X15 at_95 rfl (z := (0 : Int32)) (by decide) ?_
  refine own_aload (pc' := 98) X15 at_96 rfl rfl rfl ?_
  have f16 := (((((((E5.keep K6).keep K7).keep K8).keep K10).keep K12).keep K14).keep K15)
  refine own_aastore (pc' := 99) (i := 0) X15 A15' rfl rfl (own_stoR A15' V15 (Ins.of_exa f16 (W 27 rfl))) (by decide) (Nat.le_of_ble_eq_true rfl) n_a15 at_98 rfl ?_
  intro T17 h17 X17 K17 A17
  have A17' : own_Arr Z h17 a15 k15 (.object "java/lang/Object") [(.ref c5), .null, .null] := A17
  refine own_dup (pc' := 100) X17 at_99 rfl rfl ?_
  refine own_iconst (pc' := 101) X17 at_100 rfl (z := (1 : Int32)) (by decide) ?_
  refine own_aload (pc' := 103) X17 at_101 rfl rfl rfl ?_
  have f18 := (((((((E6.keep K7).keep K8).keep K10).keep K12).keep K14).keep K15).keep K17)
  refine own_aastore (pc' := 104) (i := 1) X17 A17' rfl rfl (own_stoR A17' V15 (Ins.of_exa f18 (W 27 rfl))) (by decide) (Nat.le_of_ble_eq_true rfl) n_a15 at_103 rfl ?_
  intro T19 h19 X19 K19 A19
  have A19' : own_Arr Z h19 a15 k15 (.object "java/lang/Object") [(.ref c5), (.ref c6), .null] := A19
  refine own_dup (pc' := 105) X19 at_104 rfl rfl ?_
  refine own_iconst (pc' := 106) X19 at_105 rfl (z := (2 : Int32)) (by decide) ?_
  refine own_aload (pc' := 108) X19 at_106 rfl rfl rfl ?_
  have f20 := (((((((E7.keep K8).keep K10).keep K12).keep K14).keep K15).keep K17).keep K19)
  refine own_aastore (pc' := 109) (i := 2) X19 A19' rfl rfl (own_stoR A19' V15 (Ins.of_exa f20 (W 27 rfl))) (by decide) (Nat.le_of_ble_eq_true rfl) n_a15 at_108 rfl ?_
  intro T21 h21 X21 K21 A21
  have A21' : own_Arr Z h21 a15 k15 (.object "java/lang/Object") [(.ref c5), (.ref c6), (.ref c7)] := A21
  refine own_astore (pc' := 111) X21 at_109 rfl rfl (Ls' := #[.val (.int i0), .val (.int i1), .val (.int i2), .val (.int i3), .val (.int (i0 &&& (3 : Int32))), .val (.int (i1 &&& (3 : Int32))), .val (.ref nv), .val (.ref c2), .val (.ref c3), .val (.ref c4), .val (.ref c5), .val (.ref c6), .val (.ref c7), .val (.ref a8), .val (.ref a15), .unset, .unset, .unset, .unset, .unset, .unset, .unset, .unset, .unset, .unset]) rfl ?_
  refine own_new (pc' := 114) (cells' := 9) (slots' := 21) X21 (W 28 rfl) (W 29 rfl) (W 30 rfl) at_111 rfl rfl rfl (by decide) (by decide) ?_
  intro T22 h22 a22 g22 X22 K22 E22 D22 U22
  have n_a22 : n0 ≤ a22 := by rw [g22]; exact own_n0 X21
  have F22_modCount : Fld Z h22 a22 "java/util/AbstractList" "modCount" "I" (.int (0 : Int32)) := D22 (Or.inl (W 48 rfl)) (ty := .int) (by decide)
  have F22_elementData : Fld Z h22 a22 "java/util/ArrayList" "elementData" "[Ljava/lang/Object;" .null := D22 (Or.inl (W 51 rfl)) (ty := (.array (.object "java/lang/Object"))) (by decide)
  have F22_size : Fld Z h22 a22 "java/util/ArrayList" "size" "I" (.int (0 : Int32)) := D22 (Or.inl (W 64 rfl)) (ty := .int) (by decide)
  refine own_dup (pc' := 115) X22 at_114 rfl rfl ?_
  refine own_callIM (pc' := 118) (cells' := 9) (slots' := 21) (argsL := []) (rest := [(.ref a22)]) (W := 1) (y := (⟨"java/util/ArrayList", "<init>", "()V"⟩ : MethodName)) (a := a22) X22 (W 31 rfl) (W 32 rfl) rfl (by decide) (own_ali l Z a0 hw n0 a22 dd h22 (own_old X22) n_a22 ⟨E22, F22_elementData, F22_size, F22_modCount⟩ DE) (W 33 rfl) (W 30 rfl) (by decide) (by decide) rfl (lenOf pd_0 rfl) rfl rfl at_115 rfl rfl rfl rfl (by decide) (by decide) ?_
  intro v23 T23 h23 X23 q23
  obtain ⟨rfl, K23, P23⟩ := q23
  show G T23 (mkF m 118 #[.val (.int i0), .val (.int i1), .val (.int i2), .val (.int i3), .val (.int (i0 &&& (3 : Int32))), .val (.int (i1 &&& (3 : Int32))), .val (.ref nv), .val (.ref c2), .val (.ref c3), .val (.ref c4), .val (.ref c5), .val (.ref c6), .val (.ref c7), .val (.ref a8), .val (.ref a15), .unset, .unset, .unset, .unset, .unset, .unset, .unset, .unset, .unset, .unset] [(.ref a22)])
  refine own_astore (pc' := 120) X23 at_118 rfl rfl (Ls' := #[.val (.int i0), .val (.int i1), .val (.int i2), .val (.int i3), .val (.int (i0 &&& (3 : Int32))), .val (.int (i1 &&& (3 : Int32))), .val (.ref nv), .val (.ref c2), .val (.ref c3), .val (.ref c4), .val (.ref c5), .val (.ref c6), .val (.ref c7), .val (.ref a8), .val (.ref a15), .val (.ref a22), .unset, .unset, .unset, .unset, .unset, .unset, .unset, .unset, .unset]) rfl ?_
  rcases own_4 i0 with e4 | e4 | e4 | e4
  · rw [e4]
    show G T23 (mkF m 120 #[.val (.int i0), .val (.int i1), .val (.int i2), .val (.int i3), .val (.int (0 : Int32)), .val (.int (i1 &&& (3 : Int32))), .val (.ref nv), .val (.ref c2), .val (.ref c3), .val (.ref c4), .val (.ref c5), .val (.ref c6), .val (.ref c7), .val (.ref a8), .val (.ref a15), .val (.ref a22), .unset, .unset, .unset, .unset, .unset, .unset, .unset, .unset, .unset] [])
    refine own_iload (pc' := 122) X23 at_120 rfl rfl ?_
    refine own_ifY (pc' := 135) X23 at_122 ((flt (by decide)).2.2.2) (by decide) (by decide) ?_
    refine own_iload (pc' := 137) X23 at_135 rfl rfl ?_
    refine own_iconst (pc' := 138) X23 at_137 rfl (z := (1 : Int32)) (by decide) ?_
    refine own_icmpY (pc' := 151) X23 at_138 ((flt (by decide)).2.2.2) (by decide) (by decide) ?_
    refine own_iload (pc' := 153) X23 at_151 rfl rfl ?_
    refine own_iconst (pc' := 154) X23 at_153 rfl (z := (2 : Int32)) (by decide) ?_
    refine own_icmpY (pc' := 167) X23 at_154 ((flt (by decide)).2.2.2) (by decide) (by decide) ?_
    have f24 := (((((((((f9.keep K10).keep K12).keep K14).keep K15).keep K17).keep K19).keep K21).keep K22).keep K23)
    have f25 := ((((((((f11.keep K12).keep K14).keep K15).keep K17).keep K19).keep K21).keep K22).keep K23)
    have f26 := (((((((f13.keep K14).keep K15).keep K17).keep K19).keep K21).keep K22).keep K23)
    have f27 := (((((f16.keep K17).keep K19).keep K21).keep K22).keep K23)
    have f28 := ((((f18.keep K19).keep K21).keep K22).keep K23)
    have f29 := (((f20.keep K21).keep K22).keep K23)
    have ne_a8_a15 : a8 ≠ a15 := own_ne A8'.lt (Nat.le_trans K10.1 (Nat.le_trans K12.1 (Nat.le_trans K14.1 (Nat.le_refl _)))) (Nat.le_of_eq (Eq.symm g15))
    have ne_a8_a22 : a8 ≠ a22 := own_ne A8'.lt (Nat.le_trans K10.1 (Nat.le_trans K12.1 (Nat.le_trans K14.1 (Nat.le_trans K15.1 (Nat.le_trans K17.1 (Nat.le_trans K19.1 (Nat.le_trans K21.1 (Nat.le_refl _)))))))) (Nat.le_of_eq (Eq.symm g22))
    have f30 := ((((((A14'.keep K15 nin0).keep K17 (ninS ne_a8_a15 nin0)).keep K19 (ninS ne_a8_a15 nin0)).keep K21 (ninS ne_a8_a15 nin0)).keep K22 nin0).keep K23 (ninS ne_a8_a22 nin0))
    have ne_a15_a22 : a15 ≠ a22 := own_ne A15'.lt (Nat.le_trans K17.1 (Nat.le_trans K19.1 (Nat.le_trans K21.1 (Nat.le_refl _)))) (Nat.le_of_eq (Eq.symm g22))
    have f31 := ((A21'.keep K22 nin0).keep K23 (ninS ne_a15_a22 nin0))
    exact own_P2 hw i0 i1 i2 i3 em ea ey mr dd ma mu mw nv c2 c3 c4 c5 c6 c7 a8 a15 a22 k8 k15 0 (own_mono X23 (by decide : 9 ≤ 10) (by decide : 21 ≤ 31)) hGe f24 n_c2 f25 n_c3 f26 n_c4 f27 n_c5 f28 n_c6 f29 n_c7 f30 f31 ⟨dd, default, P23.1, P23.2.1, P23.2.2.1, Or.inl rfl⟩ (by decide) EM EY MR DE MA MU MW p_Q0 CS
  · rw [e4]
    show G T23 (mkF m 120 #[.val (.int i0), .val (.int i1), .val (.int i2), .val (.int i3), .val (.int (1 : Int32)), .val (.int (i1 &&& (3 : Int32))), .val (.ref nv), .val (.ref c2), .val (.ref c3), .val (.ref c4), .val (.ref c5), .val (.ref c6), .val (.ref c7), .val (.ref a8), .val (.ref a15), .val (.ref a22), .unset, .unset, .unset, .unset, .unset, .unset, .unset, .unset, .unset] [])
    refine own_iload (pc' := 122) X23 at_120 rfl rfl ?_
    refine own_ifN (pc' := 125) X23 at_122 rfl ((tlt (by decide)).2.2.2) ?_
    refine own_aload (pc' := 127) X23 at_125 rfl rfl rfl ?_
    refine own_aload (pc' := 129) X23 at_127 rfl rfl rfl ?_
    have f32 := (((((((((f9.keep K10).keep K12).keep K14).keep K15).keep K17).keep K19).keep K21).keep K22).keep K23)
    refine own_callFM (pc' := 134) (cells' := 10) (slots' := 31) (argsL := [(.ref c2)]) (rest := []) (W := 0) (y := (⟨"java/util/List", "add", "(Ljava/lang/Object;)Z"⟩ : MethodName)) (z := (⟨"java/util/ArrayList", "add", "(Ljava/lang/Object;)Z"⟩ : MethodName)) (a := a22) X23 (W 52 rfl) (W 53 rfl) (fun s' a' hZ' => mvT hZ' (W 54 rfl)) (W 55 rfl) (W 56 rfl) (W 57 rfl) (W 58 rfl) (W 59 rfl) (by decide) P23.1 (own_add1a l Z a0 hw n0 a22 c2 dd (0 : Int32) h23 (own_old X23) n_a22 ⟨P23.1, P23.2.1, P23.2.2.1, P23.2.2.2⟩ DE ⟨_, f32, (W 27 rfl)⟩) (W 60 rfl) (W 30 rfl) (by decide) (by decide) rfl (lenOf pd_22 rfl) rfl rfl at_129 rfl rfl rfl rfl (by decide) (by decide) ?_
    intro v33 T33 h33 X33 q33
    obtain ⟨rfl, e33, k33, K33, z33, ⟨mc33, P33⟩, A33, E33, V33⟩ := q33
    have n_e33 : n0 ≤ e33 := Nat.le_trans (own_n0 X23) z33
    show G T33 (mkF m 134 #[.val (.int i0), .val (.int i1), .val (.int i2), .val (.int i3), .val (.int (1 : Int32)), .val (.int (i1 &&& (3 : Int32))), .val (.ref nv), .val (.ref c2), .val (.ref c3), .val (.ref c4), .val (.ref c5), .val (.ref c6), .val (.ref c7), .val (.ref a8), .val (.ref a15), .val (.ref a22), .unset, .unset, .unset, .unset, .unset, .unset, .unset, .unset, .unset] [(.int (1 : Int32))])
    refine own_pop (pc' := 135) X33 at_134 rfl rfl ?_
    refine own_iload (pc' := 137) X33 at_135 rfl rfl ?_
    refine own_iconst (pc' := 138) X33 at_137 rfl (z := (1 : Int32)) (by decide) ?_
    refine own_icmpY (pc' := 151) X33 at_138 ((flt (by decide)).2.2.2) (by decide) (by decide) ?_
    refine own_iload (pc' := 153) X33 at_151 rfl rfl ?_
    refine own_iconst (pc' := 154) X33 at_153 rfl (z := (2 : Int32)) (by decide) ?_
    refine own_icmpY (pc' := 167) X33 at_154 ((flt (by decide)).2.2.2) (by decide) (by decide) ?_
    have f34 := (f32.keep K33)
    have f35 := (((((((((f11.keep K12).keep K14).keep K15).keep K17).keep K19).keep K21).keep K22).keep K23).keep K33)
    have f36 := ((((((((f13.keep K14).keep K15).keep K17).keep K19).keep K21).keep K22).keep K23).keep K33)
    have f37 := ((((((f16.keep K17).keep K19).keep K21).keep K22).keep K23).keep K33)
    have f38 := (((((f18.keep K19).keep K21).keep K22).keep K23).keep K33)
    have f39 := ((((f20.keep K21).keep K22).keep K23).keep K33)
    have ne_a8_a15 : a8 ≠ a15 := own_ne A8'.lt (Nat.le_trans K10.1 (Nat.le_trans K12.1 (Nat.le_trans K14.1 (Nat.le_refl _)))) (Nat.le_of_eq (Eq.symm g15))
    have ne_a8_a22 : a8 ≠ a22 := own_ne A8'.lt (Nat.le_trans K10.1 (Nat.le_trans K12.1 (Nat.le_trans K14.1 (Nat.le_trans K15.1 (Nat.le_trans K17.1 (Nat.le_trans K19.1 (Nat.le_trans K21.1 (Nat.le_refl _)))))))) (Nat.le_of_eq (Eq.symm g22))
    have f40 := (((((((A14'.keep K15 nin0).keep K17 (ninS ne_a8_a15 nin0)).keep K19 (ninS ne_a8_a15 nin0)).keep K21 (ninS ne_a8_a15 nin0)).keep K22 nin0).keep K23 (ninS ne_a8_a22 nin0)).keep K33 (ninS ne_a8_a22 nin0))
    have ne_a15_a22 : a15 ≠ a22 := own_ne A15'.lt (Nat.le_trans K17.1 (Nat.le_trans K19.1 (Nat.le_trans K21.1 (Nat.le_refl _)))) (Nat.le_of_eq (Eq.symm g22))
    have f41 := (((A21'.keep K22 nin0).keep K23 (ninS ne_a15_a22 nin0)).keep K33 (ninS ne_a15_a22 nin0))
    exact own_P2 hw i0 i1 i2 i3 em ea ey mr dd ma mu mw nv c2 c3 c4 c5 c6 c7 a8 a15 a22 k8 k15 1 (own_mono X33 (by decide : 10 ≤ 10) (by decide : 31 ≤ 31)) hGe f34 n_c2 f35 n_c3 f36 n_c4 f37 n_c5 f38 n_c6 f39 n_c7 f40 f41 ⟨e33, k33, P33.1, P33.2.1, P33.2.2.1, Or.inr ⟨A33, E33⟩⟩ (by decide) EM EY MR DE MA MU MW p_Q0 CS
  · rw [e4]
    show G T23 (mkF m 120 #[.val (.int i0), .val (.int i1), .val (.int i2), .val (.int i3), .val (.int (2 : Int32)), .val (.int (i1 &&& (3 : Int32))), .val (.ref nv), .val (.ref c2), .val (.ref c3), .val (.ref c4), .val (.ref c5), .val (.ref c6), .val (.ref c7), .val (.ref a8), .val (.ref a15), .val (.ref a22), .unset, .unset, .unset, .unset, .unset, .unset, .unset, .unset, .unset] [])
    refine own_iload (pc' := 122) X23 at_120 rfl rfl ?_
    refine own_ifN (pc' := 125) X23 at_122 rfl ((tlt (by decide)).2.2.2) ?_
    refine own_aload (pc' := 127) X23 at_125 rfl rfl rfl ?_
    refine own_aload (pc' := 129) X23 at_127 rfl rfl rfl ?_
    have f42 := (((((((((f9.keep K10).keep K12).keep K14).keep K15).keep K17).keep K19).keep K21).keep K22).keep K23)
    refine own_callFM (pc' := 134) (cells' := 10) (slots' := 31) (argsL := [(.ref c2)]) (rest := []) (W := 0) (y := (⟨"java/util/List", "add", "(Ljava/lang/Object;)Z"⟩ : MethodName)) (z := (⟨"java/util/ArrayList", "add", "(Ljava/lang/Object;)Z"⟩ : MethodName)) (a := a22) X23 (W 52 rfl) (W 53 rfl) (fun s' a' hZ' => mvT hZ' (W 54 rfl)) (W 55 rfl) (W 56 rfl) (W 57 rfl) (W 58 rfl) (W 59 rfl) (by decide) P23.1 (own_add1a l Z a0 hw n0 a22 c2 dd (0 : Int32) h23 (own_old X23) n_a22 ⟨P23.1, P23.2.1, P23.2.2.1, P23.2.2.2⟩ DE ⟨_, f42, (W 27 rfl)⟩) (W 60 rfl) (W 30 rfl) (by decide) (by decide) rfl (lenOf pd_22 rfl) rfl rfl at_129 rfl rfl rfl rfl (by decide) (by decide) ?_
    intro v43 T43 h43 X43 q43
    obtain ⟨rfl, e43, k43, K43, z43, ⟨mc43, P43⟩, A43, E43, V43⟩ := q43
    have n_e43 : n0 ≤ e43 := Nat.le_trans (own_n0 X23) z43
    show G T43 (mkF m 134 #[.val (.int i0), .val (.int i1), .val (.int i2), .val (.int i3), .val (.int (2 : Int32)), .val (.int (i1 &&& (3 : Int32))), .val (.ref nv), .val (.ref c2), .val (.ref c3), .val (.ref c4), .val (.ref c5), .val (.ref c6), .val (.ref c7), .val (.ref a8), .val (.ref a15), .val (.ref a22), .unset, .unset, .unset, .unset, .unset, .unset, .unset, .unset, .unset] [(.int (1 : Int32))])
    refine own_pop (pc' := 135) X43 at_134 rfl rfl ?_
    refine own_iload (pc' := 137) X43 at_135 rfl rfl ?_
    refine own_iconst (pc' := 138) X43 at_137 rfl (z := (1 : Int32)) (by decide) ?_
    refine own_icmpN (pc' := 141) X43 at_138 rfl ((tlt (by decide)).2.2.2) ?_
    refine own_aload (pc' := 143) X43 at_141 rfl rfl rfl ?_
    refine own_aload (pc' := 145) X43 at_143 rfl rfl rfl ?_
    have f44 := (((((((((f11.keep K12).keep K14).keep K15).keep K17).keep K19).keep K21).keep K22).keep K23).keep K43)
    have ne_a22_e43 : a22 ≠ e43 := own_ne E22.lt (Nat.le_trans K23.1 (Nat.le_refl _)) z43
    refine own_callFM (pc' := 150) (cells' := 10) (slots' := 31) (argsL := [(.ref c3)]) (rest := []) (W := 0) (y := (⟨"java/util/List", "add", "(Ljava/lang/Object;)Z"⟩ : MethodName)) (z := (⟨"java/util/ArrayList", "add", "(Ljava/lang/Object;)Z"⟩ : MethodName)) (a := a22) X43 (W 52 rfl) (W 53 rfl) (fun s' a' hZ' => mvT hZ' (W 54 rfl)) (W 55 rfl) (W 56 rfl) (W 57 rfl) (W 58 rfl) (W 59 rfl) (by decide) P43.1 (own_add1b1 l Z a0 hw n0 a22 c3 e43 k43 mc43 [(.ref c2), .null, .null, .null, .null, .null, .null, .null, .null, .null] h43 (own_old X43) n_a22 n_e43 ⟨P43.1, P43.2.1, P43.2.2.1, P43.2.2.2⟩ A43 rfl V43 ne_a22_e43 ⟨_, f44, (W 27 rfl)⟩) (W 60 rfl) (W 30 rfl) (by decide) (by decide) rfl (lenOf pd_22 rfl) rfl rfl at_145 rfl rfl rfl rfl (by decide) (by decide) ?_
    intro v45 T45 h45 X45 q45
    obtain ⟨rfl, K45, ⟨mc45, P45⟩, A45⟩ := q45
    have A45' : own_Arr Z h45 e43 k43 (.object "java/lang/Object") [(.ref c2), (.ref c3), .null, .null, .null, .null, .null, .null, .null, .null] := A45
    show G T45 (mkF m 150 #[.val (.int i0), .val (.int i1), .val (.int i2), .val (.int i3), .val (.int (2 : Int32)), .val (.int (i1 &&& (3 : Int32))), .val (.ref nv), .val (.ref c2), .val (.ref c3), .val (.ref c4), .val (.ref c5), .val (.ref c6), .val (.ref c7), .val (.ref a8), .val (.ref a15), .val (.ref a22), .unset, .unset, .unset, .unset, .unset, .unset, .unset, .unset, .unset] [(.int (1 : Int32))])
    refine own_pop (pc' := 151) X45 at_150 rfl rfl ?_
    refine own_iload (pc' := 153) X45 at_151 rfl rfl ?_
    refine own_iconst (pc' := 154) X45 at_153 rfl (z := (2 : Int32)) (by decide) ?_
    refine own_icmpY (pc' := 167) X45 at_154 ((flt (by decide)).2.2.2) (by decide) (by decide) ?_
    have f46 := ((f42.keep K43).keep K45)
    have f47 := (f44.keep K45)
    have f48 := (((((((((f13.keep K14).keep K15).keep K17).keep K19).keep K21).keep K22).keep K23).keep K43).keep K45)
    have f49 := (((((((f16.keep K17).keep K19).keep K21).keep K22).keep K23).keep K43).keep K45)
    have f50 := ((((((f18.keep K19).keep K21).keep K22).keep K23).keep K43).keep K45)
    have f51 := (((((f20.keep K21).keep K22).keep K23).keep K43).keep K45)
    have ne_a8_a15 : a8 ≠ a15 := own_ne A8'.lt (Nat.le_trans K10.1 (Nat.le_trans K12.1 (Nat.le_trans K14.1 (Nat.le_refl _)))) (Nat.le_of_eq (Eq.symm g15))
    have ne_a8_a22 : a8 ≠ a22 := own_ne A8'.lt (Nat.le_trans K10.1 (Nat.le_trans K12.1 (Nat.le_trans K14.1 (Nat.le_trans K15.1 (Nat.le_trans K17.1 (Nat.le_trans K19.1 (Nat.le_trans K21.1 (Nat.le_refl _)))))))) (Nat.le_of_eq (Eq.symm g22))
    have ne_a8_e43 : a8 ≠ e43 := own_ne A8'.lt (Nat.le_trans K10.1 (Nat.le_trans K12.1 (Nat.le_trans K14.1 (Nat.le_trans K15.1 (Nat.le_trans K17.1 (Nat.le_trans K19.1 (Nat.le_trans K21.1 (Nat.le_trans K22.1 (Nat.le_trans K23.1 (Nat.le_refl _)))))))))) z43
    have f52 := ((((((((A14'.keep K15 nin0).keep K17 (ninS ne_a8_a15 nin0)).keep K19 (ninS ne_a8_a15 nin0)).keep K21 (ninS ne_a8_a15 nin0)).keep K22 nin0).keep K23 (ninS ne_a8_a22 nin0)).keep K43 (ninS ne_a8_a22 nin0)).keep K45 (ninS ne_a8_a22 (ninS ne_a8_e43 nin0)))
    have ne_a15_a22 : a15 ≠ a22 := own_ne A15'.lt (Nat.le_trans K17.1 (Nat.le_trans K19.1 (Nat.le_trans K21.1 (Nat.le_refl _)))) (Nat.le_of_eq (Eq.symm g22))
    have ne_a15_e43 : a15 ≠ e43 := own_ne A15'.lt (Nat.le_trans K17.1 (Nat.le_trans K19.1 (Nat.le_trans K21.1 (Nat.le_trans K22.1 (Nat.le_trans K23.1 (Nat.le_refl _)))))) z43
    have f53 := ((((A21'.keep K22 nin0).keep K23 (ninS ne_a15_a22 nin0)).keep K43 (ninS ne_a15_a22 nin0)).keep K45 (ninS ne_a15_a22 (ninS ne_a15_e43 nin0)))
    have f54 := (E43.keep K45)
    exact own_P2 hw i0 i1 i2 i3 em ea ey mr dd ma mu mw nv c2 c3 c4 c5 c6 c7 a8 a15 a22 k8 k15 2 (own_mono X45 (by decide : 10 ≤ 10) (by decide : 31 ≤ 31)) hGe f46 n_c2 f47 n_c3 f48 n_c4 f49 n_c5 f50 n_c6 f51 n_c7 f52 f53 ⟨e43, k43, P45.1, P45.2.1, P45.2.2.1, Or.inr ⟨A45', f54⟩⟩ (by decide) EM EY MR DE MA MU MW p_Q0 CS
  · rw [e4]
    show G T23 (mkF m 120 #[.val (.int i0), .val (.int i1), .val (.int i2), .val (.int i3), .val (.int (3 : Int32)), .val (.int (i1 &&& (3 : Int32))), .val (.ref nv), .val (.ref c2), .val (.ref c3), .val (.ref c4), .val (.ref c5), .val (.ref c6), .val (.ref c7), .val (.ref a8), .val (.ref a15), .val (.ref a22), .unset, .unset, .unset, .unset, .unset, .unset, .unset, .unset, .unset] [])
    refine own_iload (pc' := 122) X23 at_120 rfl rfl ?_
    refine own_ifN (pc' := 125) X23 at_122 rfl ((tlt (by decide)).2.2.2) ?_
    refine own_aload (pc' := 127) X23 at_125 rfl rfl rfl ?_
    refine own_aload (pc' := 129) X23 at_127 rfl rfl rfl ?_
    have f55 := (((((((((f9.keep K10).keep K12).keep K14).keep K15).keep K17).keep K19).keep K21).keep K22).keep K23)
    refine own_callFM (pc' := 134) (cells' := 10) (slots' := 31) (argsL := [(.ref c2)]) (rest := []) (W := 0) (y := (⟨"java/util/List", "add", "(Ljava/lang/Object;)Z"⟩ : MethodName)) (z := (⟨"java/util/ArrayList", "add", "(Ljava/lang/Object;)Z"⟩ : MethodName)) (a := a22) X23 (W 52 rfl) (W 53 rfl) (fun s' a' hZ' => mvT hZ' (W 54 rfl)) (W 55 rfl) (W 56 rfl) (W 57 rfl) (W 58 rfl) (W 59 rfl) (by decide) P23.1 (own_add1a l Z a0 hw n0 a22 c2 dd (0 : Int32) h23 (own_old X23) n_a22 ⟨P23.1, P23.2.1, P23.2.2.1, P23.2.2.2⟩ DE ⟨_, f55, (W 27 rfl)⟩) (W 60 rfl) (W 30 rfl) (by decide) (by decide) rfl (lenOf pd_22 rfl) rfl rfl at_129 rfl rfl rfl rfl (by decide) (by decide) ?_
    intro v56 T56 h56 X56 q56
    obtain ⟨rfl, e56, k56, K56, z56, ⟨mc56, P56⟩, A56, E56, V56⟩ := q56
    have n_e56 : n0 ≤ e56 := Nat.le_trans (own_n0 X23) z56
    show G T56 (mkF m 134 #[.val (.int i0), .val (.int i1), .val (.int i2), .val (.int i3), .val (.int (3 : Int32)), .val (.int (i1 &&& (3 : Int32))), .val (.ref nv), .val (.ref c2), .val (.ref c3), .val (.ref c4), .val (.ref c5), .val (.ref c6), .val (.ref c7), .val (.ref a8), .val (.ref a15), .val (.ref a22), .unset, .unset, .unset, .unset, .unset, .unset, .unset, .unset, .unset] [(.int (1 : Int32))])
    refine own_pop (pc' := 135) X56 at_134 rfl rfl ?_
    refine own_iload (pc' := 137) X56 at_135 rfl rfl ?_
    refine own_iconst (pc' := 138) X56 at_137 rfl (z := (1 : Int32)) (by decide) ?_
    refine own_icmpN (pc' := 141) X56 at_138 rfl ((tlt (by decide)).2.2.2) ?_
    refine own_aload (pc' := 143) X56 at_141 rfl rfl rfl ?_
    refine own_aload (pc' := 145) X56 at_143 rfl rfl rfl ?_
    have f57 := (((((((((f11.keep K12).keep K14).keep K15).keep K17).keep K19).keep K21).keep K22).keep K23).keep K56)
    have ne_a22_e56 : a22 ≠ e56 := own_ne E22.lt (Nat.le_trans K23.1 (Nat.le_refl _)) z56
    refine own_callFM (pc' := 150) (cells' := 10) (slots' := 31) (argsL := [(.ref c3)]) (rest := []) (W := 0) (y := (⟨"java/util/List", "add", "(Ljava/lang/Object;)Z"⟩ : MethodName)) (z := (⟨"java/util/ArrayList", "add", "(Ljava/lang/Object;)Z"⟩ : MethodName)) (a := a22) X56 (W 52 rfl) (W 53 rfl) (fun s' a' hZ' => mvT hZ' (W 54 rfl)) (W 55 rfl) (W 56 rfl) (W 57 rfl) (W 58 rfl) (W 59 rfl) (by decide) P56.1 (own_add1b1 l Z a0 hw n0 a22 c3 e56 k56 mc56 [(.ref c2), .null, .null, .null, .null, .null, .null, .null, .null, .null] h56 (own_old X56) n_a22 n_e56 ⟨P56.1, P56.2.1, P56.2.2.1, P56.2.2.2⟩ A56 rfl V56 ne_a22_e56 ⟨_, f57, (W 27 rfl)⟩) (W 60 rfl) (W 30 rfl) (by decide) (by decide) rfl (lenOf pd_22 rfl) rfl rfl at_145 rfl rfl rfl rfl (by decide) (by decide) ?_
    intro v58 T58 h58 X58 q58
    obtain ⟨rfl, K58, ⟨mc58, P58⟩, A58⟩ := q58
    have A58' : own_Arr Z h58 e56 k56 (.object "java/lang/Object") [(.ref c2), (.ref c3), .null, .null, .null, .null, .null, .null, .null, .null] := A58
    show G T58 (mkF m 150 #[.val (.int i0), .val (.int i1), .val (.int i2), .val (.int i3), .val (.int (3 : Int32)), .val (.int (i1 &&& (3 : Int32))), .val (.ref nv), .val (.ref c2), .val (.ref c3), .val (.ref c4), .val (.ref c5), .val (.ref c6), .val (.ref c7), .val (.ref a8), .val (.ref a15), .val (.ref a22), .unset, .unset, .unset, .unset, .unset, .unset, .unset, .unset, .unset] [(.int (1 : Int32))])
    refine own_pop (pc' := 151) X58 at_150 rfl rfl ?_
    refine own_iload (pc' := 153) X58 at_151 rfl rfl ?_
    refine own_iconst (pc' := 154) X58 at_153 rfl (z := (2 : Int32)) (by decide) ?_
    refine own_icmpN (pc' := 157) X58 at_154 rfl ((tlt (by decide)).2.2.2) ?_
    refine own_aload (pc' := 159) X58 at_157 rfl rfl rfl ?_
    refine own_aload (pc' := 161) X58 at_159 rfl rfl rfl ?_
    have f59 := (((((((((f13.keep K14).keep K15).keep K17).keep K19).keep K21).keep K22).keep K23).keep K56).keep K58)
    refine own_callFM (pc' := 166) (cells' := 10) (slots' := 31) (argsL := [(.ref c4)]) (rest := []) (W := 0) (y := (⟨"java/util/List", "add", "(Ljava/lang/Object;)Z"⟩ : MethodName)) (z := (⟨"java/util/ArrayList", "add", "(Ljava/lang/Object;)Z"⟩ : MethodName)) (a := a22) X58 (W 52 rfl) (W 53 rfl) (fun s' a' hZ' => mvT hZ' (W 54 rfl)) (W 55 rfl) (W 56 rfl) (W 57 rfl) (W 58 rfl) (W 59 rfl) (by decide) P58.1 (own_add1b2 l Z a0 hw n0 a22 c4 e56 k56 mc58 [(.ref c2), (.ref c3), .null, .null, .null, .null, .null, .null, .null, .null] h58 (own_old X58) n_a22 n_e56 ⟨P58.1, P58.2.1, P58.2.2.1, P58.2.2.2⟩ A58' rfl V56 ne_a22_e56 ⟨_, f59, (W 27 rfl)⟩) (W 60 rfl) (W 30 rfl) (by decide) (by decide) rfl (lenOf pd_22 rfl) rfl rfl at_161 rfl rfl rfl rfl (by decide) (by decide) ?_
    intro v60 T60 h60 X60 q60
    obtain ⟨rfl, K60, ⟨mc60, P60⟩, A60⟩ := q60
    have A60' : own_Arr Z h60 e56 k56 (.object "java/lang/Object") [(.ref c2), (.ref c3), (.ref c4), .null, .null, .null, .null, .null, .null, .null] := A60
    show G T60 (mkF m 166 #[.val (.int i0), .val (.int i1), .val (.int i2), .val (.int i3), .val (.int (3 : Int32)), .val (.int (i1 &&& (3 : Int32))), .val (.ref nv), .val (.ref c2), .val (.ref c3), .val (.ref c4), .val (.ref c5), .val (.ref c6), .val (.ref c7), .val (.ref a8), .val (.ref a15), .val (.ref a22), .unset, .unset, .unset, .unset, .unset, .unset, .unset, .unset, .unset] [(.int (1 : Int32))])
    refine own_pop (pc' := 167) X60 at_166 rfl rfl ?_
    have f61 := (((f55.keep K56).keep K58).keep K60)
    have f62 := ((f57.keep K58).keep K60)
    have f63 := (f59.keep K60)
    have f64 := ((((((((f16.keep K17).keep K19).keep K21).keep K22).keep K23).keep K56).keep K58).keep K60)
    have f65 := (((((((f18.keep K19).keep K21).keep K22).keep K23).keep K56).keep K58).keep K60)
    have f66 := ((((((f20.keep K21).keep K22).keep K23).keep K56).keep K58).keep K60)
    have ne_a8_a15 : a8 ≠ a15 := own_ne A8'.lt (Nat.le_trans K10.1 (Nat.le_trans K12.1 (Nat.le_trans K14.1 (Nat.le_refl _)))) (Nat.le_of_eq (Eq.symm g15))
    have ne_a8_a22 : a8 ≠ a22 := own_ne A8'.lt (Nat.le_trans K10.1 (Nat.le_trans K12.1 (Nat.le_trans K14.1 (Nat.le_trans K15.1 (Nat.le_trans K17.1 (Nat.le_trans K19.1 (Nat.le_trans K21.1 (Nat.le_refl _)))))))) (Nat.le_of_eq (Eq.symm g22))
    have ne_a8_e56 : a8 ≠ e56 := own_ne A8'.lt (Nat.le_trans K10.1 (Nat.le_trans K12.1 (Nat.le_trans K14.1 (Nat.le_trans K15.1 (Nat.le_trans K17.1 (Nat.le_trans K19.1 (Nat.le_trans K21.1 (Nat.le_trans K22.1 (Nat.le_trans K23.1 (Nat.le_refl _)))))))))) z56
    have f67 := (((((((((A14'.keep K15 nin0).keep K17 (ninS ne_a8_a15 nin0)).keep K19 (ninS ne_a8_a15 nin0)).keep K21 (ninS ne_a8_a15 nin0)).keep K22 nin0).keep K23 (ninS ne_a8_a22 nin0)).keep K56 (ninS ne_a8_a22 nin0)).keep K58 (ninS ne_a8_a22 (ninS ne_a8_e56 nin0))).keep K60 (ninS ne_a8_a22 (ninS ne_a8_e56 nin0)))
    have ne_a15_a22 : a15 ≠ a22 := own_ne A15'.lt (Nat.le_trans K17.1 (Nat.le_trans K19.1 (Nat.le_trans K21.1 (Nat.le_refl _)))) (Nat.le_of_eq (Eq.symm g22))
    have ne_a15_e56 : a15 ≠ e56 := own_ne A15'.lt (Nat.le_trans K17.1 (Nat.le_trans K19.1 (Nat.le_trans K21.1 (Nat.le_trans K22.1 (Nat.le_trans K23.1 (Nat.le_refl _)))))) z56
    have f68 := (((((A21'.keep K22 nin0).keep K23 (ninS ne_a15_a22 nin0)).keep K56 (ninS ne_a15_a22 nin0)).keep K58 (ninS ne_a15_a22 (ninS ne_a15_e56 nin0))).keep K60 (ninS ne_a15_a22 (ninS ne_a15_e56 nin0)))
    have f69 := ((E56.keep K58).keep K60)
    exact own_P2 hw i0 i1 i2 i3 em ea ey mr dd ma mu mw nv c2 c3 c4 c5 c6 c7 a8 a15 a22 k8 k15 3 (own_mono X60 (by decide : 10 ≤ 10) (by decide : 31 ≤ 31)) hGe f61 n_c2 f62 n_c3 f63 n_c4 f64 n_c5 f65 n_c6 f66 n_c7 f67 f68 ⟨e56, k56, P60.1, P60.2.1, P60.2.2.1, Or.inr ⟨A60', f69⟩⟩ (by decide) EM EY MR DE MA MU MW p_Q0 CS
set_option maxRecDepth 65536 in
set_option maxHeartbeats 40000000 in
theorem comes_1 {Post : Tables → Env → Array Value → State → Outcome → State → Prop} (hpost : ∀ tb e args s v u, (limb_1_1.after args s (.returned v) u = true ∧ limb_1_2.after args s (.returned v) u = true ∧ True) → FrameEnd s (.returned v) u (Jvm.fieldLocs frame_1_writes args s ++ Jvm.arrayLocs frame_1_arrays args s ++ Jvm.staticLocs frame_1_statics s) 88 320 → Post tb e args s (.returned v) u) :
    ArmFor flags0 classFile x code maxLocals ret World_1 tables_1 room_1 Calls_1 rest_1 Pre_1 Post := by
  intro l hfl _ _ p e ha hc hk s m args below hf hA hF happ hP
  obtain ⟨hcalls, hrest, hpre⟩ := hP
  obtain ⟨-, -, -, hnamed, -, -, -, hat⟩ := (Spec.applies_iff hf).mp happ
  obtain ⟨hg, hn⟩ := and_e (Cond.before_iff.mp (show (Jvm.Cond.and given_1 narrow_1).before args s = true from hpre))
  obtain ⟨h1, g0⟩ := and_e hg
  obtain ⟨b0, g1⟩ := and_e g0
  obtain ⟨b1, g2⟩ := and_e g1
  obtain ⟨b2, g3⟩ := and_e g2
  have b3 := g3
  obtain ⟨w0, w1, w2, w3, rfl⟩ : ∃ w0 w1 w2 w3 : Value, args = #[w0, w1, w2, w3] := by
    have hs : args.size = 4 := by simpa [Cond.value, given_1] using h1
    obtain ⟨L⟩ := args
    match L, hs with
    | [w0, w1, w2, w3], _ => exact ⟨w0, w1, w2, w3, rfl⟩
  have hw := fun d (hd : d ∈ tables_1) => atoms_spec (ws := Jvm.Cond.code x code maxLocals ret :: tables_1) hat d (List.mem_cons_of_mem _ hd)
  obtain ⟨hsets, hown0⟩ := atoms_of _ (rest_1_c_eq ▸ (show rest_1_c.before _ s = true from hrest))
  have hfit : Fit s := fun {y c} hc i hi => by
    obtain ⟨ha, rfl⟩ := Array.getElem?_eq_some_iff.mp hc
    have q := List.all_eq_true.mp ((Array.all_eq_true_iff_forall_mem.mp hF) _ (Array.getElem_mem ha)) i (List.mem_range.mpr hi)
    simpa [Array.getElem?_eq_getElem hi] using q
  obtain ⟨i0, e0⟩ := is_v b0
  obtain rfl : w0 = (.int i0) := Option.some.inj e0
  obtain ⟨i1, e1⟩ := is_v b1
  obtain rfl : w1 = (.int i1) := Option.some.inj e1
  obtain ⟨i2, e2⟩ := is_v b2
  obtain rfl : w2 = (.int i2) := Option.some.inj e2
  obtain ⟨i3, e3⟩ := is_v b3
  obtain rfl : w3 = (.int i3) := Option.some.inj e3
  obtain ⟨zc, ec⟩ := is_v (Cond.before_iff.mp (hsets _ (List.mem_of_getElem? (i := 10) rfl)))
  have CS : own_CS s := ⟨zc, Sta.start ec (Or.inl (hsets _ (List.mem_of_getElem? (i := 9) rfl))), gotF (Cond.eq_ints ec (Term.int_eval (0))) (not_v (Cond.before_iff.mp (hsets _ (List.mem_of_getElem? (i := 11) rfl))))⟩
  obtain ⟨em, evE, exE⟩ := own_exa (hsets _ (List.mem_of_getElem? (i := 20) rfl))
  have stE := Sta.start evE (Or.inl (hsets _ (List.mem_of_getElem? (i := 19) rfl)))
  obtain ⟨ea, kA, evA, arE⟩ := own_arrT (hsets _ (List.mem_of_getElem? (i := 21) rfl)) (hsets _ (List.mem_of_getElem? (i := 23) rfl))
  have fE : Fld s s.heap em "java/util/ImmutableCollections$ListN" "elements" "[Ljava/lang/Object;" (.ref ea) := own_fldT evE evA
  have evN := own_eqv (Cond.before_iff.mp (hsets _ (List.mem_of_getElem? (i := 24) rfl)))
  have fN : Fld s s.heap em "java/util/ImmutableCollections$ListN" "allowNulls" "Z" (.int 0) := own_fldT evE evN
  have EM : own_EMP s em ea := ⟨stE, exE, fE, fN, kA, arE⟩
  obtain ⟨ea', evA', exA'⟩ := own_exa (hsets _ (List.mem_of_getElem? (i := 22) rfl))
  obtain rfl : ea = ea' := by simpa using Option.some.inj (evA.symm.trans evA')
  have p_Q0 : Exa s s.heap ea "[Ljava/lang/Object;" := exA'
  obtain ⟨ey, evY, exY⟩ := own_exa (hsets _ (List.mem_of_getElem? (i := 27) rfl))
  have EY : own_MTY s ey := ⟨Sta.start evY (Or.inl (hsets _ (List.mem_of_getElem? (i := 26) rfl))), exY.lt⟩
  obtain ⟨dd, kD, evD, arD⟩ := own_arrT (hsets _ (List.mem_of_getElem? (i := 6) rfl)) (hsets _ (List.mem_of_getElem? (i := 8) rfl))
  obtain ⟨dd', evD', exD⟩ := own_exa (hsets _ (List.mem_of_getElem? (i := 7) rfl))
  obtain rfl : dd = dd' := by simpa using Option.some.inj (evD.symm.trans evD')
  have DE : own_DEF s dd := ⟨Sta.start evD (Or.inr ⟨(hw _ (List.mem_of_getElem? (i := 30) rfl)), (hsets _ (List.mem_of_getElem? (i := 2) rfl))⟩), exD, kD, arD⟩
  obtain ⟨⟨cR, kR, mr, r1, r2, r3⟩, ⟨cA, kA', ma, a1, a2, a3⟩, ⟨cU, kU, mu, u1, u2, u3⟩, ⟨cW, kW, mw, w1, w2, w3⟩, -⟩ := hcalls
  have MR : own_Mir s "[Ljava/lang/Object;" mr := ⟨cR, kR, r1, r2, r3.1⟩
  have MA : own_Mir s "java/util/ArrayList" ma := ⟨cA, kA', a1, a2, a3.1⟩
  have MU : own_Mir s "java/util/Collections$UnmodifiableList" mu := ⟨cU, kU, u1, u2, u3.1⟩
  have MW : own_Mir s "java/util/Collections$UnmodifiableRandomAccessList" mw := ⟨cW, kW, w1, w2, w3.1⟩
  obtain ⟨nv, evV, exV⟩ := own_exa (Cond.before_iff.mpr hn)
  have NV := Sta.start evV (Or.inr ⟨(hw _ (List.mem_of_getElem? (i := 1) rfl)), (hw _ (List.mem_of_getElem? (i := 2) rfl))⟩)
  obtain ⟨n, o, h1, h2, h3, _, L, rfl, ⟨rfl, N, -⟩, hq⟩ := own_law l s _ hw s.heap.size i0 i1 i2 i3 em ea ey mr dd ma mu mw nv s.heap (Old.start s) EM EY MR DE MA MU MW p_Q0 CS NV tables_1 p e ha hc hk s m _ below hf ((Spec.applies_iff_loose hf).mp happ).1 ⟨rfl, State.Warmed39.refl s, rfl⟩ trivial
  refine ⟨n, _, h1, h2, h3, hpost _ _ _ _ _ _ ⟨Cond.after_iff.mpr rfl, Cond.after_iff.mpr (eq_i res_at (Term.int_eval (1)) rfl), trivial⟩ ⟨hq.1, hq.2.1, (hq.2.2.sift fun y hy => Or.inr (N y hy)).mono (by decide) (by decide)⟩⟩
theorem main_1_1 : Claimed_1_1 := comes_1 fun _ _ _ _ _ _ h hF => ⟨h.1, hF⟩
theorem main_1_2 : Claimed_1_2 := comes_1 fun _ _ _ _ _ _ h hF => ⟨h.2.1, hF⟩
end Jvm.Pilot.@@N@@
namespace Jvm.Pilot.@@N@@
open Jvm Jvm.ClassFile Sem Op Lib Jvm.Free Jvm.Stand Jvm.Pilot.@@N@@.Jvm.D
/-! MADE BY PROGRAM (witnessworld.py) out of the Statement's table words and the real class files: 49 classes; the members and pool entries that the words name. The judged class is class 1, her method 1. -/
namespace start1
open Jvm.ClassFile
def u (s : String) : CpInfo := .utf8 (stringToUtf16 s)
/-- a pool by its gaps: so many unusable entries, then the entry; so many at the end -/
def gap : Nat → List CpInfo → List CpInfo
  | 0, r => r
  | n + 1, r => .unusable :: gap n r
def poolList (es : List (Nat × CpInfo)) (last : Nat) : List CpInfo := es.foldr (fun e r => gap e.1 (e.2 :: r)) (gap last [])
def pool (es : List (Nat × CpInfo)) (last : Nat) : Array CpInfo := ⟨poolList es last⟩
def fileOf (pool : Array CpInfo) (this : Nat) (attrs : Array Attribute := #[]) (ms : Array MethodInfo := #[]) (fl : Nat := 33) (sup : Nat := 0) (ifs : Array Nat := #[]) (fds : Array FieldInfo := #[]) : ClassFile where
  minorVersion := 0
  majorVersion := 65
  constantPool := pool
  accessFlags := fl
  thisClass := this
  superClass := sup
  interfaces := ifs
  fields := fds
  methods := ms
  attributes := attrs
def plain (name : String) (sup : Option ClassId) : Class where
  name := name
  kind := .ordinary
  loader := none
  accessFlags := 33
  super := sup
  interfaces := #[]
  cf := none
  fields := #[]
  methods := #[]
  instanceTypes := #[]
  staticTypes := #[]
  resolved := #[]
  callSites := []
  init := .initialized
  statics := none
  mirror := none

def pool0 : Array CpInfo := pool [(5, u "<init>"), (0, u "()V"), (1, .class_ 10), (1, u "java/lang/Object"), (0, u "getClass"), (0, u "()Ljava/lang/Class;")] 111

def k0c0 : Code := { maxStack := 0, maxLocals := 1, code := object_method_1_code, exceptionTable := #[], attributes := #[] }
def k0m0 : Method := { name := "<init>", desc := "()V", sig := { parameters := [], returnType := none }, accessFlags := 1, code := some k0c0 }
def k0m1 : Method := { name := "getClass", desc := "()Ljava/lang/Class;", sig := { parameters := [], returnType := some (.object "java/lang/Class") }, accessFlags := 273, code := none }
/-- java/lang/Object -/
def k0 : Class := { plain "java/lang/Object" none with
  accessFlags := 33
  interfaces := #[]
  cf := some (fileOf pool0 8 #[] #[{ accessFlags := 1, nameIndex := 5, descriptorIndex := 6, attributes := #[] }, { accessFlags := 273, nameIndex := 11, descriptorIndex := 12, attributes := #[] }] 33 0 #[] #[])
  fields := #[]
  methods := #[k0m0, k0m1]
  instanceTypes := #[]
  staticTypes := #[]
  resolved := Array.replicate 124 none
  statics := none }

def pool1 : Array CpInfo := pool [(2, .class_ 4), (0, .nameAndType 5 6), (0, u "java/lang/Object"), (0, u "<init>"), (0, u "()V"), (0, .fieldref 8 9), (0, .class_ 10), (0, .nameAndType 11 12), (0, u "com/example/topf/topf/core/NullValue"), (0, u "INSTANCE"), (0, u "Lcom/example/topf/topf/core/NullValue;"), (0, .interfaceMethodref 14 15), (0, .class_ 16), (0, .nameAndType 17 18), (0, u "java/util/Map"), (0, u "entry"), (0, u "(Ljava/lang/Object;Ljava/lang/Object;)Ljava/util/Map$Entry;"), (0, .class_ 20), (0, u "java/util/ArrayList"), (0, .methodref 19 3), (0, .interfaceMethodref 23 24), (0, .class_ 25), (0, .nameAndType 26 27), (0, u "java/util/List"), (0, u "add"), (0, u "(Ljava/lang/Object;)Z"), (0, .methodref 29 30), (0, .class_ 31), (0, .nameAndType 32 33), (0, u "com/example/topf/topf/core/MapValueMergingPinLaw"), (0, u "name"), (0, u "(I)Ljava/lang/String;"), (0, .class_ 35), (0, u "com/example/topf/topf/core/MapValue"), (0, .methodref 34 37), (0, .nameAndType 5 38), (0, u "(Ljava/util/List;Ljava/lang/String;)V"), (0, .methodref 34 40), (0, .nameAndType 41 42), (0, u "merging"), (0, u "()Lcom/example/topf/topf/core/MapValue;"), (0, .methodref 34 44), (0, .nameAndType 45 46), (0, u "isMerging"), (0, u "()Z"), (0, .methodref 34 48), (0, .nameAndType 49 50), (0, u "getMapClass"), (0, u "()Ljava/lang/String;"), (0, .methodref 29 52), (0, .nameAndType 53 54), (0, u "same"), (0, u "(Ljava/lang/String;Ljava/lang/String;)Z"), (0, .methodref 34 56), (0, .nameAndType 57 58), (0, u "inheriting"), (0, u "(Lcom/example/topf/topf/core/DefinedValue;)Lcom/example/topf/topf/core/DefinedValue;"), (0, .methodref 34 60), (0, .nameAndType 61 62), (0, u "getEntries"), (0, u "()Ljava/util/List;"), (0, .interfaceMethodref 23 64), (0, .nameAndType 65 66), (0, u "size"), (0, u "()I"), (0, .methodref 29 68), (0, .nameAndType 69 70), (0, u "check"), (0, u "(Ljava/util/List;II[Ljava/lang/Object;[Ljava/lang/Object;)Z"), (0, .interfaceMethodref 23 72), (0, .nameAndType 73 74), (0, u "get"), (0, u "(I)Ljava/lang/Object;"), (0, .class_ 76), (0, u "java/lang/String"), (0, .methodref 75 78), (0, .nameAndType 5 79), (0, u "([C)V"), (0, .methodref 75 81), (0, .nameAndType 82 27), (0, u "equals"), (2, u "law"), (0, u "(IIII)Z")] 13

def k1m0 : Method := { name := "<init>", desc := "()V", sig := { parameters := [], returnType := none }, accessFlags := 1, code := none }
def k1c1 : Code := { maxStack := 5, maxLocals := 25, code := code, exceptionTable := #[], attributes := #[] }
def k1m1 : Method := { name := "law", desc := "(IIII)Z", sig := { parameters := [.int, .int, .int, .int], returnType := some .boolean }, accessFlags := 9, code := some k1c1 }
def k1c2 : Code := { maxStack := 3, maxLocals := 6, code := method_3_code, exceptionTable := #[], attributes := #[] }
def k1m2 : Method := { name := "check", desc := "(Ljava/util/List;II[Ljava/lang/Object;[Ljava/lang/Object;)Z", sig := { parameters := [(.object "java/util/List"), .int, .int, (.array (.object "java/lang/Object")), (.array (.object "java/lang/Object"))], returnType := some .boolean }, accessFlags := 10, code := some k1c2 }
def k1c3 : Code := { maxStack := 5, maxLocals := 2, code := method_4_code, exceptionTable := #[], attributes := #[] }
def k1m3 : Method := { name := "name", desc := "(I)Ljava/lang/String;", sig := { parameters := [.int], returnType := some (.object "java/lang/String") }, accessFlags := 10, code := some k1c3 }
def k1c4 : Code := { maxStack := 2, maxLocals := 2, code := method_5_code, exceptionTable := #[], attributes := #[] }
def k1m4 : Method := { name := "same", desc := "(Ljava/lang/String;Ljava/lang/String;)Z", sig := { parameters := [(.object "java/lang/String"), (.object "java/lang/String")], returnType := some .boolean }, accessFlags := 10, code := some k1c4 }
/-- com/example/topf/topf/core/MapValueMergingPinLaw -/
def k1 : Class := { plain "com/example/topf/topf/core/MapValueMergingPinLaw" (some 0) with
  accessFlags := 49
  interfaces := #[]
  cf := some (fileOf pool1 29 #[] #[{ accessFlags := 1, nameIndex := 5, descriptorIndex := 6, attributes := #[] }, { accessFlags := 9, nameIndex := 85, descriptorIndex := 86, attributes := #[] }, { accessFlags := 10, nameIndex := 69, descriptorIndex := 70, attributes := #[] }, { accessFlags := 10, nameIndex := 32, descriptorIndex := 33, attributes := #[] }, { accessFlags := 10, nameIndex := 53, descriptorIndex := 54, attributes := #[] }] 49 2 #[] #[])
  fields := #[]
  methods := #[k1m0, k1m1, k1m2, k1m3, k1m4]
  instanceTypes := #[]
  staticTypes := #[]
  resolved := Array.replicate 100 none
  statics := none }

def pool2 : Array CpInfo := pool [(1, .class_ 2), (0, u "com/example/topf/topf/core/DefinedValue"), (0, .class_ 4), (0, u "java/lang/Object")] 31

/-- com/example/topf/topf/core/DefinedValue -/
def k2 : Class := { plain "com/example/topf/topf/core/DefinedValue" (some 0) with
  accessFlags := 1537
  interfaces := #[]
  cf := some (fileOf pool2 1 #[] #[] 1537 3 #[] #[])
  fields := #[]
  methods := #[]
  instanceTypes := #[]
  staticTypes := #[]
  resolved := Array.replicate 36 none
  statics := none }

def pool3 : Array CpInfo := pool [(2, .class_ 4), (1, u "java/lang/Object"), (0, u "<init>"), (0, u "()V"), (0, .class_ 8), (0, u "com/example/topf/topf/core/NullValue"), (3, u "INSTANCE"), (0, u "Lcom/example/topf/topf/core/NullValue;"), (0, .class_ 15), (0, u "com/example/topf/topf/core/DefinedValue")] 9

def k3m0 : Method := { name := "<init>", desc := "()V", sig := { parameters := [], returnType := none }, accessFlags := 2, code := none }
/-- com/example/topf/topf/core/NullValue -/
def k3 : Class := { plain "com/example/topf/topf/core/NullValue" (some 0) with
  accessFlags := 49
  interfaces := #[2]
  cf := some (fileOf pool3 7 #[] #[{ accessFlags := 2, nameIndex := 5, descriptorIndex := 6, attributes := #[] }] 49 2 #[14] #[{ accessFlags := 25, nameIndex := 12, descriptorIndex := 13, attributes := #[] }])
  fields := #[{ name := "INSTANCE", type := (.object "com/example/topf/topf/core/NullValue"), accessFlags := 25, slot := 0, constantValue := 0 }]
  methods := #[k3m0]
  instanceTypes := #[]
  staticTypes := #[(.object "com/example/topf/topf/core/NullValue")]
  resolved := Array.replicate 25 none
  statics := some 0 }

def pool4 : Array CpInfo := pool [(2, .class_ 4), (1, u "java/util/Map"), (31, .class_ 37), (0, u "java/util/Map$Entry"), (12, u "<init>"), (6, u "(Ljava/lang/Object;Ljava/lang/Object;)V"), (32, .nameAndType 50 57), (2, .class_ 94), (0, u "java/lang/Object"), (3, .class_ 99), (0, u "java/util/KeyValueHolder"), (0, .methodref 98 90), (57, u "entry"), (89, u "(Ljava/lang/Object;Ljava/lang/Object;)Ljava/util/Map$Entry;")] 14

def k4c0 : Code := { maxStack := 4, maxLocals := 2, code := jdk_72_method_38_code, exceptionTable := #[], attributes := #[] }
def k4m0 : Method := { name := "entry", desc := "(Ljava/lang/Object;Ljava/lang/Object;)Ljava/util/Map$Entry;", sig := { parameters := [(.object "java/lang/Object"), (.object "java/lang/Object")], returnType := some (.object "java/util/Map$Entry") }, accessFlags := 9, code := some k4c0 }
/-- java/util/Map -/
def k4 : Class := { plain "java/util/Map" (some 0) with
  accessFlags := 1537
  interfaces := #[]
  cf := some (fileOf pool4 2 #[.nestMembers #[36]] #[{ accessFlags := 9, nameIndex := 158, descriptorIndex := 248, attributes := #[] }] 1537 93 #[] #[])
  fields := #[]
  methods := #[k4m0]
  instanceTypes := #[]
  staticTypes := #[]
  resolved := Array.replicate 263 none
  statics := none }

def pool5 : Array CpInfo := pool [(23, .class_ 25), (1, u "java/util/Map$Entry"), (6, .class_ 34), (1, u "java/util/Map"), (34, .class_ 70), (0, u "java/lang/Object")] 107

/-- java/util/Map$Entry -/
def k5 : Class := { plain "java/util/Map$Entry" (some 0) with
  accessFlags := 1537
  interfaces := #[]
  cf := some (fileOf pool5 23 #[.nestHost 32] #[] 1537 69 #[] #[])
  fields := #[]
  methods := #[]
  instanceTypes := #[]
  staticTypes := #[]
  resolved := Array.replicate 178 none
  statics := none }

def pool6 : Array CpInfo := pool [(1, .methodref 2 3), (0, .class_ 4), (0, .nameAndType 5 6), (0, u "java/lang/Object"), (0, u "<init>"), (0, u "()V"), (0, .methodref 8 9), (0, .class_ 10), (0, .nameAndType 11 12), (0, u "java/util/Objects"), (0, u "requireNonNull"), (0, u "(Ljava/lang/Object;)Ljava/lang/Object;"), (0, .fieldref 14 15), (0, .class_ 16), (0, .nameAndType 17 18), (0, u "java/util/KeyValueHolder"), (0, u "key"), (0, u "Ljava/lang/Object;"), (0, .fieldref 14 20), (0, .nameAndType 21 18), (0, u "value"), (7, .class_ 30), (0, u "java/util/Map$Entry"), (36, u "(Ljava/lang/Object;Ljava/lang/Object;)V")] 27

def k6c0 : Code := { maxStack := 2, maxLocals := 3, code := jdk_141_method_1_code, exceptionTable := #[], attributes := #[] }
def k6m0 : Method := { name := "<init>", desc := "(Ljava/lang/Object;Ljava/lang/Object;)V", sig := { parameters := [(.object "java/lang/Object"), (.object "java/lang/Object")], returnType := none }, accessFlags := 0, code := some k6c0 }
/-- java/util/KeyValueHolder -/
def k6 : Class := { plain "java/util/KeyValueHolder" (some 0) with
  accessFlags := 48
  interfaces := #[5]
  cf := some (fileOf pool6 14 #[] #[{ accessFlags := 0, nameIndex := 5, descriptorIndex := 67, attributes := #[] }] 48 2 #[29] #[{ accessFlags := 16, nameIndex := 17, descriptorIndex := 18, attributes := #[] }, { accessFlags := 16, nameIndex := 21, descriptorIndex := 18, attributes := #[] }])
  fields := #[{ name := "key", type := (.object "java/lang/Object"), accessFlags := 16, slot := 0, constantValue := 0 }, { name := "value", type := (.object "java/lang/Object"), accessFlags := 16, slot := 1, constantValue := 0 }]
  methods := #[k6m0]
  instanceTypes := #[(.object "java/lang/Object"), (.object "java/lang/Object")]
  staticTypes := #[]
  resolved := Array.replicate 95 none
  statics := none }

def pool7 : Array CpInfo := pool [(2, .class_ 4), (1, u "java/lang/Object"), (0, u "<init>"), (0, u "()V"), (35, .class_ 44), (1, u "java/util/Objects"), (0, u "requireNonNull"), (0, u "(Ljava/lang/Object;)Ljava/lang/Object;"), (58, .methodref 106 107), (0, .class_ 108), (0, .nameAndType 109 110), (0, u "jdk/internal/util/Preconditions"), (0, u "checkIndex"), (0, u "(IILjava/util/function/BiFunction;)I"), (60, u "(II)I")] 12

def k7m0 : Method := { name := "<init>", desc := "()V", sig := { parameters := [], returnType := none }, accessFlags := 2, code := none }
def k7c1 : Code := { maxStack := 2, maxLocals := 1, code := jdk_31_method_10_code, exceptionTable := #[], attributes := #[] }
def k7m1 : Method := { name := "requireNonNull", desc := "(Ljava/lang/Object;)Ljava/lang/Object;", sig := { parameters := [(.object "java/lang/Object")], returnType := some (.object "java/lang/Object") }, accessFlags := 9, code := some k7c1 }
def k7c2 : Code := { maxStack := 3, maxLocals := 2, code := jdk_31_method_17_code, exceptionTable := #[], attributes := #[] }
def k7m2 : Method := { name := "checkIndex", desc := "(II)I", sig := { parameters := [.int, .int], returnType := some .int }, accessFlags := 9, code := some k7c2 }
/-- java/util/Objects -/
def k7 : Class := { plain "java/util/Objects" (some 0) with
  accessFlags := 49
  interfaces := #[]
  cf := some (fileOf pool7 42 #[] #[{ accessFlags := 2, nameIndex := 5, descriptorIndex := 6, attributes := #[] }, { accessFlags := 9, nameIndex := 45, descriptorIndex := 46, attributes := #[] }, { accessFlags := 9, nameIndex := 109, descriptorIndex := 171, attributes := #[] }] 49 2 #[] #[])
  fields := #[]
  methods := #[k7m0, k7m1, k7m2]
  instanceTypes := #[]
  staticTypes := #[]
  resolved := Array.replicate 184 none
  statics := none }

def pool8 : Array CpInfo := pool [(8, .class_ 10), (1, u "java/lang/Iterable"), (24, .class_ 36), (0, u "java/lang/Object")] 25

/-- java/lang/Iterable -/
def k8 : Class := { plain "java/lang/Iterable" (some 0) with
  accessFlags := 1537
  interfaces := #[]
  cf := some (fileOf pool8 8 #[] #[] 1537 35 #[] #[])
  fields := #[]
  methods := #[]
  instanceTypes := #[]
  staticTypes := #[]
  resolved := Array.replicate 62 none
  statics := none }

def pool9 : Array CpInfo := pool [(10, .class_ 12), (1, u "java/util/Collection"), (0, u "toArray"), (16, u "()Z"), (29, .class_ 61), (0, u "java/lang/Object"), (0, .class_ 63), (0, u "java/lang/Iterable"), (0, u "size"), (0, u "()I"), (0, u "isEmpty"), (3, u "()[Ljava/lang/Object;")] 44

def k9m0 : Method := { name := "size", desc := "()I", sig := { parameters := [], returnType := some .int }, accessFlags := 1025, code := none }
def k9m1 : Method := { name := "isEmpty", desc := "()Z", sig := { parameters := [], returnType := some .boolean }, accessFlags := 1025, code := none }
def k9m2 : Method := { name := "toArray", desc := "()[Ljava/lang/Object;", sig := { parameters := [], returnType := some (.array (.object "java/lang/Object")) }, accessFlags := 1025, code := none }
/-- java/util/Collection -/
def k9 : Class := { plain "java/util/Collection" (some 0) with
  accessFlags := 1537
  interfaces := #[8]
  cf := some (fileOf pool9 10 #[] #[{ accessFlags := 1025, nameIndex := 64, descriptorIndex := 65, attributes := #[] }, { accessFlags := 1025, nameIndex := 66, descriptorIndex := 30, attributes := #[] }, { accessFlags := 1025, nameIndex := 13, descriptorIndex := 70, attributes := #[] }] 1537 60 #[62] #[])
  fields := #[]
  methods := #[k9m0, k9m1, k9m2]
  instanceTypes := #[]
  staticTypes := #[]
  resolved := Array.replicate 115 none
  statics := none }

def pool10 : Array CpInfo := pool [(1, .methodref 2 3), (0, .class_ 4), (0, .nameAndType 5 6), (0, u "java/lang/Object"), (0, u "<init>"), (0, u "()V"), (1, .class_ 10), (1, u "java/util/AbstractCollection"), (66, .class_ 78), (0, u "java/util/Collection")] 81

def k10c0 : Code := { maxStack := 1, maxLocals := 1, code := jdk_22_method_1_code, exceptionTable := #[], attributes := #[] }
def k10m0 : Method := { name := "<init>", desc := "()V", sig := { parameters := [], returnType := none }, accessFlags := 4, code := some k10c0 }
/-- java/util/AbstractCollection -/
def k10 : Class := { plain "java/util/AbstractCollection" (some 0) with
  accessFlags := 1057
  interfaces := #[9]
  cf := some (fileOf pool10 8 #[] #[{ accessFlags := 4, nameIndex := 5, descriptorIndex := 6, attributes := #[] }] 1057 2 #[77] #[])
  fields := #[]
  methods := #[k10m0]
  instanceTypes := #[]
  staticTypes := #[]
  resolved := Array.replicate 160 none
  statics := none }

def pool11 : Array CpInfo := pool [(8, .class_ 10), (1, u "java/util/SequencedCollection"), (15, .class_ 27), (0, u "java/lang/Object"), (0, .class_ 29), (0, u "java/util/Collection")] 27

/-- java/util/SequencedCollection -/
def k11 : Class := { plain "java/util/SequencedCollection" (some 0) with
  accessFlags := 1537
  interfaces := #[9]
  cf := some (fileOf pool11 8 #[] #[] 1537 26 #[28] #[])
  fields := #[]
  methods := #[]
  instanceTypes := #[]
  staticTypes := #[]
  resolved := Array.replicate 57 none
  statics := none }

def pool12 : Array CpInfo := pool [(8, .class_ 10), (1, u "java/util/List"), (7, u "()Z"), (12, u "(Ljava/lang/Object;)V"), (16, u "<init>"), (11, u "add"), (3, u "(Ljava/lang/Object;)Z"), (2, u "isEmpty"), (7, u "get"), (0, u "(I)Ljava/lang/Object;"), (2, u "size"), (0, u "()I"), (7, u "of"), (1, .fieldref 91 92), (0, .class_ 93), (0, .nameAndType 94 95), (0, u "java/util/ImmutableCollections"), (0, u "EMPTY_LIST"), (0, u "Ljava/util/ImmutableCollections$ListN;"), (0, .class_ 97), (0, u "java/util/ImmutableCollections$List12"), (0, .methodref 96 99), (0, .nameAndType 48 31), (0, .methodref 96 101), (0, .nameAndType 48 102), (0, u "(Ljava/lang/Object;Ljava/lang/Object;)V"), (0, .class_ 104), (0, u "java/lang/Object"), (3, u "([Ljava/lang/Object;)Ljava/util/List;"), (0, .methodref 91 110), (0, .nameAndType 111 108), (0, u "listFromArray"), (0, .methodref 91 113), (0, .nameAndType 114 115), (0, u "listCopy"), (0, u "(Ljava/util/Collection;)Ljava/util/List;"), (3, u "()Ljava/util/List;"), (0, .class_ 121), (0, u "java/util/SequencedCollection"), (9, u "(Ljava/util/Collection;)Z"), (1, u "addAll"), (100, u "copyOf")] 16

def k12m0 : Method := { name := "size", desc := "()I", sig := { parameters := [], returnType := some .int }, accessFlags := 1025, code := none }
def k12m1 : Method := { name := "isEmpty", desc := "()Z", sig := { parameters := [], returnType := some .boolean }, accessFlags := 1025, code := none }
def k12m2 : Method := { name := "add", desc := "(Ljava/lang/Object;)Z", sig := { parameters := [(.object "java/lang/Object")], returnType := some .boolean }, accessFlags := 1025, code := none }
def k12m3 : Method := { name := "addAll", desc := "(Ljava/util/Collection;)Z", sig := { parameters := [(.object "java/util/Collection")], returnType := some .boolean }, accessFlags := 1025, code := none }
def k12m4 : Method := { name := "get", desc := "(I)Ljava/lang/Object;", sig := { parameters := [.int], returnType := some (.object "java/lang/Object") }, accessFlags := 1025, code := none }
def k12c5 : Code := { maxStack := 1, maxLocals := 0, code := jdk_40_method_36_code, exceptionTable := #[], attributes := #[] }
def k12m5 : Method := { name := "of", desc := "()Ljava/util/List;", sig := { parameters := [], returnType := some (.object "java/util/List") }, accessFlags := 9, code := some k12c5 }
def k12c6 : Code := { maxStack := 5, maxLocals := 2, code := jdk_40_method_47_code, exceptionTable := #[], attributes := #[] }
def k12m6 : Method := { name := "of", desc := "([Ljava/lang/Object;)Ljava/util/List;", sig := { parameters := [(.array (.object "java/lang/Object"))], returnType := some (.object "java/util/List") }, accessFlags := 137, code := some k12c6 }
def k12c7 : Code := { maxStack := 1, maxLocals := 1, code := jdk_40_method_48_code, exceptionTable := #[], attributes := #[] }
def k12m7 : Method := { name := "copyOf", desc := "(Ljava/util/Collection;)Ljava/util/List;", sig := { parameters := [(.object "java/util/Collection")], returnType := some (.object "java/util/List") }, accessFlags := 9, code := some k12c7 }
/-- java/util/List -/
def k12 : Class := { plain "java/util/List" (some 0) with
  accessFlags := 1537
  interfaces := #[11]
  cf := some (fileOf pool12 8 #[] #[{ accessFlags := 1025, nameIndex := 79, descriptorIndex := 80, attributes := #[] }, { accessFlags := 1025, nameIndex := 67, descriptorIndex := 18, attributes := #[] }, { accessFlags := 1025, nameIndex := 60, descriptorIndex := 64, attributes := #[] }, { accessFlags := 1025, nameIndex := 133, descriptorIndex := 131, attributes := #[] }, { accessFlags := 1025, nameIndex := 75, descriptorIndex := 76, attributes := #[] }, { accessFlags := 9, nameIndex := 88, descriptorIndex := 119, attributes := #[] }, { accessFlags := 137, nameIndex := 88, descriptorIndex := 108, attributes := #[] }, { accessFlags := 9, nameIndex := 234, descriptorIndex := 115, attributes := #[] }] 1537 103 #[120] #[])
  fields := #[]
  methods := #[k12m0, k12m1, k12m2, k12m3, k12m4, k12m5, k12m6, k12m7]
  instanceTypes := #[]
  staticTypes := #[]
  resolved := Array.replicate 251 none
  statics := none }

def pool13 : Array CpInfo := pool [(1, .methodref 2 3), (0, .class_ 4), (0, .nameAndType 5 6), (0, u "java/util/AbstractCollection"), (0, u "<init>"), (0, u "()V"), (0, .fieldref 8 9), (0, .class_ 10), (0, .nameAndType 11 12), (0, u "java/util/AbstractList"), (0, u "modCount"), (0, u "I"), (64, .class_ 78), (0, u "java/util/AbstractList$Itr"), (3, .class_ 83), (0, u "java/util/AbstractList$ListItr"), (9, .class_ 94), (0, u "java/util/AbstractList$RandomAccessSubList"), (3, .class_ 99), (0, u "java/util/AbstractList$SubList"), (33, .class_ 134), (0, u "java/util/List"), (73, .class_ 209), (0, u "java/util/AbstractList$SubList$1"), (0, .class_ 211), (0, u "java/util/AbstractList$RandomAccessSpliterator")] 6

def k13c0 : Code := { maxStack := 2, maxLocals := 1, code := jdk_39_method_1_code, exceptionTable := #[], attributes := #[] }
def k13m0 : Method := { name := "<init>", desc := "()V", sig := { parameters := [], returnType := none }, accessFlags := 4, code := some k13c0 }
/-- java/util/AbstractList -/
def k13 : Class := { plain "java/util/AbstractList" (some 10) with
  accessFlags := 1057
  interfaces := #[12]
  cf := some (fileOf pool13 8 #[.nestMembers #[93, 98, 208, 210, 82, 77]] #[{ accessFlags := 4, nameIndex := 5, descriptorIndex := 6, attributes := #[] }] 1057 2 #[133] #[{ accessFlags := 132, nameIndex := 11, descriptorIndex := 12, attributes := #[] }])
  fields := #[{ name := "modCount", type := .int, accessFlags := 132, slot := 0, constantValue := 0 }]
  methods := #[k13m0]
  instanceTypes := #[.int]
  staticTypes := #[]
  resolved := Array.replicate 218 none
  statics := none }

def pool14 : Array CpInfo := pool [(1, .class_ 2), (0, u "java/util/RandomAccess"), (0, .class_ 4), (0, u "java/lang/Object")] 2

/-- java/util/RandomAccess -/
def k14 : Class := { plain "java/util/RandomAccess" (some 0) with
  accessFlags := 1537
  interfaces := #[]
  cf := some (fileOf pool14 1 #[] #[] 1537 3 #[] #[])
  fields := #[]
  methods := #[]
  instanceTypes := #[]
  staticTypes := #[]
  resolved := Array.replicate 7 none
  statics := none }

def pool15 : Array CpInfo := pool [(1, .class_ 2), (0, u "java/lang/Cloneable"), (0, .class_ 4), (0, u "java/lang/Object")] 2

/-- java/lang/Cloneable -/
def k15 : Class := { plain "java/lang/Cloneable" (some 0) with
  accessFlags := 1537
  interfaces := #[]
  cf := some (fileOf pool15 1 #[] #[] 1537 3 #[] #[])
  fields := #[]
  methods := #[]
  instanceTypes := #[]
  staticTypes := #[]
  resolved := Array.replicate 7 none
  statics := none }

def pool16 : Array CpInfo := pool [(1, .class_ 2), (0, u "java/io/Serializable"), (0, .class_ 4), (0, u "java/lang/Object")] 2

/-- java/io/Serializable -/
def k16 : Class := { plain "java/io/Serializable" (some 0) with
  accessFlags := 1537
  interfaces := #[]
  cf := some (fileOf pool16 1 #[] #[] 1537 3 #[] #[])
  fields := #[]
  methods := #[]
  instanceTypes := #[]
  staticTypes := #[]
  resolved := Array.replicate 7 none
  statics := none }

def pool17 : Array CpInfo := pool [(1, .methodref 2 3), (0, .class_ 4), (0, .nameAndType 5 6), (0, u "java/util/AbstractList"), (0, u "<init>"), (0, u "()V"), (0, .class_ 8), (0, u "java/lang/Object"), (0, .fieldref 10 11), (0, .class_ 12), (0, .nameAndType 13 14), (0, u "java/util/ArrayList"), (0, u "elementData"), (0, u "[Ljava/lang/Object;"), (2, u "EMPTY_ELEMENTDATA"), (21, .fieldref 10 40), (0, .nameAndType 41 14), (0, u "DEFAULTCAPACITY_EMPTY_ELEMENTDATA"), (0, .interfaceMethodref 43 44), (0, .class_ 45), (0, .nameAndType 46 47), (0, u "java/util/Collection"), (0, u "toArray"), (0, u "()[Ljava/lang/Object;"), (0, .fieldref 10 49), (0, .nameAndType 50 51), (0, u "size"), (0, u "I"), (6, .class_ 60), (1, u "java/util/Arrays"), (0, u "copyOf"), (1, .fieldref 10 64), (0, .nameAndType 65 51), (0, u "modCount"), (0, .methodref 58 67), (0, .nameAndType 61 68), (0, u "([Ljava/lang/Object;I)[Ljava/lang/Object;"), (0, .methodref 10 70), (0, .nameAndType 71 72), (0, u "grow"), (0, u "(I)[Ljava/lang/Object;"), (6, .methodref 80 81), (0, .class_ 82), (0, .nameAndType 83 84), (0, u "java/lang/Math"), (0, u "max"), (0, u "(II)I"), (11, u "(Ljava/lang/Object;)Z"), (15, .methodref 113 114), (0, .class_ 115), (0, .nameAndType 116 117), (0, u "java/lang/System"), (0, u "arraycopy"), (0, u "(Ljava/lang/Object;ILjava/lang/Object;II)V"), (0, .methodref 119 120), (0, .class_ 121), (0, .nameAndType 122 84), (0, u "java/util/Objects"), (0, u "checkIndex"), (0, .methodref 10 124), (0, .nameAndType 13 125), (0, u "(I)Ljava/lang/Object;"), (3, .methodref 10 130), (0, .nameAndType 71 47), (0, .methodref 10 132), (0, .nameAndType 133 134), (0, u "add"), (0, u "(Ljava/lang/Object;[Ljava/lang/Object;I)V"), (3, u "(I)V"), (9, .class_ 149), (0, u "java/util/List"), (23, u "()Z"), (12, u "()I"), (75, .class_ 263), (0, u "java/util/ArrayList$ListItr"), (3, .class_ 268), (0, u "java/util/ArrayList$Itr"), (7, .class_ 277), (0, u "java/util/ArrayList$SubList"), (12, .class_ 291), (0, u "java/util/ArrayList$ArrayListSpliterator"), (37, .class_ 330), (0, u "java/util/RandomAccess"), (0, .class_ 332), (0, u "java/lang/Cloneable"), (0, .class_ 334), (0, u "java/io/Serializable"), (0, u "serialVersionUID"), (0, u "J"), (3, u "DEFAULT_CAPACITY"), (22, u "isEmpty"), (17, u "get"), (38, u "addAll"), (0, u "(Ljava/util/Collection;)Z"), (78, .class_ 501), (0, u "java/util/ArrayList$SubList$2"), (0, .class_ 503), (0, u "java/util/ArrayList$SubList$1")] 5

def k17c0 : Code := { maxStack := 4, maxLocals := 2, code := jdk_38_method_1_code, exceptionTable := #[], attributes := #[] }
def k17m0 : Method := { name := "<init>", desc := "(I)V", sig := { parameters := [.int], returnType := none }, accessFlags := 1, code := some k17c0 }
def k17c1 : Code := { maxStack := 2, maxLocals := 1, code := jdk_38_method_2_code, exceptionTable := #[], attributes := #[] }
def k17m1 : Method := { name := "<init>", desc := "()V", sig := { parameters := [], returnType := none }, accessFlags := 1, code := some k17c1 }
def k17c2 : Code := { maxStack := 4, maxLocals := 4, code := jdk_38_method_6_code, exceptionTable := #[], attributes := #[] }
def k17m2 : Method := { name := "grow", desc := "(I)[Ljava/lang/Object;", sig := { parameters := [.int], returnType := some (.array (.object "java/lang/Object")) }, accessFlags := 2, code := some k17c2 }
def k17c3 : Code := { maxStack := 3, maxLocals := 1, code := jdk_38_method_7_code, exceptionTable := #[], attributes := #[] }
def k17m3 : Method := { name := "grow", desc := "()[Ljava/lang/Object;", sig := { parameters := [], returnType := some (.array (.object "java/lang/Object")) }, accessFlags := 2, code := some k17c3 }
def k17c4 : Code := { maxStack := 1, maxLocals := 1, code := jdk_38_method_8_code, exceptionTable := #[], attributes := #[] }
def k17m4 : Method := { name := "size", desc := "()I", sig := { parameters := [], returnType := some .int }, accessFlags := 1, code := some k17c4 }
def k17c5 : Code := { maxStack := 1, maxLocals := 1, code := jdk_38_method_9_code, exceptionTable := #[], attributes := #[] }
def k17m5 : Method := { name := "isEmpty", desc := "()Z", sig := { parameters := [], returnType := some .boolean }, accessFlags := 1, code := some k17c5 }
def k17c6 : Code := { maxStack := 2, maxLocals := 1, code := jdk_38_method_16_code, exceptionTable := #[], attributes := #[] }
def k17m6 : Method := { name := "toArray", desc := "()[Ljava/lang/Object;", sig := { parameters := [], returnType := some (.array (.object "java/lang/Object")) }, accessFlags := 1, code := some k17c6 }
def k17c7 : Code := { maxStack := 2, maxLocals := 2, code := jdk_38_method_18_code, exceptionTable := #[], attributes := #[] }
def k17m7 : Method := { name := "elementData", desc := "(I)Ljava/lang/Object;", sig := { parameters := [.int], returnType := some (.object "java/lang/Object") }, accessFlags := 0, code := some k17c7 }
def k17c8 : Code := { maxStack := 2, maxLocals := 2, code := jdk_38_method_20_code, exceptionTable := #[], attributes := #[] }
def k17m8 : Method := { name := "get", desc := "(I)Ljava/lang/Object;", sig := { parameters := [.int], returnType := some (.object "java/lang/Object") }, accessFlags := 1, code := some k17c8 }
def k17c9 : Code := { maxStack := 3, maxLocals := 4, code := jdk_38_method_24_code, exceptionTable := #[], attributes := #[] }
def k17m9 : Method := { name := "add", desc := "(Ljava/lang/Object;[Ljava/lang/Object;I)V", sig := { parameters := [(.object "java/lang/Object"), (.array (.object "java/lang/Object")), .int], returnType := none }, accessFlags := 2, code := some k17c9 }
def k17c10 : Code := { maxStack := 4, maxLocals := 2, code := jdk_38_method_25_code, exceptionTable := #[], attributes := #[] }
def k17m10 : Method := { name := "add", desc := "(Ljava/lang/Object;)Z", sig := { parameters := [(.object "java/lang/Object")], returnType := some .boolean }, accessFlags := 1, code := some k17c10 }
def k17c11 : Code := { maxStack := 5, maxLocals := 6, code := jdk_38_method_41_code, exceptionTable := #[], attributes := #[] }
def k17m11 : Method := { name := "addAll", desc := "(Ljava/util/Collection;)Z", sig := { parameters := [(.object "java/util/Collection")], returnType := some .boolean }, accessFlags := 1, code := some k17c11 }
/-- java/util/ArrayList -/
def k17 : Class := { plain "java/util/ArrayList" (some 13) with
  accessFlags := 33
  interfaces := #[12, 14, 15, 16]
  cf := some (fileOf pool17 10 #[.nestMembers #[290, 276, 500, 502, 262, 267]] #[{ accessFlags := 1, nameIndex := 5, descriptorIndex := 138, attributes := #[] }, { accessFlags := 1, nameIndex := 5, descriptorIndex := 6, attributes := #[] }, { accessFlags := 2, nameIndex := 71, descriptorIndex := 72, attributes := #[] }, { accessFlags := 2, nameIndex := 71, descriptorIndex := 47, attributes := #[] }, { accessFlags := 1, nameIndex := 50, descriptorIndex := 186, attributes := #[] }, { accessFlags := 1, nameIndex := 363, descriptorIndex := 173, attributes := #[] }, { accessFlags := 1, nameIndex := 46, descriptorIndex := 47, attributes := #[] }, { accessFlags := 0, nameIndex := 13, descriptorIndex := 125, attributes := #[] }, { accessFlags := 1, nameIndex := 381, descriptorIndex := 125, attributes := #[] }, { accessFlags := 2, nameIndex := 133, descriptorIndex := 134, attributes := #[] }, { accessFlags := 1, nameIndex := 133, descriptorIndex := 96, attributes := #[] }, { accessFlags := 1, nameIndex := 420, descriptorIndex := 421, attributes := #[] }] 33 2 #[148, 329, 331, 333] #[{ accessFlags := 26, nameIndex := 335, descriptorIndex := 336, attributes := #[] }, { accessFlags := 26, nameIndex := 340, descriptorIndex := 51, attributes := #[] }, { accessFlags := 26, nameIndex := 17, descriptorIndex := 14, attributes := #[] }, { accessFlags := 26, nameIndex := 41, descriptorIndex := 14, attributes := #[] }, { accessFlags := 128, nameIndex := 13, descriptorIndex := 14, attributes := #[] }, { accessFlags := 2, nameIndex := 50, descriptorIndex := 51, attributes := #[] }])
  fields := #[{ name := "serialVersionUID", type := .long, accessFlags := 26, slot := 0, constantValue := 0 }, { name := "DEFAULT_CAPACITY", type := .int, accessFlags := 26, slot := 1, constantValue := 0 }, { name := "EMPTY_ELEMENTDATA", type := (.array (.object "java/lang/Object")), accessFlags := 26, slot := 2, constantValue := 0 }, { name := "DEFAULTCAPACITY_EMPTY_ELEMENTDATA", type := (.array (.object "java/lang/Object")), accessFlags := 26, slot := 3, constantValue := 0 }, { name := "elementData", type := (.array (.object "java/lang/Object")), accessFlags := 128, slot := 1, constantValue := 0 }, { name := "size", type := .int, accessFlags := 2, slot := 2, constantValue := 0 }]
  methods := #[k17m0, k17m1, k17m2, k17m3, k17m4, k17m5, k17m6, k17m7, k17m8, k17m9, k17m10, k17m11]
  instanceTypes := #[.int, (.array (.object "java/lang/Object")), .int]
  staticTypes := #[.long, .int, (.array (.object "java/lang/Object")), (.array (.object "java/lang/Object"))]
  resolved := Array.replicate 509 none
  mirror := some 6
  statics := some 1 }

def pool18 : Array CpInfo := pool [(1, .class_ 2), (0, u "java/lang/Math"), (1, .class_ 6), (1, u "java/lang/Object"), (0, u "<init>"), (0, u "()V"), (89, .class_ 100), (1, u "java/lang/Math$RandomNumberGeneratorHolder"), (71, u "negativeZeroFloatBits"), (0, u "J"), (2, u "negativeZeroDoubleBits"), (21, u "max"), (2, u "min"), (43, u "$assertionsDisabled"), (0, u "Z"), (88, u "(II)I"), (2, u "twoToTheDoubleScaleDown"), (0, u "D"), (4, u "twoToTheDoubleScaleUp"), (9, u "E"), (3, u "PI"), (2, u "TAU"), (2, u "DEGREES_TO_RADIANS"), (0, u "RADIANS_TO_DEGREES")] 94

def k18m0 : Method := { name := "<init>", desc := "()V", sig := { parameters := [], returnType := none }, accessFlags := 2, code := none }
def k18c1 : Code := { maxStack := 2, maxLocals := 2, code := jdk_29_method_65_code, exceptionTable := #[], attributes := #[] }
def k18m1 : Method := { name := "max", desc := "(II)I", sig := { parameters := [.int, .int], returnType := some .int }, accessFlags := 9, code := some k18c1 }
def k18c2 : Code := { maxStack := 2, maxLocals := 2, code := jdk_29_method_69_code, exceptionTable := #[], attributes := #[] }
def k18m2 : Method := { name := "min", desc := "(II)I", sig := { parameters := [.int, .int], returnType := some .int }, accessFlags := 9, code := some k18c2 }
/-- java/lang/Math -/
def k18 : Class := { plain "java/lang/Math" (some 0) with
  accessFlags := 49
  interfaces := #[]
  cf := some (fileOf pool18 1 #[.nestMembers #[98]] #[{ accessFlags := 2, nameIndex := 7, descriptorIndex := 8, attributes := #[] }, { accessFlags := 9, nameIndex := 198, descriptorIndex := 335, attributes := #[] }, { accessFlags := 9, nameIndex := 201, descriptorIndex := 335, attributes := #[] }] 49 4 #[] #[{ accessFlags := 25, nameIndex := 354, descriptorIndex := 339, attributes := #[] }, { accessFlags := 25, nameIndex := 358, descriptorIndex := 339, attributes := #[] }, { accessFlags := 25, nameIndex := 361, descriptorIndex := 339, attributes := #[] }, { accessFlags := 26, nameIndex := 364, descriptorIndex := 339, attributes := #[] }, { accessFlags := 26, nameIndex := 365, descriptorIndex := 339, attributes := #[] }, { accessFlags := 26, nameIndex := 172, descriptorIndex := 173, attributes := #[] }, { accessFlags := 26, nameIndex := 176, descriptorIndex := 173, attributes := #[] }, { accessFlags := 8, nameIndex := 344, descriptorIndex := 339, attributes := #[] }, { accessFlags := 8, nameIndex := 338, descriptorIndex := 339, attributes := #[] }, { accessFlags := 4120, nameIndex := 245, descriptorIndex := 246, attributes := #[] }])
  fields := #[{ name := "E", type := .double, accessFlags := 25, slot := 0, constantValue := 0 }, { name := "PI", type := .double, accessFlags := 25, slot := 1, constantValue := 0 }, { name := "TAU", type := .double, accessFlags := 25, slot := 2, constantValue := 0 }, { name := "DEGREES_TO_RADIANS", type := .double, accessFlags := 26, slot := 3, constantValue := 0 }, { name := "RADIANS_TO_DEGREES", type := .double, accessFlags := 26, slot := 4, constantValue := 0 }, { name := "negativeZeroFloatBits", type := .long, accessFlags := 26, slot := 5, constantValue := 0 }, { name := "negativeZeroDoubleBits", type := .long, accessFlags := 26, slot := 6, constantValue := 0 }, { name := "twoToTheDoubleScaleUp", type := .double, accessFlags := 8, slot := 7, constantValue := 0 }, { name := "twoToTheDoubleScaleDown", type := .double, accessFlags := 8, slot := 8, constantValue := 0 }, { name := "$assertionsDisabled", type := .boolean, accessFlags := 4120, slot := 9, constantValue := 0 }]
  methods := #[k18m0, k18m1, k18m2]
  instanceTypes := #[]
  staticTypes := #[.double, .double, .double, .double, .double, .long, .long, .double, .double, .boolean]
  resolved := Array.replicate 460 none
  statics := none }

def pool19 : Array CpInfo := pool [(1, .class_ 2), (0, u "java/lang/Comparable"), (0, .class_ 4), (0, u "java/lang/Object")] 7

/-- java/lang/Comparable -/
def k19 : Class := { plain "java/lang/Comparable" (some 0) with
  accessFlags := 1537
  interfaces := #[]
  cf := some (fileOf pool19 1 #[] #[] 1537 3 #[] #[])
  fields := #[]
  methods := #[]
  instanceTypes := #[]
  staticTypes := #[]
  resolved := Array.replicate 12 none
  statics := none }

def pool20 : Array CpInfo := pool [(2, .class_ 4), (1, u "java/lang/CharSequence"), (42, .class_ 48), (0, u "java/lang/CharSequence$1CodePointIterator"), (10, .class_ 60), (0, u "java/lang/CharSequence$1CharIterator"), (5, .class_ 67), (0, u "java/lang/Object")] 63

/-- java/lang/CharSequence -/
def k20 : Class := { plain "java/lang/CharSequence" (some 0) with
  accessFlags := 1537
  interfaces := #[]
  cf := some (fileOf pool20 2 #[.nestMembers #[47, 59]] #[] 1537 66 #[] #[])
  fields := #[]
  methods := #[]
  instanceTypes := #[]
  staticTypes := #[]
  resolved := Array.replicate 131 none
  statics := none }

def pool21 : Array CpInfo := pool [(1, .class_ 2), (0, u "java/lang/constant/Constable"), (0, .class_ 4), (0, u "java/lang/Object")] 6

/-- java/lang/constant/Constable -/
def k21 : Class := { plain "java/lang/constant/Constable" (some 0) with
  accessFlags := 1537
  interfaces := #[]
  cf := some (fileOf pool21 1 #[] #[] 1537 3 #[] #[])
  fields := #[]
  methods := #[]
  instanceTypes := #[]
  staticTypes := #[]
  resolved := Array.replicate 11 none
  statics := none }

def pool22 : Array CpInfo := pool [(1, .class_ 2), (0, u "java/lang/constant/ConstantDesc"), (0, .class_ 4), (0, u "java/lang/Object")] 32

/-- java/lang/constant/ConstantDesc -/
def k22 : Class := { plain "java/lang/constant/ConstantDesc" (some 0) with
  accessFlags := 1537
  interfaces := #[]
  cf := some (fileOf pool22 1 #[] #[] 1537 3 #[] #[])
  fields := #[]
  methods := #[]
  instanceTypes := #[]
  staticTypes := #[]
  resolved := Array.replicate 37 none
  statics := none }

def pool23 : Array CpInfo := pool [(1, .methodref 2 3), (0, .class_ 4), (0, .nameAndType 5 6), (0, u "java/lang/Object"), (0, u "<init>"), (0, u "()V"), (2, .fieldref 10 11), (0, .class_ 12), (0, .nameAndType 13 14), (0, u "java/lang/String"), (0, u "value"), (0, u "[B"), (0, .fieldref 10 16), (0, .nameAndType 17 18), (0, u "coder"), (0, u "B"), (2, u "hash"), (0, u "I"), (2, u "hashIsZero"), (0, u "Z"), (0, .methodref 10 28), (0, .nameAndType 5 29), (0, u "([CIILjava/lang/Void;)V"), (8, .fieldref 10 39), (0, .nameAndType 40 26), (0, u "COMPACT_STRINGS"), (1, .class_ 44), (1, u "java/lang/StringUTF16"), (0, u "compress"), (1, .methodref 42 48), (0, .nameAndType 49 50), (0, u "coderFromArrayLen"), (0, u "([BI)B"), (126, .methodref 42 178), (0, .nameAndType 45 179), (0, u "([CII)[B"), (363, u "equals"), (29, u "(Ljava/lang/Object;)Z"), (1, .class_ 576), (0, u "java/lang/CharSequence"), (22, u "CASE_INSENSITIVE_ORDER"), (0, u "Ljava/util/Comparator;"), (409, u "([C)V"), (90, u "serialPersistentFields"), (0, u "[Ljava/io/ObjectStreamField;"), (0, .class_ 1104), (0, u "java/lang/String$CaseInsensitiveComparator"), (1, .class_ 1107), (0, u "java/io/Serializable"), (0, .class_ 1109), (0, u "java/lang/Comparable"), (0, .class_ 1111), (0, u "java/lang/constant/Constable"), (0, .class_ 1113), (0, u "java/lang/constant/ConstantDesc"), (2, u "serialVersionUID"), (0, u "J"), (3, u "REPL"), (0, u "C"), (2, u "LATIN1"), (1, u "UTF16")] 323

def k23m0 : Method := { name := "<init>", desc := "()V", sig := { parameters := [], returnType := none }, accessFlags := 1, code := none }
def k23c1 : Code := { maxStack := 5, maxLocals := 2, code := jdk_42_method_3_code, exceptionTable := #[], attributes := #[] }
def k23m1 : Method := { name := "<init>", desc := "([C)V", sig := { parameters := [(.array .char)], returnType := none }, accessFlags := 1, code := some k23c1 }
def k23c2 : Code := { maxStack := 2, maxLocals := 3, code := jdk_42_method_66_code, exceptionTable := #[], attributes := #[] }
def k23m2 : Method := { name := "equals", desc := "(Ljava/lang/Object;)Z", sig := { parameters := [(.object "java/lang/Object")], returnType := some .boolean }, accessFlags := 1, code := some k23c2 }
def k23c3 : Code := { maxStack := 4, maxLocals := 6, code := jdk_42_method_149_code, exceptionTable := #[], attributes := #[] }
def k23m3 : Method := { name := "<init>", desc := "([CIILjava/lang/Void;)V", sig := { parameters := [(.array .char), .int, .int, (.object "java/lang/Void")], returnType := none }, accessFlags := 2, code := some k23c3 }
/-- java/lang/String -/
def k23 : Class := { plain "java/lang/String" (some 0) with
  accessFlags := 49
  interfaces := #[16, 19, 20, 21, 22]
  cf := some (fileOf pool23 10 #[.nestMembers #[1103]] #[{ accessFlags := 1, nameIndex := 5, descriptorIndex := 6, attributes := #[] }, { accessFlags := 1, nameIndex := 5, descriptorIndex := 1010, attributes := #[] }, { accessFlags := 1, nameIndex := 543, descriptorIndex := 573, attributes := #[] }, { accessFlags := 2, nameIndex := 5, descriptorIndex := 29, attributes := #[] }] 49 2 #[1106, 1108, 575, 1110, 1112] #[{ accessFlags := 18, nameIndex := 13, descriptorIndex := 14, attributes := #[] }, { accessFlags := 18, nameIndex := 17, descriptorIndex := 18, attributes := #[] }, { accessFlags := 2, nameIndex := 21, descriptorIndex := 22, attributes := #[] }, { accessFlags := 2, nameIndex := 25, descriptorIndex := 26, attributes := #[] }, { accessFlags := 26, nameIndex := 1116, descriptorIndex := 1117, attributes := #[] }, { accessFlags := 24, nameIndex := 40, descriptorIndex := 26, attributes := #[] }, { accessFlags := 26, nameIndex := 1101, descriptorIndex := 1102, attributes := #[] }, { accessFlags := 26, nameIndex := 1121, descriptorIndex := 1122, attributes := #[] }, { accessFlags := 25, nameIndex := 599, descriptorIndex := 600, attributes := #[] }, { accessFlags := 24, nameIndex := 1125, descriptorIndex := 18, attributes := #[] }, { accessFlags := 24, nameIndex := 1127, descriptorIndex := 18, attributes := #[] }])
  fields := #[{ name := "value", type := (.array .byte), accessFlags := 18, slot := 0, constantValue := 0 }, { name := "coder", type := .byte, accessFlags := 18, slot := 1, constantValue := 0 }, { name := "hash", type := .int, accessFlags := 2, slot := 2, constantValue := 0 }, { name := "hashIsZero", type := .boolean, accessFlags := 2, slot := 3, constantValue := 0 }, { name := "serialVersionUID", type := .long, accessFlags := 26, slot := 0, constantValue := 0 }, { name := "COMPACT_STRINGS", type := .boolean, accessFlags := 24, slot := 1, constantValue := 0 }, { name := "serialPersistentFields", type := (.array (.object "java/io/ObjectStreamField")), accessFlags := 26, slot := 2, constantValue := 0 }, { name := "REPL", type := .char, accessFlags := 26, slot := 3, constantValue := 0 }, { name := "CASE_INSENSITIVE_ORDER", type := (.object "java/util/Comparator"), accessFlags := 25, slot := 4, constantValue := 0 }, { name := "LATIN1", type := .byte, accessFlags := 24, slot := 5, constantValue := 0 }, { name := "UTF16", type := .byte, accessFlags := 24, slot := 6, constantValue := 0 }]
  methods := #[k23m0, k23m1, k23m2, k23m3]
  instanceTypes := #[(.array .byte), .byte, .int, .boolean]
  staticTypes := #[.long, .boolean, (.array (.object "java/io/ObjectStreamField")), .char, (.object "java/util/Comparator"), .byte, .byte]
  resolved := Array.replicate 1451 none
  statics := some 2 }

def pool24 : Array CpInfo := pool [(6, .class_ 8), (1, u "java/lang/Object"), (0, u "<init>"), (0, u "()V"), (1, .class_ 14), (1, u "java/lang/StringUTF16"), (31, u "$assertionsDisabled"), (0, u "Z"), (13, u "HI_BYTE_SHIFT"), (0, u "I"), (2, u "LO_BYTE_SHIFT"), (49, .methodref 12 116), (0, .nameAndType 117 118), (0, u "compress"), (0, u "([CI[BII)I"), (3, u "([CII)[B"), (138, u "coderFromArrayLen"), (0, u "([BI)B"), (106, .class_ 371), (1, u "java/lang/StringUTF16$LinesSpliterator"), (58, u "MAX_LENGTH"), (196, .class_ 628), (0, u "java/lang/StringUTF16$CodePointsSpliterator"), (0, .class_ 630), (0, u "java/lang/StringUTF16$CharsSpliterator")] 4

def k24m0 : Method := { name := "<init>", desc := "()V", sig := { parameters := [], returnType := none }, accessFlags := 0, code := none }
def k24c1 : Code := { maxStack := 2, maxLocals := 2, code := jdk_52_method_15_code, exceptionTable := #[], attributes := #[] }
def k24m1 : Method := { name := "coderFromArrayLen", desc := "([BI)B", sig := { parameters := [(.array .byte), .int], returnType := some .byte }, accessFlags := 8, code := some k24c1 }
def k24c2 : Code := { maxStack := 5, maxLocals := 6, code := jdk_52_method_16_code, exceptionTable := #[], attributes := #[] }
def k24m2 : Method := { name := "compress", desc := "([CII)[B", sig := { parameters := [(.array .char), .int, .int], returnType := some (.array .byte) }, accessFlags := 9, code := some k24c2 }
def k24c3 : Code := { maxStack := 3, maxLocals := 7, code := jdk_52_method_21_code, exceptionTable := #[], attributes := #[] }
def k24m3 : Method := { name := "compress", desc := "([CI[BII)I", sig := { parameters := [(.array .char), .int, (.array .byte), .int, .int], returnType := some .int }, accessFlags := 9, code := some k24c3 }
/-- java/lang/StringUTF16 -/
def k24 : Class := { plain "java/lang/StringUTF16" (some 0) with
  accessFlags := 48
  interfaces := #[]
  cf := some (fileOf pool24 12 #[.nestMembers #[627, 629, 369]] #[{ accessFlags := 0, nameIndex := 9, descriptorIndex := 10, attributes := #[] }, { accessFlags := 8, nameIndex := 261, descriptorIndex := 262, attributes := #[] }, { accessFlags := 9, nameIndex := 117, descriptorIndex := 122, attributes := #[] }, { accessFlags := 9, nameIndex := 117, descriptorIndex := 118, attributes := #[] }] 48 6 #[] #[{ accessFlags := 26, nameIndex := 61, descriptorIndex := 62, attributes := #[] }, { accessFlags := 26, nameIndex := 65, descriptorIndex := 62, attributes := #[] }, { accessFlags := 24, nameIndex := 430, descriptorIndex := 62, attributes := #[] }, { accessFlags := 4120, nameIndex := 46, descriptorIndex := 47, attributes := #[] }])
  fields := #[{ name := "HI_BYTE_SHIFT", type := .int, accessFlags := 26, slot := 0, constantValue := 0 }, { name := "LO_BYTE_SHIFT", type := .int, accessFlags := 26, slot := 1, constantValue := 0 }, { name := "MAX_LENGTH", type := .int, accessFlags := 24, slot := 2, constantValue := 0 }, { name := "$assertionsDisabled", type := .boolean, accessFlags := 4120, slot := 3, constantValue := 0 }]
  methods := #[k24m0, k24m1, k24m2, k24m3]
  instanceTypes := #[]
  staticTypes := #[.int, .int, .int, .boolean]
  resolved := Array.replicate 635 none
  statics := none }

def pool25 : Array CpInfo := pool [(2, .class_ 4), (1, u "com/example/topf/topf/core/MapValue"), (0, u "<init>"), (0, u "(Ljava/util/List;Ljava/lang/String;)V"), (0, .methodref 8 9), (0, .class_ 10), (0, .nameAndType 11 12), (0, u "com/example/topf/topf/core/AppendedList"), (0, u "of"), (0, u "(Ljava/util/List;)Lcom/example/topf/topf/core/AppendedList;"), (0, .methodref 2 14), (0, .nameAndType 5 15), (0, u "(Lcom/example/topf/topf/core/AppendedList;Ljava/lang/String;Z)V"), (0, .methodref 17 18), (0, .class_ 19), (0, .nameAndType 5 20), (0, u "java/lang/Object"), (0, u "()V"), (0, .fieldref 2 22), (0, .nameAndType 23 24), (0, u "entries"), (0, u "Lcom/example/topf/topf/core/AppendedList;"), (0, .fieldref 2 26), (0, .nameAndType 27 28), (0, u "mapClass"), (0, u "Ljava/lang/String;"), (0, .fieldref 2 30), (0, .nameAndType 31 32), (0, u "merging"), (0, u "Z"), (0, .methodref 8 34), (0, .nameAndType 35 36), (0, u "items"), (0, u "()Ljava/util/List;"), (14, u "()Z"), (9, .class_ 62), (0, u "com/example/topf/topf/core/DefinedValue"), (24, .methodref 8 88), (0, .nameAndType 89 12), (0, u "append"), (8, u "()Lcom/example/topf/topf/core/MapValue;"), (0, u "getEntries"), (1, u "getMapClass"), (0, u "()Ljava/lang/String;"), (2, u "isMerging"), (0, u "inheriting"), (0, u "(Lcom/example/topf/topf/core/DefinedValue;)Lcom/example/topf/topf/core/DefinedValue;")] 6

def k25c0 : Code := { maxStack := 4, maxLocals := 3, code := prog_56_method_2_code, exceptionTable := #[], attributes := #[] }
def k25m0 : Method := { name := "<init>", desc := "(Ljava/util/List;Ljava/lang/String;)V", sig := { parameters := [(.object "java/util/List"), (.object "java/lang/String")], returnType := none }, accessFlags := 1, code := some k25c0 }
def k25c1 : Code := { maxStack := 2, maxLocals := 4, code := prog_56_method_3_code, exceptionTable := #[], attributes := #[] }
def k25m1 : Method := { name := "<init>", desc := "(Lcom/example/topf/topf/core/AppendedList;Ljava/lang/String;Z)V", sig := { parameters := [(.object "com/example/topf/topf/core/AppendedList"), (.object "java/lang/String"), .boolean], returnType := none }, accessFlags := 2, code := some k25c1 }
def k25c2 : Code := { maxStack := 5, maxLocals := 1, code := prog_56_method_4_code, exceptionTable := #[], attributes := #[] }
def k25m2 : Method := { name := "merging", desc := "()Lcom/example/topf/topf/core/MapValue;", sig := { parameters := [], returnType := some (.object "com/example/topf/topf/core/MapValue") }, accessFlags := 1, code := some k25c2 }
def k25c3 : Code := { maxStack := 1, maxLocals := 1, code := prog_56_method_5_code, exceptionTable := #[], attributes := #[] }
def k25m3 : Method := { name := "getEntries", desc := "()Ljava/util/List;", sig := { parameters := [], returnType := some (.object "java/util/List") }, accessFlags := 1, code := some k25c3 }
def k25c4 : Code := { maxStack := 1, maxLocals := 1, code := prog_56_method_6_code, exceptionTable := #[], attributes := #[] }
def k25m4 : Method := { name := "getMapClass", desc := "()Ljava/lang/String;", sig := { parameters := [], returnType := some (.object "java/lang/String") }, accessFlags := 1, code := some k25c4 }
def k25c5 : Code := { maxStack := 1, maxLocals := 1, code := prog_56_method_8_code, exceptionTable := #[], attributes := #[] }
def k25m5 : Method := { name := "isMerging", desc := "()Z", sig := { parameters := [], returnType := some .boolean }, accessFlags := 1, code := some k25c5 }
def k25c6 : Code := { maxStack := 5, maxLocals := 3, code := prog_56_method_9_code, exceptionTable := #[], attributes := #[] }
def k25m6 : Method := { name := "inheriting", desc := "(Lcom/example/topf/topf/core/DefinedValue;)Lcom/example/topf/topf/core/DefinedValue;", sig := { parameters := [(.object "com/example/topf/topf/core/DefinedValue")], returnType := some (.object "com/example/topf/topf/core/DefinedValue") }, accessFlags := 1, code := some k25c6 }
/-- com/example/topf/topf/core/MapValue -/
def k25 : Class := { plain "com/example/topf/topf/core/MapValue" (some 0) with
  accessFlags := 49
  interfaces := #[2]
  cf := some (fileOf pool25 2 #[] #[{ accessFlags := 1, nameIndex := 5, descriptorIndex := 6, attributes := #[] }, { accessFlags := 2, nameIndex := 5, descriptorIndex := 15, attributes := #[] }, { accessFlags := 1, nameIndex := 31, descriptorIndex := 98, attributes := #[] }, { accessFlags := 1, nameIndex := 99, descriptorIndex := 36, attributes := #[] }, { accessFlags := 1, nameIndex := 101, descriptorIndex := 102, attributes := #[] }, { accessFlags := 1, nameIndex := 105, descriptorIndex := 51, attributes := #[] }, { accessFlags := 1, nameIndex := 106, descriptorIndex := 107, attributes := #[] }] 49 17 #[61] #[{ accessFlags := 18, nameIndex := 23, descriptorIndex := 24, attributes := #[] }, { accessFlags := 18, nameIndex := 27, descriptorIndex := 28, attributes := #[] }, { accessFlags := 18, nameIndex := 31, descriptorIndex := 32, attributes := #[] }])
  fields := #[{ name := "entries", type := (.object "com/example/topf/topf/core/AppendedList"), accessFlags := 18, slot := 0, constantValue := 0 }, { name := "mapClass", type := (.object "java/lang/String"), accessFlags := 18, slot := 1, constantValue := 0 }, { name := "merging", type := .boolean, accessFlags := 18, slot := 2, constantValue := 0 }]
  methods := #[k25m0, k25m1, k25m2, k25m3, k25m4, k25m5, k25m6]
  instanceTypes := #[(.object "com/example/topf/topf/core/AppendedList"), (.object "java/lang/String"), .boolean]
  staticTypes := #[]
  resolved := Array.replicate 114 none
  statics := none }

def pool26 : Array CpInfo := pool [(1, .methodref 2 3), (0, .class_ 4), (0, .nameAndType 5 6), (0, u "java/lang/Object"), (0, u "<init>"), (0, u "()V"), (0, .fieldref 8 9), (0, .class_ 10), (0, .nameAndType 11 12), (0, u "com/example/topf/topf/core/AppendedList"), (0, u "first"), (0, u "Lcom/example/topf/topf/core/AppendedList;"), (0, .fieldref 8 14), (0, .nameAndType 15 16), (0, u "last"), (0, u "Ljava/util/List;"), (0, .interfaceMethodref 18 19), (0, .class_ 20), (0, .nameAndType 21 22), (0, u "java/util/List"), (0, u "copyOf"), (0, u "(Ljava/util/Collection;)Ljava/util/List;"), (0, .methodref 8 24), (0, .nameAndType 5 25), (0, u "(Lcom/example/topf/topf/core/AppendedList;Ljava/util/List;)V"), (0, .interfaceMethodref 18 27), (0, .nameAndType 28 29), (0, u "isEmpty"), (0, u "()Z"), (0, .class_ 31), (0, u "java/util/ArrayList"), (0, .methodref 30 3), (0, .interfaceMethodref 18 34), (0, .nameAndType 35 36), (0, u "add"), (0, u "(Ljava/lang/Object;)Z"), (0, .interfaceMethodref 18 38), (0, .nameAndType 39 40), (0, u "size"), (0, u "()I"), (0, .methodref 30 42), (0, .nameAndType 5 43), (0, u "(I)V"), (0, .interfaceMethodref 18 45), (0, .nameAndType 46 47), (0, u "get"), (0, u "(I)Ljava/lang/Object;"), (0, .class_ 49), (0, u "java/util/Collection"), (0, .interfaceMethodref 18 51), (0, .nameAndType 52 53), (0, u "addAll"), (0, u "(Ljava/util/Collection;)Z"), (0, .methodref 55 56), (0, .class_ 57), (0, .nameAndType 58 59), (0, u "java/util/Collections"), (0, u "unmodifiableList"), (0, u "(Ljava/util/List;)Ljava/util/List;"), (6, u "of"), (0, u "(Ljava/util/List;)Lcom/example/topf/topf/core/AppendedList;"), (1, u "append"), (2, u "items"), (0, u "()Ljava/util/List;")] 4

def k26c0 : Code := { maxStack := 2, maxLocals := 3, code := prog_5_method_1_code, exceptionTable := #[], attributes := #[] }
def k26m0 : Method := { name := "<init>", desc := "(Lcom/example/topf/topf/core/AppendedList;Ljava/util/List;)V", sig := { parameters := [(.object "com/example/topf/topf/core/AppendedList"), (.object "java/util/List")], returnType := none }, accessFlags := 2, code := some k26c0 }
def k26c1 : Code := { maxStack := 4, maxLocals := 1, code := prog_5_method_2_code, exceptionTable := #[], attributes := #[] }
def k26m1 : Method := { name := "of", desc := "(Ljava/util/List;)Lcom/example/topf/topf/core/AppendedList;", sig := { parameters := [(.object "java/util/List")], returnType := some (.object "com/example/topf/topf/core/AppendedList") }, accessFlags := 8, code := some k26c1 }
def k26c2 : Code := { maxStack := 4, maxLocals := 3, code := prog_5_method_3_code, exceptionTable := #[], attributes := #[] }
def k26m2 : Method := { name := "append", desc := "(Ljava/util/List;)Lcom/example/topf/topf/core/AppendedList;", sig := { parameters := [(.object "java/util/List")], returnType := some (.object "com/example/topf/topf/core/AppendedList") }, accessFlags := 0, code := some k26c2 }
def k26c3 : Code := { maxStack := 3, maxLocals := 6, code := prog_5_method_4_code, exceptionTable := #[], attributes := #[] }
def k26m3 : Method := { name := "items", desc := "()Ljava/util/List;", sig := { parameters := [], returnType := some (.object "java/util/List") }, accessFlags := 0, code := some k26c3 }
/-- com/example/topf/topf/core/AppendedList -/
def k26 : Class := { plain "com/example/topf/topf/core/AppendedList" (some 0) with
  accessFlags := 32
  interfaces := #[]
  cf := some (fileOf pool26 8 #[] #[{ accessFlags := 2, nameIndex := 5, descriptorIndex := 25, attributes := #[] }, { accessFlags := 8, nameIndex := 66, descriptorIndex := 67, attributes := #[] }, { accessFlags := 0, nameIndex := 69, descriptorIndex := 67, attributes := #[] }, { accessFlags := 0, nameIndex := 72, descriptorIndex := 73, attributes := #[] }] 32 2 #[] #[{ accessFlags := 18, nameIndex := 11, descriptorIndex := 12, attributes := #[] }, { accessFlags := 18, nameIndex := 15, descriptorIndex := 16, attributes := #[] }])
  fields := #[{ name := "first", type := (.object "com/example/topf/topf/core/AppendedList"), accessFlags := 18, slot := 0, constantValue := 0 }, { name := "last", type := (.object "java/util/List"), accessFlags := 18, slot := 1, constantValue := 0 }]
  methods := #[k26m0, k26m1, k26m2, k26m3]
  instanceTypes := #[(.object "com/example/topf/topf/core/AppendedList"), (.object "java/util/List")]
  staticTypes := #[]
  resolved := Array.replicate 78 none
  statics := none }

def pool27 : Array CpInfo := pool [(2, .class_ 4), (1, u "java/lang/Object"), (0, u "<init>"), (0, u "()V"), (3, .class_ 11), (0, u "java/util/ImmutableCollections$List12"), (0, .class_ 13), (0, u "java/util/ImmutableCollections$ListN"), (0, .fieldref 12 15), (0, .nameAndType 16 17), (0, u "allowNulls"), (0, u "Z"), (0, .class_ 19), (0, u "java/util/List"), (0, .interfaceMethodref 21 22), (0, .class_ 23), (0, .nameAndType 24 25), (0, u "java/util/Collection"), (0, u "isEmpty"), (0, u "()Z"), (0, .interfaceMethodref 18 27), (0, .nameAndType 28 29), (0, u "of"), (0, u "()Ljava/util/List;"), (0, .interfaceMethodref 21 31), (0, .nameAndType 32 33), (0, u "toArray"), (0, u "()[Ljava/lang/Object;"), (0, .interfaceMethodref 18 35), (0, .nameAndType 28 36), (0, u "([Ljava/lang/Object;)Ljava/util/List;"), (0, .methodref 38 39), (0, .class_ 40), (0, .nameAndType 41 42), (0, u "java/util/Objects"), (0, u "requireNonNull"), (0, u "(Ljava/lang/Object;)Ljava/lang/Object;"), (0, .methodref 12 44), (0, .nameAndType 5 45), (0, u "([Ljava/lang/Object;Z)V"), (1, .class_ 49), (1, u "java/util/ImmutableCollections"), (0, u "$assertionsDisabled"), (5, u "[Ljava/lang/Object;"), (5, u "EMPTY_LIST"), (0, u "Ljava/util/ImmutableCollections$ListN;"), (8, u "EMPTY_LIST_NULLS"), (22, u "SALT32L"), (0, u "J"), (2, u "REVERSE"), (6, u "archivedObjects"), (2, u "EMPTY"), (0, u "Ljava/lang/Object;"), (0, .class_ 112), (0, u "java/util/ImmutableCollections$SetN"), (5, u "EMPTY_SET"), (0, u "Ljava/util/ImmutableCollections$SetN;"), (0, .class_ 121), (0, u "java/util/ImmutableCollections$MapN"), (3, u "EMPTY_MAP"), (0, u "Ljava/util/ImmutableCollections$MapN;"), (4, u "EXPAND_FACTOR"), (0, u "I"), (9, u "listCopy"), (0, u "(Ljava/util/Collection;)Ljava/util/List;"), (7, u "listFromArray"), (17, .class_ 170), (0, u "java/util/ImmutableCollections$MapN$MapNIterator"), (0, .class_ 172), (0, u "java/util/ImmutableCollections$MapN$1"), (0, .class_ 174), (0, u "java/util/ImmutableCollections$Map1"), (0, .class_ 176), (0, u "java/util/ImmutableCollections$AbstractImmutableMap"), (0, .class_ 178), (0, u "java/util/ImmutableCollections$SetN$SetNIterator"), (0, .class_ 180), (0, u "java/util/ImmutableCollections$Set12"), (0, .class_ 182), (0, u "java/util/ImmutableCollections$Set12$1"), (0, .class_ 184), (0, u "java/util/ImmutableCollections$AbstractImmutableSet"), (0, .class_ 186), (0, u "java/util/ImmutableCollections$SubList"), (0, .class_ 188), (0, u "java/util/ImmutableCollections$ListItr"), (0, .class_ 190), (0, u "java/util/ImmutableCollections$AbstractImmutableList"), (0, .class_ 192), (0, u "java/util/ImmutableCollections$AbstractImmutableCollection"), (0, .class_ 194), (0, u "java/util/ImmutableCollections$Access"), (0, .class_ 196), (0, u "java/util/ImmutableCollections$Access$1")] 16

def k27m0 : Method := { name := "<init>", desc := "()V", sig := { parameters := [], returnType := none }, accessFlags := 2, code := none }
def k27c1 : Code := { maxStack := 1, maxLocals := 2, code := jdk_56_method_3_code, exceptionTable := #[], attributes := #[] }
def k27m1 : Method := { name := "listCopy", desc := "(Ljava/util/Collection;)Ljava/util/List;", sig := { parameters := [(.object "java/util/Collection")], returnType := some (.object "java/util/List") }, accessFlags := 8, code := some k27c1 }
def k27c2 : Code := { maxStack := 4, maxLocals := 3, code := jdk_56_method_4_code, exceptionTable := #[], attributes := #[] }
def k27m2 : Method := { name := "listFromArray", desc := "([Ljava/lang/Object;)Ljava/util/List;", sig := { parameters := [(.array (.object "java/lang/Object"))], returnType := some (.object "java/util/List") }, accessFlags := 136, code := some k27c2 }
/-- java/util/ImmutableCollections -/
def k27 : Class := { plain "java/util/ImmutableCollections" (some 0) with
  accessFlags := 32
  interfaces := #[]
  cf := some (fileOf pool27 47 #[.nestMembers #[120, 169, 171, 173, 175, 111, 177, 179, 181, 183, 12, 10, 185, 187, 189, 191, 193, 195]] #[{ accessFlags := 2, nameIndex := 5, descriptorIndex := 6, attributes := #[] }, { accessFlags := 8, nameIndex := 142, descriptorIndex := 143, attributes := #[] }, { accessFlags := 136, nameIndex := 151, descriptorIndex := 36, attributes := #[] }] 32 2 #[] #[{ accessFlags := 26, nameIndex := 95, descriptorIndex := 96, attributes := #[] }, { accessFlags := 26, nameIndex := 99, descriptorIndex := 17, attributes := #[] }, { accessFlags := 10, nameIndex := 106, descriptorIndex := 56, attributes := #[] }, { accessFlags := 26, nameIndex := 109, descriptorIndex := 110, attributes := #[] }, { accessFlags := 24, nameIndex := 62, descriptorIndex := 63, attributes := #[] }, { accessFlags := 24, nameIndex := 72, descriptorIndex := 63, attributes := #[] }, { accessFlags := 24, nameIndex := 118, descriptorIndex := 119, attributes := #[] }, { accessFlags := 24, nameIndex := 125, descriptorIndex := 126, attributes := #[] }, { accessFlags := 24, nameIndex := 131, descriptorIndex := 132, attributes := #[] }, { accessFlags := 4120, nameIndex := 50, descriptorIndex := 17, attributes := #[] }])
  fields := #[{ name := "SALT32L", type := .long, accessFlags := 26, slot := 0, constantValue := 0 }, { name := "REVERSE", type := .boolean, accessFlags := 26, slot := 1, constantValue := 0 }, { name := "archivedObjects", type := (.array (.object "java/lang/Object")), accessFlags := 10, slot := 2, constantValue := 0 }, { name := "EMPTY", type := (.object "java/lang/Object"), accessFlags := 26, slot := 3, constantValue := 0 }, { name := "EMPTY_LIST", type := (.object "java/util/ImmutableCollections$ListN"), accessFlags := 24, slot := 4, constantValue := 0 }, { name := "EMPTY_LIST_NULLS", type := (.object "java/util/ImmutableCollections$ListN"), accessFlags := 24, slot := 5, constantValue := 0 }, { name := "EMPTY_SET", type := (.object "java/util/ImmutableCollections$SetN"), accessFlags := 24, slot := 6, constantValue := 0 }, { name := "EMPTY_MAP", type := (.object "java/util/ImmutableCollections$MapN"), accessFlags := 24, slot := 7, constantValue := 0 }, { name := "EXPAND_FACTOR", type := .int, accessFlags := 24, slot := 8, constantValue := 0 }, { name := "$assertionsDisabled", type := .boolean, accessFlags := 4120, slot := 9, constantValue := 0 }]
  methods := #[k27m0, k27m1, k27m2]
  instanceTypes := #[]
  staticTypes := #[.long, .boolean, (.array (.object "java/lang/Object")), (.object "java/lang/Object"), (.object "java/util/ImmutableCollections$ListN"), (.object "java/util/ImmutableCollections$ListN"), (.object "java/util/ImmutableCollections$SetN"), (.object "java/util/ImmutableCollections$MapN"), .int, .boolean]
  resolved := Array.replicate 213 none
  statics := some 3 }

def pool28 : Array CpInfo := pool [(1, .methodref 2 3), (0, .class_ 4), (0, .nameAndType 5 6), (0, u "java/util/AbstractCollection"), (0, u "<init>"), (0, u "()V"), (1, .class_ 10), (1, u "java/util/ImmutableCollections"), (2, .class_ 14), (0, u "java/util/ImmutableCollections$AbstractImmutableCollection")] 41

def k28c0 : Code := { maxStack := 1, maxLocals := 1, code := jdk_47_method_1_code, exceptionTable := #[], attributes := #[] }
def k28m0 : Method := { name := "<init>", desc := "()V", sig := { parameters := [], returnType := none }, accessFlags := 0, code := some k28c0 }
/-- java/util/ImmutableCollections$AbstractImmutableCollection -/
def k28 : Class := { plain "java/util/ImmutableCollections$AbstractImmutableCollection" (some 10) with
  accessFlags := 1056
  interfaces := #[]
  cf := some (fileOf pool28 13 #[.nestHost 8] #[{ accessFlags := 0, nameIndex := 5, descriptorIndex := 6, attributes := #[] }] 1056 2 #[] #[])
  fields := #[]
  methods := #[k28m0]
  instanceTypes := #[]
  staticTypes := #[]
  resolved := Array.replicate 56 none
  statics := none }

def pool29 : Array CpInfo := pool [(1, .methodref 2 3), (0, .class_ 4), (0, .nameAndType 5 6), (0, u "java/util/ImmutableCollections$AbstractImmutableCollection"), (0, u "<init>"), (0, u "()V"), (1, .class_ 10), (1, u "java/util/ImmutableCollections"), (3, .class_ 16), (1, u "java/util/ImmutableCollections$AbstractImmutableList"), (60, .class_ 78), (0, u "java/util/List"), (45, .class_ 125), (0, u "java/util/RandomAccess")] 70

def k29c0 : Code := { maxStack := 1, maxLocals := 1, code := jdk_46_method_1_code, exceptionTable := #[], attributes := #[] }
def k29m0 : Method := { name := "<init>", desc := "()V", sig := { parameters := [], returnType := none }, accessFlags := 0, code := some k29c0 }
/-- java/util/ImmutableCollections$AbstractImmutableList -/
def k29 : Class := { plain "java/util/ImmutableCollections$AbstractImmutableList" (some 28) with
  accessFlags := 1056
  interfaces := #[12, 14]
  cf := some (fileOf pool29 14 #[.nestHost 8] #[{ accessFlags := 0, nameIndex := 5, descriptorIndex := 6, attributes := #[] }] 1056 2 #[77, 124] #[])
  fields := #[]
  methods := #[k29m0]
  instanceTypes := #[]
  staticTypes := #[]
  resolved := Array.replicate 196 none
  statics := none }

def pool30 : Array CpInfo := pool [(1, .methodref 2 3), (0, .class_ 4), (0, .nameAndType 5 6), (0, u "java/util/ImmutableCollections$AbstractImmutableList"), (0, u "<init>"), (0, u "()V"), (0, .methodref 8 9), (0, .class_ 10), (0, .nameAndType 11 12), (0, u "java/util/Objects"), (0, u "requireNonNull"), (0, u "(Ljava/lang/Object;)Ljava/lang/Object;"), (0, .fieldref 14 15), (0, .class_ 16), (0, .nameAndType 17 18), (0, u "java/util/ImmutableCollections$List12"), (0, u "e0"), (0, u "Ljava/lang/Object;"), (0, .fieldref 20 21), (0, .class_ 22), (0, .nameAndType 23 18), (0, u "java/util/ImmutableCollections"), (0, u "EMPTY"), (0, .fieldref 14 25), (0, .nameAndType 26 18), (0, u "e1"), (5, .class_ 34), (1, u "java/lang/Object"), (16, u "size"), (0, u "()I"), (17, .class_ 71), (0, u "java/io/Serializable"), (4, u "(Ljava/lang/Object;)V"), (8, u "(Ljava/lang/Object;Ljava/lang/Object;)V"), (2, u "isEmpty"), (0, u "()Z"), (0, u "get"), (0, u "(I)Ljava/lang/Object;"), (18, u "toArray"), (0, u "()[Ljava/lang/Object;")] 13

def k30c0 : Code := { maxStack := 2, maxLocals := 2, code := jdk_44_method_1_code, exceptionTable := #[], attributes := #[] }
def k30m0 : Method := { name := "<init>", desc := "(Ljava/lang/Object;)V", sig := { parameters := [(.object "java/lang/Object")], returnType := none }, accessFlags := 0, code := some k30c0 }
def k30c1 : Code := { maxStack := 2, maxLocals := 3, code := jdk_44_method_2_code, exceptionTable := #[], attributes := #[] }
def k30m1 : Method := { name := "<init>", desc := "(Ljava/lang/Object;Ljava/lang/Object;)V", sig := { parameters := [(.object "java/lang/Object"), (.object "java/lang/Object")], returnType := none }, accessFlags := 0, code := some k30c1 }
def k30c2 : Code := { maxStack := 2, maxLocals := 1, code := jdk_44_method_3_code, exceptionTable := #[], attributes := #[] }
def k30m2 : Method := { name := "size", desc := "()I", sig := { parameters := [], returnType := some .int }, accessFlags := 1, code := some k30c2 }
def k30c3 : Code := { maxStack := 1, maxLocals := 1, code := jdk_44_method_4_code, exceptionTable := #[], attributes := #[] }
def k30m3 : Method := { name := "isEmpty", desc := "()Z", sig := { parameters := [], returnType := some .boolean }, accessFlags := 1, code := some k30c3 }
def k30c4 : Code := { maxStack := 2, maxLocals := 2, code := jdk_44_method_5_code, exceptionTable := #[], attributes := #[] }
def k30m4 : Method := { name := "get", desc := "(I)Ljava/lang/Object;", sig := { parameters := [.int], returnType := some (.object "java/lang/Object") }, accessFlags := 1, code := some k30c4 }
def k30c5 : Code := { maxStack := 4, maxLocals := 1, code := jdk_44_method_10_code, exceptionTable := #[], attributes := #[] }
def k30m5 : Method := { name := "toArray", desc := "()[Ljava/lang/Object;", sig := { parameters := [], returnType := some (.array (.object "java/lang/Object")) }, accessFlags := 1, code := some k30c5 }
/-- java/util/ImmutableCollections$List12 -/
def k30 : Class := { plain "java/util/ImmutableCollections$List12" (some 29) with
  accessFlags := 48
  interfaces := #[16]
  cf := some (fileOf pool30 14 #[.nestHost 20] #[{ accessFlags := 0, nameIndex := 5, descriptorIndex := 76, attributes := #[] }, { accessFlags := 0, nameIndex := 5, descriptorIndex := 85, attributes := #[] }, { accessFlags := 1, nameIndex := 51, descriptorIndex := 52, attributes := #[] }, { accessFlags := 1, nameIndex := 88, descriptorIndex := 89, attributes := #[] }, { accessFlags := 1, nameIndex := 90, descriptorIndex := 91, attributes := #[] }, { accessFlags := 1, nameIndex := 110, descriptorIndex := 111, attributes := #[] }] 48 2 #[70] #[{ accessFlags := 18, nameIndex := 17, descriptorIndex := 18, attributes := #[] }, { accessFlags := 18, nameIndex := 26, descriptorIndex := 18, attributes := #[] }])
  fields := #[{ name := "e0", type := (.object "java/lang/Object"), accessFlags := 18, slot := 0, constantValue := 0 }, { name := "e1", type := (.object "java/lang/Object"), accessFlags := 18, slot := 1, constantValue := 0 }]
  methods := #[k30m0, k30m1, k30m2, k30m3, k30m4, k30m5]
  instanceTypes := #[(.object "java/lang/Object"), (.object "java/lang/Object")]
  staticTypes := #[]
  resolved := Array.replicate 125 none
  statics := none }

def pool31 : Array CpInfo := pool [(1, .methodref 2 3), (0, .class_ 4), (0, .nameAndType 5 6), (0, u "java/util/ImmutableCollections$AbstractImmutableList"), (0, u "<init>"), (0, u "()V"), (0, .fieldref 8 9), (0, .class_ 10), (0, .nameAndType 11 12), (0, u "java/util/ImmutableCollections$ListN"), (0, u "elements"), (0, u "[Ljava/lang/Object;"), (0, .fieldref 8 14), (0, .nameAndType 15 16), (0, u "allowNulls"), (0, u "Z"), (12, .methodref 30 31), (0, .class_ 32), (0, .nameAndType 33 34), (0, u "java/util/Arrays"), (0, u "copyOf"), (0, u "([Ljava/lang/Object;I)[Ljava/lang/Object;"), (24, .class_ 60), (0, u "java/io/Serializable"), (4, u "([Ljava/lang/Object;Z)V"), (8, u "isEmpty"), (0, u "()Z"), (1, u "size"), (0, u "()I"), (0, u "get"), (0, u "(I)Ljava/lang/Object;"), (14, u "toArray"), (0, u "()[Ljava/lang/Object;"), (17, .class_ 115), (0, u "java/util/ImmutableCollections")] 3

def k31c0 : Code := { maxStack := 2, maxLocals := 3, code := jdk_45_method_1_code, exceptionTable := #[], attributes := #[] }
def k31m0 : Method := { name := "<init>", desc := "([Ljava/lang/Object;Z)V", sig := { parameters := [(.array (.object "java/lang/Object")), .boolean], returnType := none }, accessFlags := 2, code := some k31c0 }
def k31c1 : Code := { maxStack := 1, maxLocals := 1, code := jdk_45_method_2_code, exceptionTable := #[], attributes := #[] }
def k31m1 : Method := { name := "isEmpty", desc := "()Z", sig := { parameters := [], returnType := some .boolean }, accessFlags := 1, code := some k31c1 }
def k31c2 : Code := { maxStack := 1, maxLocals := 1, code := jdk_45_method_3_code, exceptionTable := #[], attributes := #[] }
def k31m2 : Method := { name := "size", desc := "()I", sig := { parameters := [], returnType := some .int }, accessFlags := 1, code := some k31c2 }
def k31c3 : Code := { maxStack := 2, maxLocals := 2, code := jdk_45_method_4_code, exceptionTable := #[], attributes := #[] }
def k31m3 : Method := { name := "get", desc := "(I)Ljava/lang/Object;", sig := { parameters := [.int], returnType := some (.object "java/lang/Object") }, accessFlags := 1, code := some k31c3 }
def k31c4 : Code := { maxStack := 2, maxLocals := 1, code := jdk_45_method_7_code, exceptionTable := #[], attributes := #[] }
def k31m4 : Method := { name := "toArray", desc := "()[Ljava/lang/Object;", sig := { parameters := [], returnType := some (.array (.object "java/lang/Object")) }, accessFlags := 1, code := some k31c4 }
/-- java/util/ImmutableCollections$ListN -/
def k31 : Class := { plain "java/util/ImmutableCollections$ListN" (some 29) with
  accessFlags := 48
  interfaces := #[16]
  cf := some (fileOf pool31 8 #[.nestHost 114] #[{ accessFlags := 2, nameIndex := 5, descriptorIndex := 65, attributes := #[] }, { accessFlags := 1, nameIndex := 74, descriptorIndex := 75, attributes := #[] }, { accessFlags := 1, nameIndex := 77, descriptorIndex := 78, attributes := #[] }, { accessFlags := 1, nameIndex := 79, descriptorIndex := 80, attributes := #[] }, { accessFlags := 1, nameIndex := 95, descriptorIndex := 96, attributes := #[] }] 48 2 #[59] #[{ accessFlags := 18, nameIndex := 11, descriptorIndex := 12, attributes := #[] }, { accessFlags := 18, nameIndex := 15, descriptorIndex := 16, attributes := #[] }])
  fields := #[{ name := "elements", type := (.array (.object "java/lang/Object")), accessFlags := 18, slot := 0, constantValue := 0 }, { name := "allowNulls", type := .boolean, accessFlags := 18, slot := 1, constantValue := 0 }]
  methods := #[k31m0, k31m1, k31m2, k31m3, k31m4]
  instanceTypes := #[(.array (.object "java/lang/Object")), .boolean]
  staticTypes := #[]
  resolved := Array.replicate 119 none
  statics := none }

def pool32 : Array CpInfo := pool [(2, .class_ 4), (1, u "java/lang/Object"), (0, u "<init>"), (0, u "()V"), (7, .class_ 16), (1, u "java/util/Arrays"), (57, .class_ 76), (1, u "java/util/Arrays$NaturalOrder"), (9, .methodref 2 87), (0, .nameAndType 88 89), (0, u "getClass"), (0, u "()Ljava/lang/Class;"), (20, .class_ 111), (0, u "[Ljava/lang/Object;"), (1, .class_ 115), (1, u "java/util/Arrays$LegacyMergeSort"), (1, u "Z"), (32, .methodref 151 152), (0, .class_ 153), (0, .nameAndType 154 155), (0, u "java/lang/System"), (0, u "arraycopy"), (0, u "(Ljava/lang/Object;ILjava/lang/Object;II)V"), (144, .methodref 14 301), (0, .nameAndType 302 303), (0, u "copyOf"), (0, u "([Ljava/lang/Object;ILjava/lang/Class;)[Ljava/lang/Object;"), (0, .methodref 305 306), (0, .class_ 307), (0, .nameAndType 308 309), (0, u "java/lang/Math"), (0, u "min"), (0, u "(II)I"), (65, .class_ 376), (0, u "java/util/Arrays$ArrayList"), (68, u "$assertionsDisabled"), (269, u "MIN_ARRAY_SORT_GRAN"), (0, u "I"), (2, u "INSERTIONSORT_THRESHOLD"), (140, u "([Ljava/lang/Object;I)[Ljava/lang/Object;"), (114, .class_ 976), (0, u "java/util/Arrays$ArrayItr")] 52

def k32m0 : Method := { name := "<init>", desc := "()V", sig := { parameters := [], returnType := none }, accessFlags := 2, code := none }
def k32c1 : Code := { maxStack := 3, maxLocals := 2, code := jdk_65_method_119_code, exceptionTable := #[], attributes := #[] }
def k32m1 : Method := { name := "copyOf", desc := "([Ljava/lang/Object;I)[Ljava/lang/Object;", sig := { parameters := [(.array (.object "java/lang/Object")), .int], returnType := some (.array (.object "java/lang/Object")) }, accessFlags := 9, code := some k32c1 }
def k32c2 : Code := { maxStack := 6, maxLocals := 4, code := jdk_65_method_120_code, exceptionTable := #[], attributes := #[] }
def k32m2 : Method := { name := "copyOf", desc := "([Ljava/lang/Object;ILjava/lang/Class;)[Ljava/lang/Object;", sig := { parameters := [(.array (.object "java/lang/Object")), .int, (.object "java/lang/Class")], returnType := some (.array (.object "java/lang/Object")) }, accessFlags := 9, code := some k32c2 }
/-- java/util/Arrays -/
def k32 : Class := { plain "java/util/Arrays" (some 0) with
  accessFlags := 49
  interfaces := #[]
  cf := some (fileOf pool32 14 #[.nestMembers #[975, 375, 113, 74]] #[{ accessFlags := 2, nameIndex := 5, descriptorIndex := 6, attributes := #[] }, { accessFlags := 9, nameIndex := 302, descriptorIndex := 860, attributes := #[] }, { accessFlags := 9, nameIndex := 302, descriptorIndex := 303, attributes := #[] }] 49 2 #[] #[{ accessFlags := 26, nameIndex := 715, descriptorIndex := 716, attributes := #[] }, { accessFlags := 26, nameIndex := 719, descriptorIndex := 716, attributes := #[] }, { accessFlags := 4120, nameIndex := 445, descriptorIndex := 117, attributes := #[] }])
  fields := #[{ name := "MIN_ARRAY_SORT_GRAN", type := .int, accessFlags := 26, slot := 0, constantValue := 0 }, { name := "INSERTIONSORT_THRESHOLD", type := .int, accessFlags := 26, slot := 1, constantValue := 0 }, { name := "$assertionsDisabled", type := .boolean, accessFlags := 4120, slot := 2, constantValue := 0 }]
  methods := #[k32m0, k32m1, k32m2]
  instanceTypes := #[]
  staticTypes := #[.int, .int, .boolean]
  resolved := Array.replicate 1029 none
  statics := none }

def pool33 : Array CpInfo := pool [(2, .class_ 4), (1, u "java/lang/Object"), (0, u "<init>"), (0, u "()V"), (1, .class_ 10), (1, u "java/lang/System"), (0, u "allowSecurityManager"), (0, u "I"), (16, u "cons"), (0, u "Ljava/io/Console;"), (77, .class_ 110), (1, u "java/lang/System$CallersHolder"), (43, u "initialErrStream"), (0, u "Ljava/io/PrintStream;"), (19, u "security"), (0, u "Ljava/lang/SecurityManager;"), (31, .class_ 209), (0, u "java/lang/System$1"), (7, u "props"), (0, u "Ljava/util/Properties;"), (2, u "lineSeparator"), (0, u "Ljava/lang/String;"), (96, .class_ 321), (1, u "java/lang/System$LoggerFinder"), (5, .class_ 328), (0, u "java/lang/System$Logger"), (67, u "err"), (2, u "out"), (91, u "notSupportedJnuEncoding"), (15, u "in"), (17, u "initialIn"), (0, u "Ljava/io/InputStream;"), (35, u "bootLayer"), (0, u "Ljava/lang/ModuleLayer;"), (99, .class_ 664), (0, u "java/lang/System$2"), (9, u "NEVER"), (2, u "MAYBE"), (49, u "arraycopy"), (0, u "(Ljava/lang/Object;ILjava/lang/Object;II)V"), (72, .class_ 802), (0, u "java/lang/System$Logger$Level")] 31

def k33m0 : Method := { name := "<init>", desc := "()V", sig := { parameters := [], returnType := none }, accessFlags := 2, code := none }
def k33m1 : Method := { name := "arraycopy", desc := "(Ljava/lang/Object;ILjava/lang/Object;II)V", sig := { parameters := [(.object "java/lang/Object"), .int, (.object "java/lang/Object"), .int, .int], returnType := none }, accessFlags := 265, code := none }
/-- java/lang/System -/
def k33 : Class := { plain "java/lang/System" (some 0) with
  accessFlags := 49
  interfaces := #[]
  cf := some (fileOf pool33 8 #[.nestMembers #[319, 327, 801, 108, 663, 208]] #[{ accessFlags := 2, nameIndex := 5, descriptorIndex := 6, attributes := #[] }, { accessFlags := 265, nameIndex := 727, descriptorIndex := 728, attributes := #[] }] 49 2 #[] #[{ accessFlags := 25, nameIndex := 507, descriptorIndex := 526, attributes := #[] }, { accessFlags := 25, nameIndex := 399, descriptorIndex := 155, attributes := #[] }, { accessFlags := 25, nameIndex := 396, descriptorIndex := 155, attributes := #[] }, { accessFlags := 10, nameIndex := 525, descriptorIndex := 526, attributes := #[] }, { accessFlags := 26, nameIndex := 674, descriptorIndex := 12, attributes := #[] }, { accessFlags := 26, nameIndex := 677, descriptorIndex := 12, attributes := #[] }, { accessFlags := 10, nameIndex := 11, descriptorIndex := 12, attributes := #[] }, { accessFlags := 74, nameIndex := 175, descriptorIndex := 176, attributes := #[] }, { accessFlags := 10, nameIndex := 491, descriptorIndex := 222, attributes := #[] }, { accessFlags := 74, nameIndex := 29, descriptorIndex := 30, attributes := #[] }, { accessFlags := 74, nameIndex := 154, descriptorIndex := 155, attributes := #[] }, { accessFlags := 10, nameIndex := 217, descriptorIndex := 218, attributes := #[] }, { accessFlags := 10, nameIndex := 221, descriptorIndex := 222, attributes := #[] }, { accessFlags := 8, nameIndex := 562, descriptorIndex := 563, attributes := #[] }])
  fields := #[{ name := "in", type := (.object "java/io/InputStream"), accessFlags := 25, slot := 0, constantValue := 0 }, { name := "out", type := (.object "java/io/PrintStream"), accessFlags := 25, slot := 1, constantValue := 0 }, { name := "err", type := (.object "java/io/PrintStream"), accessFlags := 25, slot := 2, constantValue := 0 }, { name := "initialIn", type := (.object "java/io/InputStream"), accessFlags := 10, slot := 3, constantValue := 0 }, { name := "NEVER", type := .int, accessFlags := 26, slot := 4, constantValue := 0 }, { name := "MAYBE", type := .int, accessFlags := 26, slot := 5, constantValue := 0 }, { name := "allowSecurityManager", type := .int, accessFlags := 10, slot := 6, constantValue := 0 }, { name := "security", type := (.object "java/lang/SecurityManager"), accessFlags := 74, slot := 7, constantValue := 0 }, { name := "notSupportedJnuEncoding", type := (.object "java/lang/String"), accessFlags := 10, slot := 8, constantValue := 0 }, { name := "cons", type := (.object "java/io/Console"), accessFlags := 74, slot := 9, constantValue := 0 }, { name := "initialErrStream", type := (.object "java/io/PrintStream"), accessFlags := 74, slot := 10, constantValue := 0 }, { name := "props", type := (.object "java/util/Properties"), accessFlags := 10, slot := 11, constantValue := 0 }, { name := "lineSeparator", type := (.object "java/lang/String"), accessFlags := 10, slot := 12, constantValue := 0 }, { name := "bootLayer", type := (.object "java/lang/ModuleLayer"), accessFlags := 8, slot := 13, constantValue := 0 }]
  methods := #[k33m0, k33m1]
  instanceTypes := #[]
  staticTypes := #[(.object "java/io/InputStream"), (.object "java/io/PrintStream"), (.object "java/io/PrintStream"), (.object "java/io/InputStream"), .int, .int, .int, (.object "java/lang/SecurityManager"), (.object "java/lang/String"), (.object "java/io/Console"), (.object "java/io/PrintStream"), (.object "java/util/Properties"), (.object "java/lang/String"), (.object "java/lang/ModuleLayer")]
  resolved := Array.replicate 834 none
  statics := none }

def pool34 : Array CpInfo := pool [(2, .class_ 4), (1, u "java/lang/Object"), (0, u "<init>"), (0, u "()V"), (17, .class_ 26), (1, u "jdk/internal/util/Preconditions"), (6, u "checkIndex"), (21, .class_ 56), (0, u "jdk/internal/util/Preconditions$4"), (57, .class_ 115), (0, u "jdk/internal/util/Preconditions$1"), (7, u "SIOOBE_FORMATTER"), (0, u "Ljava/util/function/BiFunction;"), (0, .class_ 126), (0, u "jdk/internal/util/Preconditions$2"), (3, u "AIOOBE_FORMATTER"), (0, .class_ 132), (0, u "jdk/internal/util/Preconditions$3"), (3, u "IOOBE_FORMATTER"), (41, u "(IILjava/util/function/BiFunction;)I")] 15

def k34m0 : Method := { name := "<init>", desc := "()V", sig := { parameters := [], returnType := none }, accessFlags := 1, code := none }
def k34c1 : Code := { maxStack := 3, maxLocals := 3, code := jdk_41_method_11_code, exceptionTable := #[], attributes := #[] }
def k34m1 : Method := { name := "checkIndex", desc := "(IILjava/util/function/BiFunction;)I", sig := { parameters := [.int, .int, (.object "java/util/function/BiFunction")], returnType := some .int }, accessFlags := 9, code := some k34c1 }
/-- jdk/internal/util/Preconditions -/
def k34 : Class := { plain "jdk/internal/util/Preconditions" (some 0) with
  accessFlags := 33
  interfaces := #[]
  cf := some (fileOf pool34 24 #[.nestMembers #[55, 131, 125, 114]] #[{ accessFlags := 1, nameIndex := 5, descriptorIndex := 6, attributes := #[] }, { accessFlags := 9, nameIndex := 33, descriptorIndex := 178, attributes := #[] }] 33 2 #[] #[{ accessFlags := 25, nameIndex := 123, descriptorIndex := 124, attributes := #[] }, { accessFlags := 25, nameIndex := 130, descriptorIndex := 124, attributes := #[] }, { accessFlags := 25, nameIndex := 136, descriptorIndex := 124, attributes := #[] }])
  fields := #[{ name := "SIOOBE_FORMATTER", type := (.object "java/util/function/BiFunction"), accessFlags := 25, slot := 0, constantValue := 0 }, { name := "AIOOBE_FORMATTER", type := (.object "java/util/function/BiFunction"), accessFlags := 25, slot := 1, constantValue := 0 }, { name := "IOOBE_FORMATTER", type := (.object "java/util/function/BiFunction"), accessFlags := 25, slot := 2, constantValue := 0 }]
  methods := #[k34m0, k34m1]
  instanceTypes := #[]
  staticTypes := #[(.object "java/util/function/BiFunction"), (.object "java/util/function/BiFunction"), (.object "java/util/function/BiFunction")]
  resolved := Array.replicate 194 none
  statics := some 4 }

def pool35 : Array CpInfo := pool [(2, .class_ 4), (1, u "java/lang/Object"), (0, u "<init>"), (0, u "()V"), (1, .class_ 10), (1, u "java/util/List"), (2, .class_ 14), (0, u "java/util/RandomAccess"), (4, .class_ 20), (0, u "java/util/Collections"), (63, u "r"), (0, u "Ljava/util/Random;"), (67, u "(Ljava/util/List;)V"), (9, .nameAndType 164 165), (0, u "getClass"), (0, u "()Ljava/lang/Class;"), (0, .class_ 167), (0, u "java/util/Collections$UnmodifiableCollection"), (6, .class_ 175), (0, u "java/util/Collections$UnmodifiableSequencedCollection"), (6, .class_ 183), (0, u "java/util/Collections$UnmodifiableSet"), (6, .class_ 191), (0, u "java/util/Collections$UnmodifiableSequencedSet"), (6, .class_ 199), (0, u "java/util/Collections$UnmodifiableSortedSet"), (6, .class_ 207), (0, u "java/util/Collections$UnmodifiableNavigableSet"), (3, .interfaceMethodref 8 163), (0, .class_ 213), (0, u "java/util/Collections$UnmodifiableList"), (0, .interfaceMethodref 8 163), (0, .class_ 216), (0, u "java/util/Collections$UnmodifiableRandomAccessList"), (0, .methodref 215 218), (0, .nameAndType 5 153), (4, .class_ 224), (0, u "java/util/Collections$UnmodifiableMap"), (6, .class_ 232), (0, u "java/util/Collections$UnmodifiableSequencedMap"), (4, .class_ 238), (0, u "java/util/Collections$UnmodifiableSortedMap"), (6, .class_ 246), (0, u "java/util/Collections$UnmodifiableNavigableMap"), (3, .class_ 251), (0, u "java/util/Collections$SynchronizedCollection"), (4, .class_ 257), (0, u "java/util/Collections$SynchronizedSet"), (4, .class_ 263), (0, u "java/util/Collections$SynchronizedSortedSet"), (1, .class_ 266), (0, u "java/util/Collections$SynchronizedNavigableSet"), (1, .class_ 269), (0, u "java/util/Collections$SynchronizedRandomAccessList"), (1, .class_ 272), (0, u "java/util/Collections$SynchronizedList"), (5, .class_ 279), (0, u "java/util/Collections$SynchronizedMap"), (1, .class_ 282), (0, u "java/util/Collections$SynchronizedSortedMap"), (1, .class_ 285), (0, u "java/util/Collections$SynchronizedNavigableMap"), (1, .class_ 288), (0, u "java/util/Collections$CheckedCollection"), (11, .class_ 301), (0, u "java/util/Collections$CheckedQueue"), (3, .class_ 306), (0, u "java/util/Collections$CheckedSet"), (3, .class_ 311), (0, u "java/util/Collections$CheckedSortedSet"), (3, .class_ 316), (0, u "java/util/Collections$CheckedNavigableSet"), (3, .class_ 321), (0, u "java/util/Collections$CheckedRandomAccessList"), (3, .class_ 326), (0, u "java/util/Collections$CheckedList"), (1, .class_ 329), (0, u "java/util/Collections$CheckedMap"), (3, .class_ 334), (0, u "java/util/Collections$CheckedSortedMap"), (3, .class_ 339), (0, u "java/util/Collections$CheckedNavigableMap"), (4, .class_ 346), (1, u "java/util/Collections$EmptyIterator"), (3, .class_ 352), (1, u "java/util/Collections$EmptyListIterator"), (2, .class_ 357), (1, u "java/util/Collections$EmptyEnumeration"), (4, u "EMPTY_SET"), (0, u "Ljava/util/Set;"), (6, u "EMPTY_LIST"), (0, u "Ljava/util/List;"), (2, u "EMPTY_MAP"), (0, u "Ljava/util/Map;"), (4, .class_ 381), (0, u "java/util/Collections$SingletonSet"), (2, .class_ 385), (0, u "java/util/Collections$1"), (1, .class_ 388), (0, u "java/util/Collections$2"), (1, .class_ 391), (0, u "java/util/Collections$SingletonList"), (1, .class_ 394), (0, u "java/util/Collections$SingletonMap"), (22, .class_ 418), (0, u "java/util/Collections$CopiesList"), (4, .class_ 425), (1, u "java/util/Collections$ReverseComparator"), (8, .class_ 435), (0, u "java/util/Collections$ReverseComparator2"), (6, .class_ 443), (0, u "java/util/Collections$3"), (25, .class_ 470), (0, u "java/util/Collections$SetFromMap"), (2, .class_ 474), (0, u "java/util/Collections$SequencedSetFromMap"), (3, .class_ 479), (0, u "java/util/Collections$AsLIFOQueue"), (11, .class_ 492), (0, u "java/util/Collections$EmptySet"), (1, .class_ 495), (0, u "java/util/Collections$EmptyList"), (1, .class_ 498), (0, u "java/util/Collections$EmptyMap"), (1, u "BINARYSEARCH_THRESHOLD"), (0, u "I"), (2, u "REVERSE_THRESHOLD"), (1, u "SHUFFLE_THRESHOLD"), (1, u "FILL_THRESHOLD"), (1, u "ROTATE_THRESHOLD"), (1, u "COPY_THRESHOLD"), (1, u "REPLACEALL_THRESHOLD"), (1, u "INDEXOFSUBLIST_THRESHOLD"), (129, u "unmodifiableList"), (0, u "(Ljava/util/List;)Ljava/util/List;"), (202, .class_ 851), (0, u "java/util/Collections$CheckedMap$CheckedEntrySet"), (0, .class_ 853), (0, u "java/util/Collections$CheckedMap$CheckedEntrySet$CheckedEntry"), (0, .class_ 855), (0, u "java/util/Collections$CheckedMap$CheckedEntrySet$1"), (0, .class_ 857), (0, u "java/util/Collections$CheckedList$1"), (0, .class_ 859), (0, u "java/util/Collections$CheckedCollection$1"), (0, .class_ 861), (0, u "java/util/Collections$UnmodifiableNavigableMap$EmptyNavigableMap"), (0, .class_ 863), (0, u "java/util/Collections$UnmodifiableMap$UnmodifiableEntrySet"), (0, .class_ 865), (0, u "java/util/Collections$UnmodifiableMap$UnmodifiableEntrySet$UnmodifiableEntry"), (0, .class_ 867), (0, u "java/util/Collections$UnmodifiableMap$UnmodifiableEntrySet$UnmodifiableEntrySetSpliterator"), (0, .class_ 869), (0, u "java/util/Collections$UnmodifiableMap$UnmodifiableEntrySet$1"), (0, .class_ 871), (0, u "java/util/Collections$UnmodifiableList$1"), (0, .class_ 873), (0, u "java/util/Collections$UnmodifiableNavigableSet$EmptyNavigableSet"), (0, .class_ 875), (0, u "java/util/Collections$UnmodifiableCollection$1")] 57

def k35m0 : Method := { name := "<init>", desc := "()V", sig := { parameters := [], returnType := none }, accessFlags := 2, code := none }
def k35c1 : Code := { maxStack := 3, maxLocals := 1, code := jdk_79_method_35_code, exceptionTable := #[], attributes := #[] }
def k35m1 : Method := { name := "unmodifiableList", desc := "(Ljava/util/List;)Ljava/util/List;", sig := { parameters := [(.object "java/util/List")], returnType := some (.object "java/util/List") }, accessFlags := 9, code := some k35c1 }
/-- java/util/Collections -/
def k35 : Class := { plain "java/util/Collections" (some 0) with
  accessFlags := 33
  interfaces := #[]
  cf := some (fileOf pool35 19 #[.nestMembers #[478, 473, 469, 434, 423, 417, 393, 390, 380, 497, 494, 491, 355, 350, 344, 338, 333, 328, 850, 852, 854, 320, 325, 856, 315, 310, 305, 300, 287, 858, 284, 281, 278, 268, 271, 265, 262, 256, 250, 245, 860, 237, 231, 223, 862, 864, 866, 868, 215, 212, 870, 206, 872, 198, 190, 182, 174, 166, 874, 442, 387, 384]] #[{ accessFlags := 2, nameIndex := 5, descriptorIndex := 6, attributes := #[] }, { accessFlags := 9, nameIndex := 646, descriptorIndex := 647, attributes := #[] }] 33 2 #[] #[{ accessFlags := 26, nameIndex := 500, descriptorIndex := 501, attributes := #[] }, { accessFlags := 26, nameIndex := 504, descriptorIndex := 501, attributes := #[] }, { accessFlags := 26, nameIndex := 506, descriptorIndex := 501, attributes := #[] }, { accessFlags := 26, nameIndex := 508, descriptorIndex := 501, attributes := #[] }, { accessFlags := 26, nameIndex := 510, descriptorIndex := 501, attributes := #[] }, { accessFlags := 26, nameIndex := 512, descriptorIndex := 501, attributes := #[] }, { accessFlags := 26, nameIndex := 514, descriptorIndex := 501, attributes := #[] }, { accessFlags := 26, nameIndex := 516, descriptorIndex := 501, attributes := #[] }, { accessFlags := 10, nameIndex := 84, descriptorIndex := 85, attributes := #[] }, { accessFlags := 25, nameIndex := 362, descriptorIndex := 363, attributes := #[] }, { accessFlags := 25, nameIndex := 370, descriptorIndex := 371, attributes := #[] }, { accessFlags := 25, nameIndex := 374, descriptorIndex := 375, attributes := #[] }])
  fields := #[{ name := "BINARYSEARCH_THRESHOLD", type := .int, accessFlags := 26, slot := 0, constantValue := 0 }, { name := "REVERSE_THRESHOLD", type := .int, accessFlags := 26, slot := 1, constantValue := 0 }, { name := "SHUFFLE_THRESHOLD", type := .int, accessFlags := 26, slot := 2, constantValue := 0 }, { name := "FILL_THRESHOLD", type := .int, accessFlags := 26, slot := 3, constantValue := 0 }, { name := "ROTATE_THRESHOLD", type := .int, accessFlags := 26, slot := 4, constantValue := 0 }, { name := "COPY_THRESHOLD", type := .int, accessFlags := 26, slot := 5, constantValue := 0 }, { name := "REPLACEALL_THRESHOLD", type := .int, accessFlags := 26, slot := 6, constantValue := 0 }, { name := "INDEXOFSUBLIST_THRESHOLD", type := .int, accessFlags := 26, slot := 7, constantValue := 0 }, { name := "r", type := (.object "java/util/Random"), accessFlags := 10, slot := 8, constantValue := 0 }, { name := "EMPTY_SET", type := (.object "java/util/Set"), accessFlags := 25, slot := 9, constantValue := 0 }, { name := "EMPTY_LIST", type := (.object "java/util/List"), accessFlags := 25, slot := 10, constantValue := 0 }, { name := "EMPTY_MAP", type := (.object "java/util/Map"), accessFlags := 25, slot := 11, constantValue := 0 }]
  methods := #[k35m0, k35m1]
  instanceTypes := #[]
  staticTypes := #[.int, .int, .int, .int, .int, .int, .int, .int, (.object "java/util/Random"), (.object "java/util/Set"), (.object "java/util/List"), (.object "java/util/Map")]
  resolved := Array.replicate 933 none
  statics := none }

def pool36 : Array CpInfo := pool [(1, .methodref 2 3), (0, .class_ 4), (0, .nameAndType 5 6), (0, u "java/lang/Object"), (0, u "<init>"), (0, u "()V"), (3, .fieldref 11 12), (0, .class_ 13), (0, .nameAndType 14 15), (0, u "java/util/Collections$UnmodifiableCollection"), (0, u "c"), (0, u "Ljava/util/Collection;"), (0, .interfaceMethodref 17 18), (0, .class_ 19), (0, .nameAndType 20 21), (0, u "java/util/Collection"), (0, u "size"), (0, u "()I"), (49, .class_ 72), (0, u "java/io/Serializable"), (0, u "serialVersionUID"), (0, u "J"), (5, u "(Ljava/util/Collection;)V"), (51, .class_ 133), (0, u "java/util/Collections")] 2

def k36c0 : Code := { maxStack := 2, maxLocals := 2, code := jdk_119_method_1_code, exceptionTable := #[], attributes := #[] }
def k36m0 : Method := { name := "<init>", desc := "(Ljava/util/Collection;)V", sig := { parameters := [(.object "java/util/Collection")], returnType := none }, accessFlags := 0, code := some k36c0 }
def k36c1 : Code := { maxStack := 1, maxLocals := 1, code := jdk_119_method_2_code, exceptionTable := #[], attributes := #[] }
def k36m1 : Method := { name := "size", desc := "()I", sig := { parameters := [], returnType := some .int }, accessFlags := 1, code := some k36c1 }
/-- java/util/Collections$UnmodifiableCollection -/
def k36 : Class := { plain "java/util/Collections$UnmodifiableCollection" (some 0) with
  accessFlags := 32
  interfaces := #[9, 16]
  cf := some (fileOf pool36 11 #[.nestHost 132] #[{ accessFlags := 0, nameIndex := 5, descriptorIndex := 80, attributes := #[] }, { accessFlags := 1, nameIndex := 20, descriptorIndex := 21, attributes := #[] }] 32 2 #[17, 71] #[{ accessFlags := 26, nameIndex := 73, descriptorIndex := 74, attributes := #[] }, { accessFlags := 16, nameIndex := 14, descriptorIndex := 15, attributes := #[] }])
  fields := #[{ name := "serialVersionUID", type := .long, accessFlags := 26, slot := 0, constantValue := 0 }, { name := "c", type := (.object "java/util/Collection"), accessFlags := 16, slot := 0, constantValue := 0 }]
  methods := #[k36m0, k36m1]
  instanceTypes := #[(.object "java/util/Collection")]
  staticTypes := #[.long]
  resolved := Array.replicate 136 none
  statics := none }

def pool37 : Array CpInfo := pool [(1, .methodref 2 3), (0, .class_ 4), (0, .nameAndType 5 6), (0, u "java/util/Collections$UnmodifiableCollection"), (0, u "<init>"), (0, u "(Ljava/util/Collection;)V"), (0, .fieldref 8 9), (0, .class_ 10), (0, .nameAndType 11 12), (0, u "java/util/Collections$UnmodifiableList"), (0, u "list"), (0, u "Ljava/util/List;"), (1, .class_ 16), (1, u "java/util/List"), (6, .interfaceMethodref 14 24), (0, .nameAndType 25 26), (0, u "get"), (0, u "(I)Ljava/lang/Object;"), (27, u "(Ljava/util/List;)V"), (5, u "serialVersionUID"), (0, u "J"), (59, .class_ 122), (0, u "java/util/Collections")] 4

def k37c0 : Code := { maxStack := 2, maxLocals := 2, code := jdk_120_method_1_code, exceptionTable := #[], attributes := #[] }
def k37m0 : Method := { name := "<init>", desc := "(Ljava/util/List;)V", sig := { parameters := [(.object "java/util/List")], returnType := none }, accessFlags := 0, code := some k37c0 }
def k37c1 : Code := { maxStack := 2, maxLocals := 2, code := jdk_120_method_4_code, exceptionTable := #[], attributes := #[] }
def k37m1 : Method := { name := "get", desc := "(I)Ljava/lang/Object;", sig := { parameters := [.int], returnType := some (.object "java/lang/Object") }, accessFlags := 1, code := some k37c1 }
/-- java/util/Collections$UnmodifiableList -/
def k37 : Class := { plain "java/util/Collections$UnmodifiableList" (some 36) with
  accessFlags := 32
  interfaces := #[12]
  cf := some (fileOf pool37 8 #[.nestHost 121] #[{ accessFlags := 0, nameIndex := 5, descriptorIndex := 54, attributes := #[] }, { accessFlags := 1, nameIndex := 25, descriptorIndex := 26, attributes := #[] }] 32 2 #[14] #[{ accessFlags := 26, nameIndex := 60, descriptorIndex := 61, attributes := #[] }, { accessFlags := 16, nameIndex := 11, descriptorIndex := 12, attributes := #[] }])
  fields := #[{ name := "serialVersionUID", type := .long, accessFlags := 26, slot := 0, constantValue := 0 }, { name := "list", type := (.object "java/util/List"), accessFlags := 16, slot := 1, constantValue := 0 }]
  methods := #[k37m0, k37m1]
  instanceTypes := #[(.object "java/util/Collection"), (.object "java/util/List")]
  staticTypes := #[.long]
  resolved := Array.replicate 127 none
  mirror := some 7
  statics := none }

def pool38 : Array CpInfo := pool [(1, .methodref 2 3), (0, .class_ 4), (0, .nameAndType 5 6), (0, u "java/util/Collections$UnmodifiableList"), (0, u "<init>"), (0, u "(Ljava/util/List;)V"), (0, .class_ 8), (0, u "java/util/Collections$UnmodifiableRandomAccessList"), (11, .class_ 21), (0, u "java/util/RandomAccess"), (0, u "serialVersionUID"), (0, u "J"), (23, .class_ 48), (0, u "java/util/Collections")] 3

def k38c0 : Code := { maxStack := 2, maxLocals := 2, code := jdk_121_method_1_code, exceptionTable := #[], attributes := #[] }
def k38m0 : Method := { name := "<init>", desc := "(Ljava/util/List;)V", sig := { parameters := [(.object "java/util/List")], returnType := none }, accessFlags := 0, code := some k38c0 }
/-- java/util/Collections$UnmodifiableRandomAccessList -/
def k38 : Class := { plain "java/util/Collections$UnmodifiableRandomAccessList" (some 37) with
  accessFlags := 32
  interfaces := #[14]
  cf := some (fileOf pool38 7 #[.nestHost 47] #[{ accessFlags := 0, nameIndex := 5, descriptorIndex := 6, attributes := #[] }] 32 2 #[20] #[{ accessFlags := 26, nameIndex := 22, descriptorIndex := 23, attributes := #[] }])
  fields := #[{ name := "serialVersionUID", type := .long, accessFlags := 26, slot := 0, constantValue := 0 }]
  methods := #[k38m0]
  instanceTypes := #[(.object "java/util/Collection"), (.object "java/util/List")]
  staticTypes := #[.long]
  resolved := Array.replicate 52 none
  mirror := some 8
  statics := none }

def pool39 : Array CpInfo := pool [(4, .class_ 6), (1, u "java/lang/Object"), (0, u "<init>"), (0, u "()V"), (5, .class_ 16), (1, u "java/lang/StringLatin1"), (104, u "$assertionsDisabled"), (0, u "Z"), (98, .class_ 223), (1, u "java/lang/StringLatin1$LinesSpliterator"), (166, .class_ 391), (0, u "java/lang/StringLatin1$CharsSpliterator")] 3

def k39m0 : Method := { name := "<init>", desc := "()V", sig := { parameters := [], returnType := none }, accessFlags := 0, code := none }
/-- java/lang/StringLatin1 -/
def k39 : Class := { plain "java/lang/StringLatin1" (some 0) with
  accessFlags := 48
  interfaces := #[]
  cf := some (fileOf pool39 14 #[.nestMembers #[390, 221]] #[{ accessFlags := 0, nameIndex := 7, descriptorIndex := 8, attributes := #[] }] 48 4 #[] #[{ accessFlags := 4120, nameIndex := 121, descriptorIndex := 122, attributes := #[] }])
  fields := #[{ name := "$assertionsDisabled", type := .boolean, accessFlags := 4120, slot := 0, constantValue := 0 }]
  methods := #[k39m0]
  instanceTypes := #[]
  staticTypes := #[.boolean]
  resolved := Array.replicate 395 none
  statics := none }

def pool40 : Array CpInfo := pool [(9, u "<init>"), (6, .class_ 18), (1, u "java/lang/Object"), (0, u "()V"), (1, .class_ 23), (1, u "jdk/internal/util/ArraysSupport"), (0, u "LOG2_ARRAY_LONG_INDEX_SCALE"), (0, u "I"), (2, u "U"), (0, u "Ljdk/internal/misc/Unsafe;"), (8, u "BIG_ENDIAN"), (0, u "Z"), (8, u "LOG2_BYTE_BIT_SIZE"), (4, u "LOG2_ARRAY_INT_INDEX_SCALE"), (54, u "JLA"), (0, u "Ljdk/internal/access/JavaLangAccess;"), (11, u "LOG2_ARRAY_BOOLEAN_INDEX_SCALE"), (9, u "LOG2_ARRAY_BYTE_INDEX_SCALE"), (5, u "LOG2_ARRAY_CHAR_INDEX_SCALE"), (5, u "LOG2_ARRAY_SHORT_INDEX_SCALE"), (18, u "LOG2_ARRAY_FLOAT_INDEX_SCALE"), (24, u "LOG2_ARRAY_DOUBLE_INDEX_SCALE"), (89, u "T_BOOLEAN"), (2, u "T_CHAR"), (1, u "T_FLOAT"), (1, u "T_DOUBLE"), (1, u "T_BYTE"), (1, u "T_SHORT"), (1, u "T_INT"), (1, u "T_LONG"), (1, u "SOFT_MAX_ARRAY_LENGTH")] 83

def k40m0 : Method := { name := "<init>", desc := "()V", sig := { parameters := [], returnType := none }, accessFlags := 2, code := none }
/-- jdk/internal/util/ArraysSupport -/
def k40 : Class := { plain "jdk/internal/util/ArraysSupport" (some 0) with
  accessFlags := 33
  interfaces := #[]
  cf := some (fileOf pool40 21 #[] #[{ accessFlags := 2, nameIndex := 9, descriptorIndex := 19, attributes := #[] }] 33 16 #[] #[{ accessFlags := 24, nameIndex := 28, descriptorIndex := 29, attributes := #[] }, { accessFlags := 26, nameIndex := 38, descriptorIndex := 39, attributes := #[] }, { accessFlags := 25, nameIndex := 121, descriptorIndex := 25, attributes := #[] }, { accessFlags := 25, nameIndex := 131, descriptorIndex := 25, attributes := #[] }, { accessFlags := 25, nameIndex := 137, descriptorIndex := 25, attributes := #[] }, { accessFlags := 25, nameIndex := 143, descriptorIndex := 25, attributes := #[] }, { accessFlags := 25, nameIndex := 53, descriptorIndex := 25, attributes := #[] }, { accessFlags := 25, nameIndex := 24, descriptorIndex := 25, attributes := #[] }, { accessFlags := 25, nameIndex := 162, descriptorIndex := 25, attributes := #[] }, { accessFlags := 25, nameIndex := 187, descriptorIndex := 25, attributes := #[] }, { accessFlags := 26, nameIndex := 48, descriptorIndex := 25, attributes := #[] }, { accessFlags := 25, nameIndex := 277, descriptorIndex := 25, attributes := #[] }, { accessFlags := 25, nameIndex := 280, descriptorIndex := 25, attributes := #[] }, { accessFlags := 25, nameIndex := 282, descriptorIndex := 25, attributes := #[] }, { accessFlags := 25, nameIndex := 284, descriptorIndex := 25, attributes := #[] }, { accessFlags := 25, nameIndex := 286, descriptorIndex := 25, attributes := #[] }, { accessFlags := 25, nameIndex := 288, descriptorIndex := 25, attributes := #[] }, { accessFlags := 25, nameIndex := 290, descriptorIndex := 25, attributes := #[] }, { accessFlags := 25, nameIndex := 292, descriptorIndex := 25, attributes := #[] }, { accessFlags := 26, nameIndex := 108, descriptorIndex := 109, attributes := #[] }, { accessFlags := 25, nameIndex := 294, descriptorIndex := 25, attributes := #[] }])
  fields := #[{ name := "U", type := (.object "jdk/internal/misc/Unsafe"), accessFlags := 24, slot := 0, constantValue := 0 }, { name := "BIG_ENDIAN", type := .boolean, accessFlags := 26, slot := 1, constantValue := 0 }, { name := "LOG2_ARRAY_BOOLEAN_INDEX_SCALE", type := .int, accessFlags := 25, slot := 2, constantValue := 0 }, { name := "LOG2_ARRAY_BYTE_INDEX_SCALE", type := .int, accessFlags := 25, slot := 3, constantValue := 0 }, { name := "LOG2_ARRAY_CHAR_INDEX_SCALE", type := .int, accessFlags := 25, slot := 4, constantValue := 0 }, { name := "LOG2_ARRAY_SHORT_INDEX_SCALE", type := .int, accessFlags := 25, slot := 5, constantValue := 0 }, { name := "LOG2_ARRAY_INT_INDEX_SCALE", type := .int, accessFlags := 25, slot := 6, constantValue := 0 }, { name := "LOG2_ARRAY_LONG_INDEX_SCALE", type := .int, accessFlags := 25, slot := 7, constantValue := 0 }, { name := "LOG2_ARRAY_FLOAT_INDEX_SCALE", type := .int, accessFlags := 25, slot := 8, constantValue := 0 }, { name := "LOG2_ARRAY_DOUBLE_INDEX_SCALE", type := .int, accessFlags := 25, slot := 9, constantValue := 0 }, { name := "LOG2_BYTE_BIT_SIZE", type := .int, accessFlags := 26, slot := 10, constantValue := 0 }, { name := "T_BOOLEAN", type := .int, accessFlags := 25, slot := 11, constantValue := 0 }, { name := "T_CHAR", type := .int, accessFlags := 25, slot := 12, constantValue := 0 }, { name := "T_FLOAT", type := .int, accessFlags := 25, slot := 13, constantValue := 0 }, { name := "T_DOUBLE", type := .int, accessFlags := 25, slot := 14, constantValue := 0 }, { name := "T_BYTE", type := .int, accessFlags := 25, slot := 15, constantValue := 0 }, { name := "T_SHORT", type := .int, accessFlags := 25, slot := 16, constantValue := 0 }, { name := "T_INT", type := .int, accessFlags := 25, slot := 17, constantValue := 0 }, { name := "T_LONG", type := .int, accessFlags := 25, slot := 18, constantValue := 0 }, { name := "JLA", type := (.object "jdk/internal/access/JavaLangAccess"), accessFlags := 26, slot := 19, constantValue := 0 }, { name := "SOFT_MAX_ARRAY_LENGTH", type := .int, accessFlags := 25, slot := 20, constantValue := 0 }]
  methods := #[k40m0]
  instanceTypes := #[]
  staticTypes := #[(.object "jdk/internal/misc/Unsafe"), .boolean, .int, .int, .int, .int, .int, .int, .int, .int, .int, .int, .int, .int, .int, .int, .int, .int, .int, (.object "jdk/internal/access/JavaLangAccess"), .int]
  resolved := Array.replicate 378 none
  statics := none }

def pool41 : Array CpInfo := pool [(1, u "java/lang/Class"), (0, .class_ 1), (0, u "java/lang/Object"), (0, .class_ 3)] 3

/-- java/lang/Class -/
def k41 : Class := { plain "java/lang/Class" (some 0) with
  accessFlags := 49
  interfaces := #[]
  cf := some (fileOf pool41 2 #[] #[] 49 4 #[] #[])
  fields := #[]
  methods := #[]
  instanceTypes := #[]
  staticTypes := #[]
  resolved := Array.replicate 8 none
  statics := none }

/-- the primitive byte -/
def k42 : Class := { plain "byte" none with kind := .primitive 'B', accessFlags := 0x411 }
/-- [B -/
def k43 : Class := { plain "[B" (some 0) with kind := .array 42 .byte, interfaces := #[15, 16], accessFlags := 1041 }

/-- the primitive char -/
def k44 : Class := { plain "char" none with kind := .primitive 'C', accessFlags := 0x411 }
/-- [C -/
def k45 : Class := { plain "[C" (some 0) with kind := .array 44 .char, interfaces := #[15, 16], accessFlags := 1041 }

/-- the primitive int -/
def k46 : Class := { plain "int" none with kind := .primitive 'I', accessFlags := 0x411 }
/-- [I -/
def k47 : Class := { plain "[I" (some 0) with kind := .array 46 .int, interfaces := #[15, 16], accessFlags := 1041 }

/-- [Ljava/lang/Object; -/
def k48 : Class := { plain "[Ljava/lang/Object;" (some 0) with kind := .array 0 (.object "java/lang/Object"), interfaces := #[15, 16], accessFlags := 1041, mirror := some 5 }

def heap : Heap := #[{ cls := 3, slots := #[.ref 11], vm := .statics 3 },
  { cls := 17, slots := #[.long 0, .int 0, .ref 12, .ref 13], vm := .statics 17 },
  { cls := 23, slots := #[.long 0, .int 1, .null, .int 0, .null, .int 0, .int 0], vm := .statics 23 },
  { cls := 27, slots := #[.long 0, .int 0, .null, .ref 14, .ref 10, .null, .null, .null, .int 0, .int 1], vm := .statics 27 },
  { cls := 34, slots := #[.null, .null, .null], vm := .statics 34 },
  { cls := 41, slots := #[], vm := .mirror 48 },
  { cls := 41, slots := #[], vm := .mirror 17 },
  { cls := 41, slots := #[], vm := .mirror 37 },
  { cls := 41, slots := #[], vm := .mirror 38 },
  { cls := 48, slots := #[], vm := .none },
  { cls := 31, slots := #[.ref 9, .int 0], vm := .none },
  { cls := 3, slots := #[], vm := .none },
  { cls := 48, slots := #[], vm := .none },
  { cls := 48, slots := #[], vm := .none },
  { cls := 0, slots := #[], vm := .none }]
def classes : Array Class := #[k0, k1, k2, k3, k4, k5, k6, k7, k8, k9, k10, k11, k12, k13, k14, k15, k16, k17, k18, k19, k20, k21, k22, k23, k24, k25, k26, k27, k28, k29, k30, k31, k32, k33, k34, k35, k36, k37, k38, k39, k40, k41, k42, k43, k44, k45, k46, k47, k48]
def interned : List (Array UInt16 × Addr) := []
def slotsUsed : Nat := 27
def theMethod : MethodId := ⟨1, 1⟩
def args0 : Array Value := #[.int 3, .int 2, .int 3, .int 5]
def aboutOver (below : List Frame) : State where
  vm := { classes := classes, interned := interned.toArray }
  heap := heap
  slotsUsed := slotsUsed
  threads := #[{ frames := .invoking theMethod args0 :: below }]
def below0 : List Frame := [.native { method := ⟨0, 0⟩, args := #[] }]
def about1 : State := aboutOver below0
def p0 : Program := .bare "" "" ""
def e0 : Env := launch0.env 0 0 0
theorem w_frames : about1.frames = Frame.invoking theMethod args0 :: below0 := rfl
set_option maxRecDepth 65536 in
theorem w_args : argsFit about1.vm theMethod args0 = true := by decide +kernel
set_option maxRecDepth 65536 in
theorem w_heap : heapFits about1 = true := by decide +kernel
set_option maxRecDepth 65536 in
theorem w_runnable : about1.curStatus? = some .runnable := by decide +kernel
set_option maxRecDepth 65536 in
theorem w_alone : about1.alone = true := by decide +kernel
set_option maxRecDepth 65536 in
theorem w_named : about1.methodNamed? x = some theMethod := by decide +kernel
set_option maxRecDepth 65536 in
theorem w_hears : about1.hears theMethod below0 = true := by decide +kernel
set_option maxRecDepth 65536 in
theorem w_ripe : about1.ripe theMethod args0 below0 = true := by decide +kernel
theorem w_running : about1.status = .running := rfl
set_option maxRecDepth 65536 in
theorem w_room : about1.hasRoom e0.platform room_1 = true :=
  launch0.hasRoom_least _ room_1 (by decide +kernel) (by decide +kernel) (by decide +kernel) (by decide +kernel) (by decide +kernel) (by decide +kernel)
theorem allAtoms_all (ts : List Jvm.Cond) (a : Array Jvm.Value) (st : Jvm.State) : (allAtoms ts).before a st = ts.all (fun c => c.before a st) := by
  induction ts with
  | nil => rfl
  | cons c t ih =>
    show (Jvm.Cond.and c (allAtoms t)).before a st = _
    rw [Jvm.Cond.before_and, ih, List.all_cons]
def words1 : List Jvm.Cond := Jvm.Cond.code x code maxLocals ret :: tables_1
/-- a 'code' word, met by the world's own term for the bytes: nothing is compared byte by byte -/
theorem code_word {y : MethodName} {bytes : ByteArray} {mx : Nat} {rt : Option FieldType} {a : Array Value} {s : State} {m : MethodId} {meth : Method} {c : Code} (h1 : s.methodNamed? y = some m) (h2 : s.vm.method? m = some meth) (h3 : meth.code = some c) (h4 : c.code = bytes)
    (h5 : (c.maxLocals == mx && c.exceptionTable.isEmpty && decide (c.maxStack ≤ mostOperands) && decide (meth.sig.returnType = rt) && !meth.locks && decide (parseMethodDescriptor y.desc = some meth.sig)) = true) : (Jvm.Cond.code y bytes mx rt).before a s = true := by
  simp only [Bool.and_eq_true, beq_iff_eq, Bool.not_eq_true', decide_eq_true_eq] at h5
  obtain ⟨⟨⟨⟨⟨g1, g2⟩, g3⟩, g4⟩, g5⟩, g6⟩ := h5
  simp [Cond.before, Cond.holds, Cond.value, h1, h2, h3, h4, g1, g2, g3, g4, g5, g6]
def isCode : Jvm.Cond → Bool
  | .code _ _ _ _ => true
  | _ => false
theorem all_split {L : List Jvm.Cond} {P : Jvm.Cond → Bool} (h1 : L.all (fun c => isCode c || P c) = true) (h2 : ∀ c ∈ L.filter isCode, P c = true) : L.all P = true := by
  refine List.all_eq_true.mpr fun c hc => ?_
  have h := List.all_eq_true.mp h1 c hc
  rcases Bool.eq_false_or_eq_true (isCode c) with hi | hi
  · exact h2 c (List.mem_filter.mpr ⟨hc, hi⟩)
  · simpa [hi] using h
set_option maxRecDepth 65536 in
theorem w_c0 : (Jvm.Cond.code x code maxLocals ret).before args0 about1 = true := code_word (m := ⟨1, 1⟩) (meth := k1m1) (c := k1c1) (by decide +kernel) rfl rfl rfl (by decide +kernel)
set_option maxRecDepth 65536 in
theorem w_c1 : (Jvm.Cond.code ({ cls := "java/util/Map", name := "entry", desc := "(Ljava/lang/Object;Ljava/lang/Object;)Ljava/util/Map$Entry;" } : Jvm.MethodName) jdk_72_method_38_code (2 : Nat) (Option.some (Jvm.ClassFile.FieldType.object "java/util/Map$Entry"))).before args0 about1 = true := code_word (m := ⟨4, 0⟩) (meth := k4m0) (c := k4c0) (by decide +kernel) rfl rfl rfl (by decide +kernel)
set_option maxRecDepth 65536 in
theorem w_c2 : (Jvm.Cond.code ({ cls := "java/util/KeyValueHolder", name := "<init>", desc := "(Ljava/lang/Object;Ljava/lang/Object;)V" } : Jvm.MethodName) jdk_141_method_1_code (3 : Nat) (Option.none : Option Jvm.ClassFile.FieldType)).before args0 about1 = true := code_word (m := ⟨6, 0⟩) (meth := k6m0) (c := k6c0) (by decide +kernel) rfl rfl rfl (by decide +kernel)
set_option maxRecDepth 65536 in
theorem w_c3 : (Jvm.Cond.code ({ cls := "java/lang/Object", name := "<init>", desc := "()V" } : Jvm.MethodName) object_method_1_code (1 : Nat) (Option.none : Option Jvm.ClassFile.FieldType)).before args0 about1 = true := code_word (m := ⟨0, 0⟩) (meth := k0m0) (c := k0c0) (by decide +kernel) rfl rfl rfl (by decide +kernel)
set_option maxRecDepth 65536 in
theorem w_c4 : (Jvm.Cond.code ({ cls := "java/util/Objects", name := "requireNonNull", desc := "(Ljava/lang/Object;)Ljava/lang/Object;" } : Jvm.MethodName) jdk_31_method_10_code (1 : Nat) (Option.some (Jvm.ClassFile.FieldType.object "java/lang/Object"))).before args0 about1 = true := code_word (m := ⟨7, 1⟩) (meth := k7m1) (c := k7c1) (by decide +kernel) rfl rfl rfl (by decide +kernel)
set_option maxRecDepth 65536 in
theorem w_c5 : (Jvm.Cond.code ({ cls := "java/util/ArrayList", name := "<init>", desc := "()V" } : Jvm.MethodName) jdk_38_method_2_code (1 : Nat) (Option.none : Option Jvm.ClassFile.FieldType)).before args0 about1 = true := code_word (m := ⟨17, 1⟩) (meth := k17m1) (c := k17c1) (by decide +kernel) rfl rfl rfl (by decide +kernel)
set_option maxRecDepth 65536 in
theorem w_c6 : (Jvm.Cond.code ({ cls := "java/util/AbstractList", name := "<init>", desc := "()V" } : Jvm.MethodName) jdk_39_method_1_code (1 : Nat) (Option.none : Option Jvm.ClassFile.FieldType)).before args0 about1 = true := code_word (m := ⟨13, 0⟩) (meth := k13m0) (c := k13c0) (by decide +kernel) rfl rfl rfl (by decide +kernel)
set_option maxRecDepth 65536 in
theorem w_c7 : (Jvm.Cond.code ({ cls := "java/util/AbstractCollection", name := "<init>", desc := "()V" } : Jvm.MethodName) jdk_22_method_1_code (1 : Nat) (Option.none : Option Jvm.ClassFile.FieldType)).before args0 about1 = true := code_word (m := ⟨10, 0⟩) (meth := k10m0) (c := k10c0) (by decide +kernel) rfl rfl rfl (by decide +kernel)
set_option maxRecDepth 65536 in
theorem w_c8 : (Jvm.Cond.code ({ cls := "java/util/ArrayList", name := "add", desc := "(Ljava/lang/Object;)Z" } : Jvm.MethodName) jdk_38_method_25_code (2 : Nat) (Option.some Jvm.ClassFile.FieldType.boolean)).before args0 about1 = true := code_word (m := ⟨17, 10⟩) (meth := k17m10) (c := k17c10) (by decide +kernel) rfl rfl rfl (by decide +kernel)
set_option maxRecDepth 65536 in
theorem w_c9 : (Jvm.Cond.code ({ cls := "java/util/ArrayList", name := "add", desc := "(Ljava/lang/Object;[Ljava/lang/Object;I)V" } : Jvm.MethodName) jdk_38_method_24_code (4 : Nat) (Option.none : Option Jvm.ClassFile.FieldType)).before args0 about1 = true := code_word (m := ⟨17, 9⟩) (meth := k17m9) (c := k17c9) (by decide +kernel) rfl rfl rfl (by decide +kernel)
set_option maxRecDepth 65536 in
theorem w_c10 : (Jvm.Cond.code ({ cls := "java/util/ArrayList", name := "grow", desc := "()[Ljava/lang/Object;" } : Jvm.MethodName) jdk_38_method_7_code (1 : Nat) (Option.some (Jvm.ClassFile.FieldType.array (Jvm.ClassFile.FieldType.object "java/lang/Object")))).before args0 about1 = true := code_word (m := ⟨17, 3⟩) (meth := k17m3) (c := k17c3) (by decide +kernel) rfl rfl rfl (by decide +kernel)
set_option maxRecDepth 65536 in
theorem w_c11 : (Jvm.Cond.code ({ cls := "java/util/ArrayList", name := "grow", desc := "(I)[Ljava/lang/Object;" } : Jvm.MethodName) jdk_38_method_6_code (4 : Nat) (Option.some (Jvm.ClassFile.FieldType.array (Jvm.ClassFile.FieldType.object "java/lang/Object")))).before args0 about1 = true := code_word (m := ⟨17, 2⟩) (meth := k17m2) (c := k17c2) (by decide +kernel) rfl rfl rfl (by decide +kernel)
set_option maxRecDepth 65536 in
theorem w_c12 : (Jvm.Cond.code ({ cls := "java/lang/Math", name := "max", desc := "(II)I" } : Jvm.MethodName) jdk_29_method_65_code (2 : Nat) (Option.some Jvm.ClassFile.FieldType.int)).before args0 about1 = true := code_word (m := ⟨18, 1⟩) (meth := k18m1) (c := k18c1) (by decide +kernel) rfl rfl rfl (by decide +kernel)
set_option maxRecDepth 65536 in
theorem w_c13 : (Jvm.Cond.code ({ cls := "com/example/topf/topf/core/MapValueMergingPinLaw", name := "name", desc := "(I)Ljava/lang/String;" } : Jvm.MethodName) method_4_code (2 : Nat) (Option.some (Jvm.ClassFile.FieldType.object "java/lang/String"))).before args0 about1 = true := code_word (m := ⟨1, 3⟩) (meth := k1m3) (c := k1c3) (by decide +kernel) rfl rfl rfl (by decide +kernel)
set_option maxRecDepth 65536 in
theorem w_c14 : (Jvm.Cond.code ({ cls := "java/lang/String", name := "<init>", desc := "([C)V" } : Jvm.MethodName) jdk_42_method_3_code (2 : Nat) (Option.none : Option Jvm.ClassFile.FieldType)).before args0 about1 = true := code_word (m := ⟨23, 1⟩) (meth := k23m1) (c := k23c1) (by decide +kernel) rfl rfl rfl (by decide +kernel)
set_option maxRecDepth 65536 in
theorem w_c15 : (Jvm.Cond.code ({ cls := "java/lang/String", name := "<init>", desc := "([CIILjava/lang/Void;)V" } : Jvm.MethodName) jdk_42_method_149_code (6 : Nat) (Option.none : Option Jvm.ClassFile.FieldType)).before args0 about1 = true := code_word (m := ⟨23, 3⟩) (meth := k23m3) (c := k23c3) (by decide +kernel) rfl rfl rfl (by decide +kernel)
set_option maxRecDepth 65536 in
theorem w_c16 : (Jvm.Cond.code ({ cls := "java/lang/StringUTF16", name := "compress", desc := "([CII)[B" } : Jvm.MethodName) jdk_52_method_16_code (6 : Nat) (Option.some (Jvm.ClassFile.FieldType.array Jvm.ClassFile.FieldType.byte))).before args0 about1 = true := code_word (m := ⟨24, 2⟩) (meth := k24m2) (c := k24c2) (by decide +kernel) rfl rfl rfl (by decide +kernel)
set_option maxRecDepth 65536 in
theorem w_c17 : (Jvm.Cond.code ({ cls := "java/lang/StringUTF16", name := "compress", desc := "([CI[BII)I" } : Jvm.MethodName) jdk_52_method_21_code (7 : Nat) (Option.some Jvm.ClassFile.FieldType.int)).before args0 about1 = true := code_word (m := ⟨24, 3⟩) (meth := k24m3) (c := k24c3) (by decide +kernel) rfl rfl rfl (by decide +kernel)
set_option maxRecDepth 65536 in
theorem w_c18 : (Jvm.Cond.code ({ cls := "java/lang/StringUTF16", name := "coderFromArrayLen", desc := "([BI)B" } : Jvm.MethodName) jdk_52_method_15_code (2 : Nat) (Option.some Jvm.ClassFile.FieldType.byte)).before args0 about1 = true := code_word (m := ⟨24, 1⟩) (meth := k24m1) (c := k24c1) (by decide +kernel) rfl rfl rfl (by decide +kernel)
set_option maxRecDepth 65536 in
theorem w_c19 : (Jvm.Cond.code ({ cls := "com/example/topf/topf/core/MapValue", name := "<init>", desc := "(Ljava/util/List;Ljava/lang/String;)V" } : Jvm.MethodName) prog_56_method_2_code (3 : Nat) (Option.none : Option Jvm.ClassFile.FieldType)).before args0 about1 = true := code_word (m := ⟨25, 0⟩) (meth := k25m0) (c := k25c0) (by decide +kernel) rfl rfl rfl (by decide +kernel)
set_option maxRecDepth 65536 in
theorem w_c20 : (Jvm.Cond.code ({ cls := "com/example/topf/topf/core/AppendedList", name := "of", desc := "(Ljava/util/List;)Lcom/example/topf/topf/core/AppendedList;" } : Jvm.MethodName) prog_5_method_2_code (1 : Nat) (Option.some (Jvm.ClassFile.FieldType.object "com/example/topf/topf/core/AppendedList"))).before args0 about1 = true := code_word (m := ⟨26, 1⟩) (meth := k26m1) (c := k26c1) (by decide +kernel) rfl rfl rfl (by decide +kernel)
set_option maxRecDepth 65536 in
theorem w_c21 : (Jvm.Cond.code ({ cls := "java/util/List", name := "copyOf", desc := "(Ljava/util/Collection;)Ljava/util/List;" } : Jvm.MethodName) jdk_40_method_48_code (1 : Nat) (Option.some (Jvm.ClassFile.FieldType.object "java/util/List"))).before args0 about1 = true := code_word (m := ⟨12, 7⟩) (meth := k12m7) (c := k12c7) (by decide +kernel) rfl rfl rfl (by decide +kernel)
set_option maxRecDepth 65536 in
theorem w_c22 : (Jvm.Cond.code ({ cls := "java/util/ImmutableCollections", name := "listCopy", desc := "(Ljava/util/Collection;)Ljava/util/List;" } : Jvm.MethodName) jdk_56_method_3_code (2 : Nat) (Option.some (Jvm.ClassFile.FieldType.object "java/util/List"))).before args0 about1 = true := code_word (m := ⟨27, 1⟩) (meth := k27m1) (c := k27c1) (by decide +kernel) rfl rfl rfl (by decide +kernel)
set_option maxRecDepth 65536 in
theorem w_c23 : (Jvm.Cond.code ({ cls := "java/util/ArrayList", name := "isEmpty", desc := "()Z" } : Jvm.MethodName) jdk_38_method_9_code (1 : Nat) (Option.some Jvm.ClassFile.FieldType.boolean)).before args0 about1 = true := code_word (m := ⟨17, 5⟩) (meth := k17m5) (c := k17c5) (by decide +kernel) rfl rfl rfl (by decide +kernel)
set_option maxRecDepth 65536 in
theorem w_c24 : (Jvm.Cond.code ({ cls := "java/util/List", name := "of", desc := "()Ljava/util/List;" } : Jvm.MethodName) jdk_40_method_36_code (0 : Nat) (Option.some (Jvm.ClassFile.FieldType.object "java/util/List"))).before args0 about1 = true := code_word (m := ⟨12, 5⟩) (meth := k12m5) (c := k12c5) (by decide +kernel) rfl rfl rfl (by decide +kernel)
set_option maxRecDepth 65536 in
theorem w_c25 : (Jvm.Cond.code ({ cls := "com/example/topf/topf/core/AppendedList", name := "<init>", desc := "(Lcom/example/topf/topf/core/AppendedList;Ljava/util/List;)V" } : Jvm.MethodName) prog_5_method_1_code (3 : Nat) (Option.none : Option Jvm.ClassFile.FieldType)).before args0 about1 = true := code_word (m := ⟨26, 0⟩) (meth := k26m0) (c := k26c0) (by decide +kernel) rfl rfl rfl (by decide +kernel)
set_option maxRecDepth 65536 in
theorem w_c26 : (Jvm.Cond.code ({ cls := "com/example/topf/topf/core/MapValue", name := "<init>", desc := "(Lcom/example/topf/topf/core/AppendedList;Ljava/lang/String;Z)V" } : Jvm.MethodName) prog_56_method_3_code (4 : Nat) (Option.none : Option Jvm.ClassFile.FieldType)).before args0 about1 = true := code_word (m := ⟨25, 1⟩) (meth := k25m1) (c := k25c1) (by decide +kernel) rfl rfl rfl (by decide +kernel)
set_option maxRecDepth 65536 in
theorem w_c27 : (Jvm.Cond.code ({ cls := "java/util/ArrayList", name := "toArray", desc := "()[Ljava/lang/Object;" } : Jvm.MethodName) jdk_38_method_16_code (1 : Nat) (Option.some (Jvm.ClassFile.FieldType.array (Jvm.ClassFile.FieldType.object "java/lang/Object")))).before args0 about1 = true := code_word (m := ⟨17, 6⟩) (meth := k17m6) (c := k17c6) (by decide +kernel) rfl rfl rfl (by decide +kernel)
set_option maxRecDepth 65536 in
theorem w_c28 : (Jvm.Cond.code ({ cls := "java/util/Arrays", name := "copyOf", desc := "([Ljava/lang/Object;I)[Ljava/lang/Object;" } : Jvm.MethodName) jdk_65_method_119_code (2 : Nat) (Option.some (Jvm.ClassFile.FieldType.array (Jvm.ClassFile.FieldType.object "java/lang/Object")))).before args0 about1 = true := code_word (m := ⟨32, 1⟩) (meth := k32m1) (c := k32c1) (by decide +kernel) rfl rfl rfl (by decide +kernel)
set_option maxRecDepth 65536 in
theorem w_c29 : (Jvm.Cond.code ({ cls := "java/util/Arrays", name := "copyOf", desc := "([Ljava/lang/Object;ILjava/lang/Class;)[Ljava/lang/Object;" } : Jvm.MethodName) jdk_65_method_120_code (4 : Nat) (Option.some (Jvm.ClassFile.FieldType.array (Jvm.ClassFile.FieldType.object "java/lang/Object")))).before args0 about1 = true := code_word (m := ⟨32, 2⟩) (meth := k32m2) (c := k32c2) (by decide +kernel) rfl rfl rfl (by decide +kernel)
set_option maxRecDepth 65536 in
theorem w_c30 : (Jvm.Cond.code ({ cls := "java/lang/Math", name := "min", desc := "(II)I" } : Jvm.MethodName) jdk_29_method_69_code (2 : Nat) (Option.some Jvm.ClassFile.FieldType.int)).before args0 about1 = true := code_word (m := ⟨18, 2⟩) (meth := k18m2) (c := k18c2) (by decide +kernel) rfl rfl rfl (by decide +kernel)
set_option maxRecDepth 65536 in
theorem w_c31 : (Jvm.Cond.code ({ cls := "java/util/List", name := "of", desc := "([Ljava/lang/Object;)Ljava/util/List;" } : Jvm.MethodName) jdk_40_method_47_code (2 : Nat) (Option.some (Jvm.ClassFile.FieldType.object "java/util/List"))).before args0 about1 = true := code_word (m := ⟨12, 6⟩) (meth := k12m6) (c := k12c6) (by decide +kernel) rfl rfl rfl (by decide +kernel)
set_option maxRecDepth 65536 in
theorem w_c32 : (Jvm.Cond.code ({ cls := "java/util/ImmutableCollections", name := "listFromArray", desc := "([Ljava/lang/Object;)Ljava/util/List;" } : Jvm.MethodName) jdk_56_method_4_code (3 : Nat) (Option.some (Jvm.ClassFile.FieldType.object "java/util/List"))).before args0 about1 = true := code_word (m := ⟨27, 2⟩) (meth := k27m2) (c := k27c2) (by decide +kernel) rfl rfl rfl (by decide +kernel)
set_option maxRecDepth 65536 in
theorem w_c33 : (Jvm.Cond.code ({ cls := "java/util/ImmutableCollections$ListN", name := "<init>", desc := "([Ljava/lang/Object;Z)V" } : Jvm.MethodName) jdk_45_method_1_code (3 : Nat) (Option.none : Option Jvm.ClassFile.FieldType)).before args0 about1 = true := code_word (m := ⟨31, 0⟩) (meth := k31m0) (c := k31c0) (by decide +kernel) rfl rfl rfl (by decide +kernel)
set_option maxRecDepth 65536 in
theorem w_c34 : (Jvm.Cond.code ({ cls := "java/util/ImmutableCollections$AbstractImmutableList", name := "<init>", desc := "()V" } : Jvm.MethodName) jdk_46_method_1_code (1 : Nat) (Option.none : Option Jvm.ClassFile.FieldType)).before args0 about1 = true := code_word (m := ⟨29, 0⟩) (meth := k29m0) (c := k29c0) (by decide +kernel) rfl rfl rfl (by decide +kernel)
set_option maxRecDepth 65536 in
theorem w_c35 : (Jvm.Cond.code ({ cls := "java/util/ImmutableCollections$AbstractImmutableCollection", name := "<init>", desc := "()V" } : Jvm.MethodName) jdk_47_method_1_code (1 : Nat) (Option.none : Option Jvm.ClassFile.FieldType)).before args0 about1 = true := code_word (m := ⟨28, 0⟩) (meth := k28m0) (c := k28c0) (by decide +kernel) rfl rfl rfl (by decide +kernel)
set_option maxRecDepth 65536 in
theorem w_c36 : (Jvm.Cond.code ({ cls := "com/example/topf/topf/core/MapValue", name := "merging", desc := "()Lcom/example/topf/topf/core/MapValue;" } : Jvm.MethodName) prog_56_method_4_code (1 : Nat) (Option.some (Jvm.ClassFile.FieldType.object "com/example/topf/topf/core/MapValue"))).before args0 about1 = true := code_word (m := ⟨25, 2⟩) (meth := k25m2) (c := k25c2) (by decide +kernel) rfl rfl rfl (by decide +kernel)
set_option maxRecDepth 65536 in
theorem w_c37 : (Jvm.Cond.code ({ cls := "com/example/topf/topf/core/MapValue", name := "isMerging", desc := "()Z" } : Jvm.MethodName) prog_56_method_8_code (1 : Nat) (Option.some Jvm.ClassFile.FieldType.boolean)).before args0 about1 = true := code_word (m := ⟨25, 5⟩) (meth := k25m5) (c := k25c5) (by decide +kernel) rfl rfl rfl (by decide +kernel)
set_option maxRecDepth 65536 in
theorem w_c38 : (Jvm.Cond.code ({ cls := "com/example/topf/topf/core/MapValue", name := "getMapClass", desc := "()Ljava/lang/String;" } : Jvm.MethodName) prog_56_method_6_code (1 : Nat) (Option.some (Jvm.ClassFile.FieldType.object "java/lang/String"))).before args0 about1 = true := code_word (m := ⟨25, 4⟩) (meth := k25m4) (c := k25c4) (by decide +kernel) rfl rfl rfl (by decide +kernel)
set_option maxRecDepth 65536 in
theorem w_c39 : (Jvm.Cond.code ({ cls := "com/example/topf/topf/core/MapValueMergingPinLaw", name := "same", desc := "(Ljava/lang/String;Ljava/lang/String;)Z" } : Jvm.MethodName) method_5_code (2 : Nat) (Option.some Jvm.ClassFile.FieldType.boolean)).before args0 about1 = true := code_word (m := ⟨1, 4⟩) (meth := k1m4) (c := k1c4) (by decide +kernel) rfl rfl rfl (by decide +kernel)
set_option maxRecDepth 65536 in
theorem w_c40 : (Jvm.Cond.code ({ cls := "com/example/topf/topf/core/MapValue", name := "inheriting", desc := "(Lcom/example/topf/topf/core/DefinedValue;)Lcom/example/topf/topf/core/DefinedValue;" } : Jvm.MethodName) prog_56_method_9_code (3 : Nat) (Option.some (Jvm.ClassFile.FieldType.object "com/example/topf/topf/core/DefinedValue"))).before args0 about1 = true := code_word (m := ⟨25, 6⟩) (meth := k25m6) (c := k25c6) (by decide +kernel) rfl rfl rfl (by decide +kernel)
set_option maxRecDepth 65536 in
theorem w_c41 : (Jvm.Cond.code ({ cls := "com/example/topf/topf/core/AppendedList", name := "items", desc := "()Ljava/util/List;" } : Jvm.MethodName) prog_5_method_4_code (6 : Nat) (Option.some (Jvm.ClassFile.FieldType.object "java/util/List"))).before args0 about1 = true := code_word (m := ⟨26, 3⟩) (meth := k26m3) (c := k26c3) (by decide +kernel) rfl rfl rfl (by decide +kernel)
set_option maxRecDepth 65536 in
theorem w_c42 : (Jvm.Cond.code ({ cls := "com/example/topf/topf/core/AppendedList", name := "append", desc := "(Ljava/util/List;)Lcom/example/topf/topf/core/AppendedList;" } : Jvm.MethodName) prog_5_method_3_code (3 : Nat) (Option.some (Jvm.ClassFile.FieldType.object "com/example/topf/topf/core/AppendedList"))).before args0 about1 = true := code_word (m := ⟨26, 2⟩) (meth := k26m2) (c := k26c2) (by decide +kernel) rfl rfl rfl (by decide +kernel)
set_option maxRecDepth 65536 in
theorem w_c43 : (Jvm.Cond.code ({ cls := "java/util/ImmutableCollections$ListN", name := "isEmpty", desc := "()Z" } : Jvm.MethodName) jdk_45_method_2_code (1 : Nat) (Option.some Jvm.ClassFile.FieldType.boolean)).before args0 about1 = true := code_word (m := ⟨31, 1⟩) (meth := k31m1) (c := k31c1) (by decide +kernel) rfl rfl rfl (by decide +kernel)
set_option maxRecDepth 65536 in
theorem w_c44 : (Jvm.Cond.code ({ cls := "java/lang/String", name := "equals", desc := "(Ljava/lang/Object;)Z" } : Jvm.MethodName) jdk_42_method_66_code (3 : Nat) (Option.some Jvm.ClassFile.FieldType.boolean)).before args0 about1 = true := code_word (m := ⟨23, 2⟩) (meth := k23m2) (c := k23c2) (by decide +kernel) rfl rfl rfl (by decide +kernel)
set_option maxRecDepth 65536 in
theorem w_c45 : (Jvm.Cond.code ({ cls := "com/example/topf/topf/core/MapValue", name := "getEntries", desc := "()Ljava/util/List;" } : Jvm.MethodName) prog_56_method_5_code (1 : Nat) (Option.some (Jvm.ClassFile.FieldType.object "java/util/List"))).before args0 about1 = true := code_word (m := ⟨25, 3⟩) (meth := k25m3) (c := k25c3) (by decide +kernel) rfl rfl rfl (by decide +kernel)
set_option maxRecDepth 65536 in
theorem w_c46 : (Jvm.Cond.code ({ cls := "java/util/ImmutableCollections$ListN", name := "size", desc := "()I" } : Jvm.MethodName) jdk_45_method_3_code (1 : Nat) (Option.some Jvm.ClassFile.FieldType.int)).before args0 about1 = true := code_word (m := ⟨31, 2⟩) (meth := k31m2) (c := k31c2) (by decide +kernel) rfl rfl rfl (by decide +kernel)
set_option maxRecDepth 65536 in
theorem w_c47 : (Jvm.Cond.code ({ cls := "com/example/topf/topf/core/MapValueMergingPinLaw", name := "check", desc := "(Ljava/util/List;II[Ljava/lang/Object;[Ljava/lang/Object;)Z" } : Jvm.MethodName) method_3_code (6 : Nat) (Option.some Jvm.ClassFile.FieldType.boolean)).before args0 about1 = true := code_word (m := ⟨1, 2⟩) (meth := k1m2) (c := k1c2) (by decide +kernel) rfl rfl rfl (by decide +kernel)
set_option maxRecDepth 65536 in
theorem w_c48 : (Jvm.Cond.code ({ cls := "java/util/ImmutableCollections$ListN", name := "get", desc := "(I)Ljava/lang/Object;" } : Jvm.MethodName) jdk_45_method_4_code (2 : Nat) (Option.some (Jvm.ClassFile.FieldType.object "java/lang/Object"))).before args0 about1 = true := code_word (m := ⟨31, 3⟩) (meth := k31m3) (c := k31c3) (by decide +kernel) rfl rfl rfl (by decide +kernel)
set_option maxRecDepth 65536 in
theorem w_c49 : (Jvm.Cond.code ({ cls := "java/util/ArrayList", name := "<init>", desc := "(I)V" } : Jvm.MethodName) jdk_38_method_1_code (2 : Nat) (Option.none : Option Jvm.ClassFile.FieldType)).before args0 about1 = true := code_word (m := ⟨17, 0⟩) (meth := k17m0) (c := k17c0) (by decide +kernel) rfl rfl rfl (by decide +kernel)
set_option maxRecDepth 65536 in
theorem w_c50 : (Jvm.Cond.code ({ cls := "java/util/ArrayList", name := "size", desc := "()I" } : Jvm.MethodName) jdk_38_method_8_code (1 : Nat) (Option.some Jvm.ClassFile.FieldType.int)).before args0 about1 = true := code_word (m := ⟨17, 4⟩) (meth := k17m4) (c := k17c4) (by decide +kernel) rfl rfl rfl (by decide +kernel)
set_option maxRecDepth 65536 in
theorem w_c51 : (Jvm.Cond.code ({ cls := "java/util/ArrayList", name := "get", desc := "(I)Ljava/lang/Object;" } : Jvm.MethodName) jdk_38_method_20_code (2 : Nat) (Option.some (Jvm.ClassFile.FieldType.object "java/lang/Object"))).before args0 about1 = true := code_word (m := ⟨17, 8⟩) (meth := k17m8) (c := k17c8) (by decide +kernel) rfl rfl rfl (by decide +kernel)
set_option maxRecDepth 65536 in
theorem w_c52 : (Jvm.Cond.code ({ cls := "java/util/Objects", name := "checkIndex", desc := "(II)I" } : Jvm.MethodName) jdk_31_method_17_code (2 : Nat) (Option.some Jvm.ClassFile.FieldType.int)).before args0 about1 = true := code_word (m := ⟨7, 2⟩) (meth := k7m2) (c := k7c2) (by decide +kernel) rfl rfl rfl (by decide +kernel)
set_option maxRecDepth 65536 in
theorem w_c53 : (Jvm.Cond.code ({ cls := "jdk/internal/util/Preconditions", name := "checkIndex", desc := "(IILjava/util/function/BiFunction;)I" } : Jvm.MethodName) jdk_41_method_11_code (3 : Nat) (Option.some Jvm.ClassFile.FieldType.int)).before args0 about1 = true := code_word (m := ⟨34, 1⟩) (meth := k34m1) (c := k34c1) (by decide +kernel) rfl rfl rfl (by decide +kernel)
set_option maxRecDepth 65536 in
theorem w_c54 : (Jvm.Cond.code ({ cls := "java/util/ArrayList", name := "elementData", desc := "(I)Ljava/lang/Object;" } : Jvm.MethodName) jdk_38_method_18_code (2 : Nat) (Option.some (Jvm.ClassFile.FieldType.object "java/lang/Object"))).before args0 about1 = true := code_word (m := ⟨17, 7⟩) (meth := k17m7) (c := k17c7) (by decide +kernel) rfl rfl rfl (by decide +kernel)
set_option maxRecDepth 65536 in
theorem w_c55 : (Jvm.Cond.code ({ cls := "java/util/ArrayList", name := "addAll", desc := "(Ljava/util/Collection;)Z" } : Jvm.MethodName) jdk_38_method_41_code (6 : Nat) (Option.some Jvm.ClassFile.FieldType.boolean)).before args0 about1 = true := code_word (m := ⟨17, 11⟩) (meth := k17m11) (c := k17c11) (by decide +kernel) rfl rfl rfl (by decide +kernel)
set_option maxRecDepth 65536 in
theorem w_c56 : (Jvm.Cond.code ({ cls := "java/util/ImmutableCollections$ListN", name := "toArray", desc := "()[Ljava/lang/Object;" } : Jvm.MethodName) jdk_45_method_7_code (1 : Nat) (Option.some (Jvm.ClassFile.FieldType.array (Jvm.ClassFile.FieldType.object "java/lang/Object")))).before args0 about1 = true := code_word (m := ⟨31, 4⟩) (meth := k31m4) (c := k31c4) (by decide +kernel) rfl rfl rfl (by decide +kernel)
set_option maxRecDepth 65536 in
theorem w_c57 : (Jvm.Cond.code ({ cls := "java/util/Collections", name := "unmodifiableList", desc := "(Ljava/util/List;)Ljava/util/List;" } : Jvm.MethodName) jdk_79_method_35_code (1 : Nat) (Option.some (Jvm.ClassFile.FieldType.object "java/util/List"))).before args0 about1 = true := code_word (m := ⟨35, 1⟩) (meth := k35m1) (c := k35c1) (by decide +kernel) rfl rfl rfl (by decide +kernel)
set_option maxRecDepth 65536 in
theorem w_c58 : (Jvm.Cond.code ({ cls := "java/util/Collections$UnmodifiableRandomAccessList", name := "<init>", desc := "(Ljava/util/List;)V" } : Jvm.MethodName) jdk_121_method_1_code (2 : Nat) (Option.none : Option Jvm.ClassFile.FieldType)).before args0 about1 = true := code_word (m := ⟨38, 0⟩) (meth := k38m0) (c := k38c0) (by decide +kernel) rfl rfl rfl (by decide +kernel)
set_option maxRecDepth 65536 in
theorem w_c59 : (Jvm.Cond.code ({ cls := "java/util/Collections$UnmodifiableList", name := "<init>", desc := "(Ljava/util/List;)V" } : Jvm.MethodName) jdk_120_method_1_code (2 : Nat) (Option.none : Option Jvm.ClassFile.FieldType)).before args0 about1 = true := code_word (m := ⟨37, 0⟩) (meth := k37m0) (c := k37c0) (by decide +kernel) rfl rfl rfl (by decide +kernel)
set_option maxRecDepth 65536 in
theorem w_c60 : (Jvm.Cond.code ({ cls := "java/util/Collections$UnmodifiableCollection", name := "<init>", desc := "(Ljava/util/Collection;)V" } : Jvm.MethodName) jdk_119_method_1_code (2 : Nat) (Option.none : Option Jvm.ClassFile.FieldType)).before args0 about1 = true := code_word (m := ⟨36, 0⟩) (meth := k36m0) (c := k36c0) (by decide +kernel) rfl rfl rfl (by decide +kernel)
set_option maxRecDepth 65536 in
theorem w_c61 : (Jvm.Cond.code ({ cls := "java/util/Collections$UnmodifiableCollection", name := "size", desc := "()I" } : Jvm.MethodName) jdk_119_method_2_code (1 : Nat) (Option.some Jvm.ClassFile.FieldType.int)).before args0 about1 = true := code_word (m := ⟨36, 1⟩) (meth := k36m1) (c := k36c1) (by decide +kernel) rfl rfl rfl (by decide +kernel)
set_option maxRecDepth 65536 in
theorem w_c62 : (Jvm.Cond.code ({ cls := "java/util/Collections$UnmodifiableList", name := "get", desc := "(I)Ljava/lang/Object;" } : Jvm.MethodName) jdk_120_method_4_code (2 : Nat) (Option.some (Jvm.ClassFile.FieldType.object "java/lang/Object"))).before args0 about1 = true := code_word (m := ⟨37, 1⟩) (meth := k37m1) (c := k37c1) (by decide +kernel) rfl rfl rfl (by decide +kernel)
set_option maxRecDepth 65536 in
theorem w_c63 : (Jvm.Cond.code ({ cls := "java/util/ImmutableCollections$List12", name := "<init>", desc := "(Ljava/lang/Object;Ljava/lang/Object;)V" } : Jvm.MethodName) jdk_44_method_2_code (3 : Nat) (Option.none : Option Jvm.ClassFile.FieldType)).before args0 about1 = true := code_word (m := ⟨30, 1⟩) (meth := k30m1) (c := k30c1) (by decide +kernel) rfl rfl rfl (by decide +kernel)
set_option maxRecDepth 65536 in
theorem w_c64 : (Jvm.Cond.code ({ cls := "java/util/ImmutableCollections$List12", name := "isEmpty", desc := "()Z" } : Jvm.MethodName) jdk_44_method_4_code (1 : Nat) (Option.some Jvm.ClassFile.FieldType.boolean)).before args0 about1 = true := code_word (m := ⟨30, 3⟩) (meth := k30m3) (c := k30c3) (by decide +kernel) rfl rfl rfl (by decide +kernel)
set_option maxRecDepth 65536 in
theorem w_c65 : (Jvm.Cond.code ({ cls := "java/util/ImmutableCollections$List12", name := "size", desc := "()I" } : Jvm.MethodName) jdk_44_method_3_code (1 : Nat) (Option.some Jvm.ClassFile.FieldType.int)).before args0 about1 = true := code_word (m := ⟨30, 2⟩) (meth := k30m2) (c := k30c2) (by decide +kernel) rfl rfl rfl (by decide +kernel)
set_option maxRecDepth 65536 in
theorem w_c66 : (Jvm.Cond.code ({ cls := "java/util/ImmutableCollections$List12", name := "toArray", desc := "()[Ljava/lang/Object;" } : Jvm.MethodName) jdk_44_method_10_code (1 : Nat) (Option.some (Jvm.ClassFile.FieldType.array (Jvm.ClassFile.FieldType.object "java/lang/Object")))).before args0 about1 = true := code_word (m := ⟨30, 5⟩) (meth := k30m5) (c := k30c5) (by decide +kernel) rfl rfl rfl (by decide +kernel)
set_option maxRecDepth 65536 in
theorem w_c67 : (Jvm.Cond.code ({ cls := "java/util/ImmutableCollections$List12", name := "<init>", desc := "(Ljava/lang/Object;)V" } : Jvm.MethodName) jdk_44_method_1_code (2 : Nat) (Option.none : Option Jvm.ClassFile.FieldType)).before args0 about1 = true := code_word (m := ⟨30, 0⟩) (meth := k30m0) (c := k30c0) (by decide +kernel) rfl rfl rfl (by decide +kernel)
set_option maxRecDepth 65536 in
theorem w_c68 : (Jvm.Cond.code ({ cls := "java/util/ImmutableCollections$List12", name := "get", desc := "(I)Ljava/lang/Object;" } : Jvm.MethodName) jdk_44_method_5_code (2 : Nat) (Option.some (Jvm.ClassFile.FieldType.object "java/lang/Object"))).before args0 about1 = true := code_word (m := ⟨30, 4⟩) (meth := k30m4) (c := k30c4) (by decide +kernel) rfl rfl rfl (by decide +kernel)
def codes1 : List Jvm.Cond := [Jvm.Cond.code x code maxLocals ret, Jvm.Cond.code ({ cls := "java/util/Map", name := "entry", desc := "(Ljava/lang/Object;Ljava/lang/Object;)Ljava/util/Map$Entry;" } : Jvm.MethodName) jdk_72_method_38_code (2 : Nat) (Option.some (Jvm.ClassFile.FieldType.object "java/util/Map$Entry")), Jvm.Cond.code ({ cls := "java/util/KeyValueHolder", name := "<init>", desc := "(Ljava/lang/Object;Ljava/lang/Object;)V" } : Jvm.MethodName) jdk_141_method_1_code (3 : Nat) (Option.none : Option Jvm.ClassFile.FieldType), Jvm.Cond.code ({ cls := "java/lang/Object", name := "<init>", desc := "()V" } : Jvm.MethodName) object_method_1_code (1 : Nat) (Option.none : Option Jvm.ClassFile.FieldType), Jvm.Cond.code ({ cls := "java/util/Objects", name := "requireNonNull", desc := "(Ljava/lang/Object;)Ljava/lang/Object;" } : Jvm.MethodName) jdk_31_method_10_code (1 : Nat) (Option.some (Jvm.ClassFile.FieldType.object "java/lang/Object")), Jvm.Cond.code ({ cls := "java/util/ArrayList", name := "<init>", desc := "()V" } : Jvm.MethodName) jdk_38_method_2_code (1 : Nat) (Option.none : Option Jvm.ClassFile.FieldType), Jvm.Cond.code ({ cls := "java/util/AbstractList", name := "<init>", desc := "()V" } : Jvm.MethodName) jdk_39_method_1_code (1 : Nat) (Option.none : Option Jvm.ClassFile.FieldType), Jvm.Cond.code ({ cls := "java/util/AbstractCollection", name := "<init>", desc := "()V" } : Jvm.MethodName) jdk_22_method_1_code (1 : Nat) (Option.none : Option Jvm.ClassFile.FieldType), Jvm.Cond.code ({ cls := "java/util/ArrayList", name := "add", desc := "(Ljava/lang/Object;)Z" } : Jvm.MethodName) jdk_38_method_25_code (2 : Nat) (Option.some Jvm.ClassFile.FieldType.boolean), Jvm.Cond.code ({ cls := "java/util/ArrayList", name := "add", desc := "(Ljava/lang/Object;[Ljava/lang/Object;I)V" } : Jvm.MethodName) jdk_38_method_24_code (4 : Nat) (Option.none : Option Jvm.ClassFile.FieldType), Jvm.Cond.code ({ cls := "java/util/ArrayList", name := "grow", desc := "()[Ljava/lang/Object;" } : Jvm.MethodName) jdk_38_method_7_code (1 : Nat) (Option.some (Jvm.ClassFile.FieldType.array (Jvm.ClassFile.FieldType.object "java/lang/Object"))), Jvm.Cond.code ({ cls := "java/util/ArrayList", name := "grow", desc := "(I)[Ljava/lang/Object;" } : Jvm.MethodName) jdk_38_method_6_code (4 : Nat) (Option.some (Jvm.ClassFile.FieldType.array (Jvm.ClassFile.FieldType.object "java/lang/Object"))), Jvm.Cond.code ({ cls := "java/lang/Math", name := "max", desc := "(II)I" } : Jvm.MethodName) jdk_29_method_65_code (2 : Nat) (Option.some Jvm.ClassFile.FieldType.int), Jvm.Cond.code ({ cls := "com/example/topf/topf/core/MapValueMergingPinLaw", name := "name", desc := "(I)Ljava/lang/String;" } : Jvm.MethodName) method_4_code (2 : Nat) (Option.some (Jvm.ClassFile.FieldType.object "java/lang/String")), Jvm.Cond.code ({ cls := "java/lang/String", name := "<init>", desc := "([C)V" } : Jvm.MethodName) jdk_42_method_3_code (2 : Nat) (Option.none : Option Jvm.ClassFile.FieldType), Jvm.Cond.code ({ cls := "java/lang/String", name := "<init>", desc := "([CIILjava/lang/Void;)V" } : Jvm.MethodName) jdk_42_method_149_code (6 : Nat) (Option.none : Option Jvm.ClassFile.FieldType), Jvm.Cond.code ({ cls := "java/lang/StringUTF16", name := "compress", desc := "([CII)[B" } : Jvm.MethodName) jdk_52_method_16_code (6 : Nat) (Option.some (Jvm.ClassFile.FieldType.array Jvm.ClassFile.FieldType.byte)), Jvm.Cond.code ({ cls := "java/lang/StringUTF16", name := "compress", desc := "([CI[BII)I" } : Jvm.MethodName) jdk_52_method_21_code (7 : Nat) (Option.some Jvm.ClassFile.FieldType.int), Jvm.Cond.code ({ cls := "java/lang/StringUTF16", name := "coderFromArrayLen", desc := "([BI)B" } : Jvm.MethodName) jdk_52_method_15_code (2 : Nat) (Option.some Jvm.ClassFile.FieldType.byte), Jvm.Cond.code ({ cls := "com/example/topf/topf/core/MapValue", name := "<init>", desc := "(Ljava/util/List;Ljava/lang/String;)V" } : Jvm.MethodName) prog_56_method_2_code (3 : Nat) (Option.none : Option Jvm.ClassFile.FieldType), Jvm.Cond.code ({ cls := "com/example/topf/topf/core/AppendedList", name := "of", desc := "(Ljava/util/List;)Lcom/example/topf/topf/core/AppendedList;" } : Jvm.MethodName) prog_5_method_2_code (1 : Nat) (Option.some (Jvm.ClassFile.FieldType.object "com/example/topf/topf/core/AppendedList")), Jvm.Cond.code ({ cls := "java/util/List", name := "copyOf", desc := "(Ljava/util/Collection;)Ljava/util/List;" } : Jvm.MethodName) jdk_40_method_48_code (1 : Nat) (Option.some (Jvm.ClassFile.FieldType.object "java/util/List")), Jvm.Cond.code ({ cls := "java/util/ImmutableCollections", name := "listCopy", desc := "(Ljava/util/Collection;)Ljava/util/List;" } : Jvm.MethodName) jdk_56_method_3_code (2 : Nat) (Option.some (Jvm.ClassFile.FieldType.object "java/util/List")), Jvm.Cond.code ({ cls := "java/util/ArrayList", name := "isEmpty", desc := "()Z" } : Jvm.MethodName) jdk_38_method_9_code (1 : Nat) (Option.some Jvm.ClassFile.FieldType.boolean), Jvm.Cond.code ({ cls := "java/util/List", name := "of", desc := "()Ljava/util/List;" } : Jvm.MethodName) jdk_40_method_36_code (0 : Nat) (Option.some (Jvm.ClassFile.FieldType.object "java/util/List")), Jvm.Cond.code ({ cls := "com/example/topf/topf/core/AppendedList", name := "<init>", desc := "(Lcom/example/topf/topf/core/AppendedList;Ljava/util/List;)V" } : Jvm.MethodName) prog_5_method_1_code (3 : Nat) (Option.none : Option Jvm.ClassFile.FieldType), Jvm.Cond.code ({ cls := "com/example/topf/topf/core/MapValue", name := "<init>", desc := "(Lcom/example/topf/topf/core/AppendedList;Ljava/lang/String;Z)V" } : Jvm.MethodName) prog_56_method_3_code (4 : Nat) (Option.none : Option Jvm.ClassFile.FieldType), Jvm.Cond.code ({ cls := "java/util/ArrayList", name := "toArray", desc := "()[Ljava/lang/Object;" } : Jvm.MethodName) jdk_38_method_16_code (1 : Nat) (Option.some (Jvm.ClassFile.FieldType.array (Jvm.ClassFile.FieldType.object "java/lang/Object"))), Jvm.Cond.code ({ cls := "java/util/Arrays", name := "copyOf", desc := "([Ljava/lang/Object;I)[Ljava/lang/Object;" } : Jvm.MethodName) jdk_65_method_119_code (2 : Nat) (Option.some (Jvm.ClassFile.FieldType.array (Jvm.ClassFile.FieldType.object "java/lang/Object"))), Jvm.Cond.code ({ cls := "java/util/Arrays", name := "copyOf", desc := "([Ljava/lang/Object;ILjava/lang/Class;)[Ljava/lang/Object;" } : Jvm.MethodName) jdk_65_method_120_code (4 : Nat) (Option.some (Jvm.ClassFile.FieldType.array (Jvm.ClassFile.FieldType.object "java/lang/Object"))), Jvm.Cond.code ({ cls := "java/lang/Math", name := "min", desc := "(II)I" } : Jvm.MethodName) jdk_29_method_69_code (2 : Nat) (Option.some Jvm.ClassFile.FieldType.int), Jvm.Cond.code ({ cls := "java/util/List", name := "of", desc := "([Ljava/lang/Object;)Ljava/util/List;" } : Jvm.MethodName) jdk_40_method_47_code (2 : Nat) (Option.some (Jvm.ClassFile.FieldType.object "java/util/List")), Jvm.Cond.code ({ cls := "java/util/ImmutableCollections", name := "listFromArray", desc := "([Ljava/lang/Object;)Ljava/util/List;" } : Jvm.MethodName) jdk_56_method_4_code (3 : Nat) (Option.some (Jvm.ClassFile.FieldType.object "java/util/List")), Jvm.Cond.code ({ cls := "java/util/ImmutableCollections$ListN", name := "<init>", desc := "([Ljava/lang/Object;Z)V" } : Jvm.MethodName) jdk_45_method_1_code (3 : Nat) (Option.none : Option Jvm.ClassFile.FieldType), Jvm.Cond.code ({ cls := "java/util/ImmutableCollections$AbstractImmutableList", name := "<init>", desc := "()V" } : Jvm.MethodName) jdk_46_method_1_code (1 : Nat) (Option.none : Option Jvm.ClassFile.FieldType), Jvm.Cond.code ({ cls := "java/util/ImmutableCollections$AbstractImmutableCollection", name := "<init>", desc := "()V" } : Jvm.MethodName) jdk_47_method_1_code (1 : Nat) (Option.none : Option Jvm.ClassFile.FieldType), Jvm.Cond.code ({ cls := "com/example/topf/topf/core/MapValue", name := "merging", desc := "()Lcom/example/topf/topf/core/MapValue;" } : Jvm.MethodName) prog_56_method_4_code (1 : Nat) (Option.some (Jvm.ClassFile.FieldType.object "com/example/topf/topf/core/MapValue")), Jvm.Cond.code ({ cls := "com/example/topf/topf/core/MapValue", name := "isMerging", desc := "()Z" } : Jvm.MethodName) prog_56_method_8_code (1 : Nat) (Option.some Jvm.ClassFile.FieldType.boolean), Jvm.Cond.code ({ cls := "com/example/topf/topf/core/MapValue", name := "getMapClass", desc := "()Ljava/lang/String;" } : Jvm.MethodName) prog_56_method_6_code (1 : Nat) (Option.some (Jvm.ClassFile.FieldType.object "java/lang/String")), Jvm.Cond.code ({ cls := "com/example/topf/topf/core/MapValueMergingPinLaw", name := "same", desc := "(Ljava/lang/String;Ljava/lang/String;)Z" } : Jvm.MethodName) method_5_code (2 : Nat) (Option.some Jvm.ClassFile.FieldType.boolean), Jvm.Cond.code ({ cls := "com/example/topf/topf/core/MapValue", name := "inheriting", desc := "(Lcom/example/topf/topf/core/DefinedValue;)Lcom/example/topf/topf/core/DefinedValue;" } : Jvm.MethodName) prog_56_method_9_code (3 : Nat) (Option.some (Jvm.ClassFile.FieldType.object "com/example/topf/topf/core/DefinedValue")), Jvm.Cond.code ({ cls := "com/example/topf/topf/core/AppendedList", name := "items", desc := "()Ljava/util/List;" } : Jvm.MethodName) prog_5_method_4_code (6 : Nat) (Option.some (Jvm.ClassFile.FieldType.object "java/util/List")), Jvm.Cond.code ({ cls := "com/example/topf/topf/core/AppendedList", name := "append", desc := "(Ljava/util/List;)Lcom/example/topf/topf/core/AppendedList;" } : Jvm.MethodName) prog_5_method_3_code (3 : Nat) (Option.some (Jvm.ClassFile.FieldType.object "com/example/topf/topf/core/AppendedList")), Jvm.Cond.code ({ cls := "java/util/ImmutableCollections$ListN", name := "isEmpty", desc := "()Z" } : Jvm.MethodName) jdk_45_method_2_code (1 : Nat) (Option.some Jvm.ClassFile.FieldType.boolean), Jvm.Cond.code ({ cls := "java/lang/String", name := "equals", desc := "(Ljava/lang/Object;)Z" } : Jvm.MethodName) jdk_42_method_66_code (3 : Nat) (Option.some Jvm.ClassFile.FieldType.boolean), Jvm.Cond.code ({ cls := "com/example/topf/topf/core/MapValue", name := "getEntries", desc := "()Ljava/util/List;" } : Jvm.MethodName) prog_56_method_5_code (1 : Nat) (Option.some (Jvm.ClassFile.FieldType.object "java/util/List")), Jvm.Cond.code ({ cls := "java/util/ImmutableCollections$ListN", name := "size", desc := "()I" } : Jvm.MethodName) jdk_45_method_3_code (1 : Nat) (Option.some Jvm.ClassFile.FieldType.int), Jvm.Cond.code ({ cls := "com/example/topf/topf/core/MapValueMergingPinLaw", name := "check", desc := "(Ljava/util/List;II[Ljava/lang/Object;[Ljava/lang/Object;)Z" } : Jvm.MethodName) method_3_code (6 : Nat) (Option.some Jvm.ClassFile.FieldType.boolean), Jvm.Cond.code ({ cls := "java/util/ImmutableCollections$ListN", name := "get", desc := "(I)Ljava/lang/Object;" } : Jvm.MethodName) jdk_45_method_4_code (2 : Nat) (Option.some (Jvm.ClassFile.FieldType.object "java/lang/Object")), Jvm.Cond.code ({ cls := "java/util/ArrayList", name := "<init>", desc := "(I)V" } : Jvm.MethodName) jdk_38_method_1_code (2 : Nat) (Option.none : Option Jvm.ClassFile.FieldType), Jvm.Cond.code ({ cls := "java/util/ArrayList", name := "size", desc := "()I" } : Jvm.MethodName) jdk_38_method_8_code (1 : Nat) (Option.some Jvm.ClassFile.FieldType.int), Jvm.Cond.code ({ cls := "java/util/ArrayList", name := "get", desc := "(I)Ljava/lang/Object;" } : Jvm.MethodName) jdk_38_method_20_code (2 : Nat) (Option.some (Jvm.ClassFile.FieldType.object "java/lang/Object")), Jvm.Cond.code ({ cls := "java/util/Objects", name := "checkIndex", desc := "(II)I" } : Jvm.MethodName) jdk_31_method_17_code (2 : Nat) (Option.some Jvm.ClassFile.FieldType.int), Jvm.Cond.code ({ cls := "jdk/internal/util/Preconditions", name := "checkIndex", desc := "(IILjava/util/function/BiFunction;)I" } : Jvm.MethodName) jdk_41_method_11_code (3 : Nat) (Option.some Jvm.ClassFile.FieldType.int), Jvm.Cond.code ({ cls := "java/util/ArrayList", name := "elementData", desc := "(I)Ljava/lang/Object;" } : Jvm.MethodName) jdk_38_method_18_code (2 : Nat) (Option.some (Jvm.ClassFile.FieldType.object "java/lang/Object")), Jvm.Cond.code ({ cls := "java/util/ArrayList", name := "addAll", desc := "(Ljava/util/Collection;)Z" } : Jvm.MethodName) jdk_38_method_41_code (6 : Nat) (Option.some Jvm.ClassFile.FieldType.boolean), Jvm.Cond.code ({ cls := "java/util/ImmutableCollections$ListN", name := "toArray", desc := "()[Ljava/lang/Object;" } : Jvm.MethodName) jdk_45_method_7_code (1 : Nat) (Option.some (Jvm.ClassFile.FieldType.array (Jvm.ClassFile.FieldType.object "java/lang/Object"))), Jvm.Cond.code ({ cls := "java/util/Collections", name := "unmodifiableList", desc := "(Ljava/util/List;)Ljava/util/List;" } : Jvm.MethodName) jdk_79_method_35_code (1 : Nat) (Option.some (Jvm.ClassFile.FieldType.object "java/util/List")), Jvm.Cond.code ({ cls := "java/util/Collections$UnmodifiableRandomAccessList", name := "<init>", desc := "(Ljava/util/List;)V" } : Jvm.MethodName) jdk_121_method_1_code (2 : Nat) (Option.none : Option Jvm.ClassFile.FieldType), Jvm.Cond.code ({ cls := "java/util/Collections$UnmodifiableList", name := "<init>", desc := "(Ljava/util/List;)V" } : Jvm.MethodName) jdk_120_method_1_code (2 : Nat) (Option.none : Option Jvm.ClassFile.FieldType), Jvm.Cond.code ({ cls := "java/util/Collections$UnmodifiableCollection", name := "<init>", desc := "(Ljava/util/Collection;)V" } : Jvm.MethodName) jdk_119_method_1_code (2 : Nat) (Option.none : Option Jvm.ClassFile.FieldType), Jvm.Cond.code ({ cls := "java/util/Collections$UnmodifiableCollection", name := "size", desc := "()I" } : Jvm.MethodName) jdk_119_method_2_code (1 : Nat) (Option.some Jvm.ClassFile.FieldType.int), Jvm.Cond.code ({ cls := "java/util/Collections$UnmodifiableList", name := "get", desc := "(I)Ljava/lang/Object;" } : Jvm.MethodName) jdk_120_method_4_code (2 : Nat) (Option.some (Jvm.ClassFile.FieldType.object "java/lang/Object")), Jvm.Cond.code ({ cls := "java/util/ImmutableCollections$List12", name := "<init>", desc := "(Ljava/lang/Object;Ljava/lang/Object;)V" } : Jvm.MethodName) jdk_44_method_2_code (3 : Nat) (Option.none : Option Jvm.ClassFile.FieldType), Jvm.Cond.code ({ cls := "java/util/ImmutableCollections$List12", name := "isEmpty", desc := "()Z" } : Jvm.MethodName) jdk_44_method_4_code (1 : Nat) (Option.some Jvm.ClassFile.FieldType.boolean), Jvm.Cond.code ({ cls := "java/util/ImmutableCollections$List12", name := "size", desc := "()I" } : Jvm.MethodName) jdk_44_method_3_code (1 : Nat) (Option.some Jvm.ClassFile.FieldType.int), Jvm.Cond.code ({ cls := "java/util/ImmutableCollections$List12", name := "toArray", desc := "()[Ljava/lang/Object;" } : Jvm.MethodName) jdk_44_method_10_code (1 : Nat) (Option.some (Jvm.ClassFile.FieldType.array (Jvm.ClassFile.FieldType.object "java/lang/Object"))), Jvm.Cond.code ({ cls := "java/util/ImmutableCollections$List12", name := "<init>", desc := "(Ljava/lang/Object;)V" } : Jvm.MethodName) jdk_44_method_1_code (2 : Nat) (Option.none : Option Jvm.ClassFile.FieldType), Jvm.Cond.code ({ cls := "java/util/ImmutableCollections$List12", name := "get", desc := "(I)Ljava/lang/Object;" } : Jvm.MethodName) jdk_44_method_5_code (2 : Nat) (Option.some (Jvm.ClassFile.FieldType.object "java/lang/Object"))]
set_option maxRecDepth 65536 in
theorem codes_eq : words1.filter isCode = codes1 := rfl
theorem w_codes : ∀ c ∈ words1.filter isCode, c.before args0 about1 = true := by
  rw [codes_eq]
  intro c hc
  simp only [codes1, List.mem_cons, List.not_mem_nil, or_false] at hc
  rcases hc with rfl | rfl | rfl | rfl | rfl | rfl | rfl | rfl | rfl | rfl | rfl | rfl | rfl | rfl | rfl | rfl | rfl | rfl | rfl | rfl | rfl | rfl | rfl | rfl | rfl | rfl | rfl | rfl | rfl | rfl | rfl | rfl | rfl | rfl | rfl | rfl | rfl | rfl | rfl | rfl | rfl | rfl | rfl | rfl | rfl | rfl | rfl | rfl | rfl | rfl | rfl | rfl | rfl | rfl | rfl | rfl | rfl | rfl | rfl | rfl | rfl | rfl | rfl | rfl | rfl | rfl | rfl | rfl | rfl
  · exact w_c0
  · exact w_c1
  · exact w_c2
  · exact w_c3
  · exact w_c4
  · exact w_c5
  · exact w_c6
  · exact w_c7
  · exact w_c8
  · exact w_c9
  · exact w_c10
  · exact w_c11
  · exact w_c12
  · exact w_c13
  · exact w_c14
  · exact w_c15
  · exact w_c16
  · exact w_c17
  · exact w_c18
  · exact w_c19
  · exact w_c20
  · exact w_c21
  · exact w_c22
  · exact w_c23
  · exact w_c24
  · exact w_c25
  · exact w_c26
  · exact w_c27
  · exact w_c28
  · exact w_c29
  · exact w_c30
  · exact w_c31
  · exact w_c32
  · exact w_c33
  · exact w_c34
  · exact w_c35
  · exact w_c36
  · exact w_c37
  · exact w_c38
  · exact w_c39
  · exact w_c40
  · exact w_c41
  · exact w_c42
  · exact w_c43
  · exact w_c44
  · exact w_c45
  · exact w_c46
  · exact w_c47
  · exact w_c48
  · exact w_c49
  · exact w_c50
  · exact w_c51
  · exact w_c52
  · exact w_c53
  · exact w_c54
  · exact w_c55
  · exact w_c56
  · exact w_c57
  · exact w_c58
  · exact w_c59
  · exact w_c60
  · exact w_c61
  · exact w_c62
  · exact w_c63
  · exact w_c64
  · exact w_c65
  · exact w_c66
  · exact w_c67
  · exact w_c68
set_option maxRecDepth 65536 in
theorem w_t1 : (words1.take 24).all (fun c => isCode c || c.before args0 about1) = true := by decide +kernel
set_option maxRecDepth 65536 in
theorem w_t2 : ((words1.drop 24).take 24).all (fun c => isCode c || c.before args0 about1) = true := by decide +kernel
set_option maxRecDepth 65536 in
theorem w_t3 : (((words1.drop 24).drop 24).take 24).all (fun c => isCode c || c.before args0 about1) = true := by decide +kernel
set_option maxRecDepth 65536 in
theorem w_t4 : ((((words1.drop 24).drop 24).drop 24).take 24).all (fun c => isCode c || c.before args0 about1) = true := by decide +kernel
set_option maxRecDepth 65536 in
theorem w_t5 : (((((words1.drop 24).drop 24).drop 24).drop 24).take 24).all (fun c => isCode c || c.before args0 about1) = true := by decide +kernel
set_option maxRecDepth 65536 in
theorem w_t6 : ((((((words1.drop 24).drop 24).drop 24).drop 24).drop 24).take 24).all (fun c => isCode c || c.before args0 about1) = true := by decide +kernel
set_option maxRecDepth 65536 in
theorem w_t7 : (((((((words1.drop 24).drop 24).drop 24).drop 24).drop 24).drop 24).take 24).all (fun c => isCode c || c.before args0 about1) = true := by decide +kernel
set_option maxRecDepth 65536 in
theorem w_t8 : ((((((((words1.drop 24).drop 24).drop 24).drop 24).drop 24).drop 24).drop 24).take 24).all (fun c => isCode c || c.before args0 about1) = true := by decide +kernel
set_option maxRecDepth 65536 in
theorem w_t9 : (((((((((words1.drop 24).drop 24).drop 24).drop 24).drop 24).drop 24).drop 24).drop 24).take 24).all (fun c => isCode c || c.before args0 about1) = true := by decide +kernel
set_option maxRecDepth 65536 in
theorem w_t10 : ((((((((((words1.drop 24).drop 24).drop 24).drop 24).drop 24).drop 24).drop 24).drop 24).drop 24).take 24).all (fun c => isCode c || c.before args0 about1) = true := by decide +kernel
set_option maxRecDepth 65536 in
theorem w_t11 : (((((((((((words1.drop 24).drop 24).drop 24).drop 24).drop 24).drop 24).drop 24).drop 24).drop 24).drop 24).take 24).all (fun c => isCode c || c.before args0 about1) = true := by decide +kernel
set_option maxRecDepth 65536 in
theorem w_t12 : ((((((((((((words1.drop 24).drop 24).drop 24).drop 24).drop 24).drop 24).drop 24).drop 24).drop 24).drop 24).drop 24).take 24).all (fun c => isCode c || c.before args0 about1) = true := by decide +kernel
set_option maxRecDepth 65536 in
theorem w_t13 : (((((((((((((words1.drop 24).drop 24).drop 24).drop 24).drop 24).drop 24).drop 24).drop 24).drop 24).drop 24).drop 24).drop 24).take 24).all (fun c => isCode c || c.before args0 about1) = true := by decide +kernel
set_option maxRecDepth 65536 in
theorem w_t14 : ((((((((((((((words1.drop 24).drop 24).drop 24).drop 24).drop 24).drop 24).drop 24).drop 24).drop 24).drop 24).drop 24).drop 24).drop 24).take 24).all (fun c => isCode c || c.before args0 about1) = true := by decide +kernel
set_option maxRecDepth 65536 in
theorem w_t15 : (((((((((((((((words1.drop 24).drop 24).drop 24).drop 24).drop 24).drop 24).drop 24).drop 24).drop 24).drop 24).drop 24).drop 24).drop 24).drop 24).take 24).all (fun c => isCode c || c.before args0 about1) = true := by decide +kernel
set_option maxRecDepth 65536 in
theorem w_t16 : ((((((((((((((((words1.drop 24).drop 24).drop 24).drop 24).drop 24).drop 24).drop 24).drop 24).drop 24).drop 24).drop 24).drop 24).drop 24).drop 24).drop 24).take 24).all (fun c => isCode c || c.before args0 about1) = true := by decide +kernel
set_option maxRecDepth 65536 in
theorem w_t17 : (((((((((((((((((words1.drop 24).drop 24).drop 24).drop 24).drop 24).drop 24).drop 24).drop 24).drop 24).drop 24).drop 24).drop 24).drop 24).drop 24).drop 24).drop 24).take 24).all (fun c => isCode c || c.before args0 about1) = true := by decide +kernel
set_option maxRecDepth 65536 in
theorem w_t18 : ((((((((((((((((((words1.drop 24).drop 24).drop 24).drop 24).drop 24).drop 24).drop 24).drop 24).drop 24).drop 24).drop 24).drop 24).drop 24).drop 24).drop 24).drop 24).drop 24).take 24).all (fun c => isCode c || c.before args0 about1) = true := by decide +kernel
set_option maxRecDepth 65536 in
theorem w_t19 : (((((((((((((((((((words1.drop 24).drop 24).drop 24).drop 24).drop 24).drop 24).drop 24).drop 24).drop 24).drop 24).drop 24).drop 24).drop 24).drop 24).drop 24).drop 24).drop 24).drop 24).take 24).all (fun c => isCode c || c.before args0 about1) = true := by decide +kernel
set_option maxRecDepth 65536 in
theorem w_t20 : (((((((((((((((((((words1.drop 24).drop 24).drop 24).drop 24).drop 24).drop 24).drop 24).drop 24).drop 24).drop 24).drop 24).drop 24).drop 24).drop 24).drop 24).drop 24).drop 24).drop 24).drop 24).all (fun c => isCode c || c.before args0 about1) = true := by decide +kernel
theorem w_tables : (allAtoms (Jvm.Cond.code x code maxLocals ret :: tables_1)).before args0 about1 = true := by
  rw [allAtoms_all]
  show words1.all (fun c => c.before args0 about1) = true
  refine all_split ?_ w_codes
  rw [← List.take_append_drop 24 words1, List.all_append, w_t1, ← List.take_append_drop 24 (words1.drop 24), List.all_append, w_t2, ← List.take_append_drop 24 ((words1.drop 24).drop 24), List.all_append, w_t3, ← List.take_append_drop 24 (((words1.drop 24).drop 24).drop 24), List.all_append, w_t4, ← List.take_append_drop 24 ((((words1.drop 24).drop 24).drop 24).drop 24), List.all_append, w_t5, ← List.take_append_drop 24 (((((words1.drop 24).drop 24).drop 24).drop 24).drop 24), List.all_append, w_t6, ← List.take_append_drop 24 ((((((words1.drop 24).drop 24).drop 24).drop 24).drop 24).drop 24), List.all_append, w_t7, ← List.take_append_drop 24 (((((((words1.drop 24).drop 24).drop 24).drop 24).drop 24).drop 24).drop 24), List.all_append, w_t8, ← List.take_append_drop 24 ((((((((words1.drop 24).drop 24).drop 24).drop 24).drop 24).drop 24).drop 24).drop 24), List.all_append, w_t9, ← List.take_append_drop 24 (((((((((words1.drop 24).drop 24).drop 24).drop 24).drop 24).drop 24).drop 24).drop 24).drop 24), List.all_append, w_t10, ← List.take_append_drop 24 ((((((((((words1.drop 24).drop 24).drop 24).drop 24).drop 24).drop 24).drop 24).drop 24).drop 24).drop 24), List.all_append, w_t11, ← List.take_append_drop 24 (((((((((((words1.drop 24).drop 24).drop 24).drop 24).drop 24).drop 24).drop 24).drop 24).drop 24).drop 24).drop 24), List.all_append, w_t12, ← List.take_append_drop 24 ((((((((((((words1.drop 24).drop 24).drop 24).drop 24).drop 24).drop 24).drop 24).drop 24).drop 24).drop 24).drop 24).drop 24), List.all_append, w_t13, ← List.take_append_drop 24 (((((((((((((words1.drop 24).drop 24).drop 24).drop 24).drop 24).drop 24).drop 24).drop 24).drop 24).drop 24).drop 24).drop 24).drop 24), List.all_append, w_t14, ← List.take_append_drop 24 ((((((((((((((words1.drop 24).drop 24).drop 24).drop 24).drop 24).drop 24).drop 24).drop 24).drop 24).drop 24).drop 24).drop 24).drop 24).drop 24), List.all_append, w_t15, ← List.take_append_drop 24 (((((((((((((((words1.drop 24).drop 24).drop 24).drop 24).drop 24).drop 24).drop 24).drop 24).drop 24).drop 24).drop 24).drop 24).drop 24).drop 24).drop 24), List.all_append, w_t16, ← List.take_append_drop 24 ((((((((((((((((words1.drop 24).drop 24).drop 24).drop 24).drop 24).drop 24).drop 24).drop 24).drop 24).drop 24).drop 24).drop 24).drop 24).drop 24).drop 24).drop 24), List.all_append, w_t17, ← List.take_append_drop 24 (((((((((((((((((words1.drop 24).drop 24).drop 24).drop 24).drop 24).drop 24).drop 24).drop 24).drop 24).drop 24).drop 24).drop 24).drop 24).drop 24).drop 24).drop 24).drop 24), List.all_append, w_t18, ← List.take_append_drop 24 ((((((((((((((((((words1.drop 24).drop 24).drop 24).drop 24).drop 24).drop 24).drop 24).drop 24).drop 24).drop 24).drop 24).drop 24).drop 24).drop 24).drop 24).drop 24).drop 24).drop 24), List.all_append, w_t19, w_t20]
  rfl
set_option maxRecDepth 65536 in
theorem w_rest : rest_1_c.before args0 about1 = true := by decide +kernel
set_option maxRecDepth 65536 in
theorem w_case : (Jvm.Cond.and given_1 narrow_1).before args0 about1 = true := by decide +kernel
theorem w_applies : (headSpec (Jvm.Cond.code x code maxLocals ret :: tables_1) room_1).applies x e0.platform about1 = true :=
  (Spec.applies_iff w_frames).mpr ⟨w_running, w_runnable, w_alone, w_named, w_hears, w_ripe, w_room, w_tables⟩
theorem atStart : AtStart classFile x code maxLocals ret World_1 tables_1 room_1 Calls_1 rest_1 Pre_1 launch0 p0 e0 about1 theMethod args0 below0 :=
  ⟨lists_1, trivial, launch0.admits_env _ _ _, launch0.least_env, fairChoices_fair.cas, fairChoices_fair.clock, w_frames, w_args, w_heap, w_applies, ⟨⟨48, k48, 5, by decide +kernel, rfl, rfl, _, rfl, rfl⟩, ⟨⟨17, k17, 6, by decide +kernel, rfl, rfl, _, rfl, rfl⟩, ⟨⟨37, k37, 7, by decide +kernel, rfl, rfl, _, rfl, rfl⟩, ⟨⟨38, k38, 8, by decide +kernel, rfl, rfl, _, rfl, rfl⟩, trivial⟩⟩⟩⟩, w_rest, w_case⟩
end start1
theorem witness_1 : WitnessClaimed_1 := ⟨start1.p0, start1.e0, start1.about1, start1.theMethod, start1.args0, start1.below0, start1.atStart⟩
end Jvm.Pilot.@@N@@
