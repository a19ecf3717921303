import JvmDerived
import JvmDerived.Pilot.@@N@@Statement
import JvmDerived.Pilot.@@N@@Code
set_option linter.unusedVariables false
set_option linter.unusedSimpArgs false
/- laws to paste: Road.backV, Road.lenW, Road.chN, Road.codOf (cut by pick.py; bodies as the Statement names them) -/
namespace Jvm.Pilot.@@N@@
namespace StrChars
open Jvm Sem ClassFile Op Lib Jvm.Stand Jvm.Free.XT Jvm.Free.ALB Jvm.Free.JM Jvm.Free
open Jvm.Lib.Cold (StaticIs)
/-- a char array whose places are chars -/
def Ch (a : Addr) (A : Cell) (U : State) : Prop := Arr .char a A U ∧ Typed .char A
theorem Ch.mv {a : Addr} {A : Cell} {U U' : State} (h : Ch a A U) (hal : U.vm.Alike U'.vm) (hh : U'.heap = U.heap) : Ch a A U' := ⟨h.1.mv hal hh, h.2⟩
theorem Ch.keep {a : Addr} {A : Cell} {U U' : State} (h : Ch a A U) (hal : U.vm.Alike U'.vm) (hk : U'.heap[a]? = some A) : Ch a A U' := ⟨h.1.keep hal hk, h.2⟩
/-- what place i of a char[]'s cell holds -/
def cv (A : Cell) (i : Nat) : Int32 := match A.slots[i]? with | some (.int x) => x | _ => 0
theorem Ch.get {a : Addr} {A : Cell} {U : State} (h : Ch a A U) {i : Nat} (hi : i < A.slots.size) : A.slots[i]? = some (.int (cv A i)) := by
  have e := Array.getElem?_eq_getElem hi
  have f := h.2 i _ e
  unfold cv; rw [e]
  generalize A.slots[i] = v at f
  cases v <;> simp [fits] at f ⊢
/-- the byte that i2b leaves of a char -/
def lo8 (x : Int32) : Int32 := x.toInt8.toInt32
theorem fits_lo8 (y : Int32) : fits .byte (.int (lo8 y)) = true := by
  have h1 := y.toInt8.le_toInt
  have h2 := y.toInt8.toInt_lt
  simp only [lo8, fits, Bool.and_eq_true, decide_eq_true_eq, Int32.le_iff_toInt_le, Int8.toInt_toInt32, show (-128 : Int32).toInt = -128 from by decide, show (127 : Int32).toInt = 127 from by decide]
  omega
/-- A' is A but that each place j of lo .. hi - 1 holds f j -/
def Laid (A A' : Cell) (lo hi : Nat) (f : Nat → Value) : Prop := A'.cls = A.cls ∧ A'.vm = A.vm ∧ A'.slots.size = A.slots.size ∧ ∀ i, A'.slots[i]? = if lo ≤ i ∧ i < hi then some (f i) else A.slots[i]?
theorem Laid.zero (A : Cell) (lo : Nat) (f : Nat → Value) : Laid A A lo (lo + 0) f := ⟨rfl, rfl, rfl, fun i => by rw [if_neg (by omega)]⟩
theorem Laid.step {A Ak : Cell} {lo k : Nat} {f : Nat → Value} {v : Value} (h : Laid A Ak lo k f) (hlo : lo ≤ k) (hk : k < Ak.slots.size) (hv : v = f k) : Laid A (Ak.setSlot k v) lo (k + 1) f := by
  refine ⟨h.1, h.2.1, by simpa [Cell.setSlot] using h.2.2.1, fun i => ?_⟩
  by_cases e : k = i
  · subst e; rw [Cell.slots_setSlot_self v hk, if_pos (by omega), hv]
  · rw [Cell.slots_setSlot_ne v e, h.2.2.2 i]
    by_cases q : lo ≤ i ∧ i < k
    · rw [if_pos q, if_pos (by omega)]
    · rw [if_neg q, if_neg (by omega)]
def U16 : String := "java/lang/StringUTF16"
namespace Cmp5
def yN : MethodName := ⟨"java/lang/StringUTF16", "compress", "([CI[BII)I"⟩
abbrev yB : ByteArray := jdk_52_method_21_code
theorem d0 : decode yB 0 = .ok (.iconst 0, 1) := by decide +kernel
theorem d1 : decode yB 1 = .ok (.istore 5, 2) := by decide +kernel
theorem d3 : decode yB 3 = .ok (.iload 5, 2) := by decide +kernel
theorem d5 : decode yB 5 = .ok (.iload 4, 2) := by decide +kernel
theorem d7 : decode yB 7 = .ok (.if_icmp (.ge) 37, 3) := by decide +kernel
theorem d10 : decode yB 10 = .ok (.aload_n 0, 1) := by decide +kernel
theorem d11 : decode yB 11 = .ok (.iload_n 1, 1) := by decide +kernel
theorem d12 : decode yB 12 = .ok (.caload, 1) := by decide +kernel
theorem d13 : decode yB 13 = .ok (.istore 6, 2) := by decide +kernel
theorem d15 : decode yB 15 = .ok (.iload 6, 2) := by decide +kernel
theorem d17 : decode yB 17 = .ok (.sipush 255, 3) := by decide +kernel
theorem d20 : decode yB 20 = .ok (.if_icmp (.le) 6, 3) := by decide +kernel
theorem d26 : decode yB 26 = .ok (.aload_n 2, 1) := by decide +kernel
theorem d27 : decode yB 27 = .ok (.iload_n 3, 1) := by decide +kernel
theorem d28 : decode yB 28 = .ok (.iload 6, 2) := by decide +kernel
theorem d30 : decode yB 30 = .ok (.i2b, 1) := by decide +kernel
theorem d31 : decode yB 31 = .ok (.bastore, 1) := by decide +kernel
theorem d32 : decode yB 32 = .ok (.iinc 1 1, 3) := by decide +kernel
theorem d35 : decode yB 35 = .ok (.iinc 3 1, 3) := by decide +kernel
theorem d38 : decode yB 38 = .ok (.iinc 5 1, 3) := by decide +kernel
theorem d41 : decode yB 41 = .ok (.goto (-38), 3) := by decide +kernel
theorem d44 : decode yB 44 = .ok (.iload 4, 2) := by decide +kernel
theorem d46 : decode yB 46 = .ok (.ireturn, 1) := by decide +kernel
def site : List Cond := []
def tab : Cond := tabOf yN yB 7 (some .int) site
def P (b : Addr) (A : Cell) (d : Addr) (B : Cell) (o q len : Nat) (args : Array Value) (s : State) : Prop := args = #[.ref b, .int (Int32.ofNat o), .ref d, .int (Int32.ofNat q), .int (Int32.ofNat len)] ∧ Ch b A s ∧ Arr .byte d B s ∧ b ≠ d ∧ o + len ≤ A.slots.size ∧ q + len ≤ B.slots.size ∧ ∀ i, i < len → ¬ 255 < cv A (o + i)
def E (b : Addr) (A : Cell) (d : Addr) (B : Cell) (o q len : Nat) (r : Option Value) (s u : State) : Prop := r = some (.int (Int32.ofNat len)) ∧ ∃ B', Put d B' s u ∧ Laid B B' q (q + len) (fun j => Value.int (lo8 (cv A (o + (j - q)))))
/-- no char of the range above 255: len; the places written hold each char's low byte -/
theorem law (l : Launch) (b : Addr) (A : Cell) (d : Addr) (B : Cell) (o q len : Nat) : Law l yN 5 5 0 0 yB 7 (some .int) site (P b A d B o q len) (E b A d B o q len) (copyLocs d q len) 0 0 := by
  refine Law.of_walk (plainFor_of_name (by decide +kernel)) (by decide +kernel) (by decide +kernel) (by decide) (fun _ _ h => by rw [h.1]; rfl) (fun _ U U' hal hh h => ⟨h.1, h.2.1.mv hal hh, h.2.2.1.mv hal hh, h.2.2.2⟩) (fun r U U' V V' h1 hal h2 h => ⟨h.1, h.2.elim fun B' q => ⟨B', q.1.mv h1 h2, q.2⟩⟩) ?_
  intro p e s m args below meth c s₁ X0 hexec hbytes hml hret hlk hnm hown hh0 W hP
  obtain ⟨rfl, hA, hB, hne, l1, l2, hp⟩ := hP
  have c1 : Steps p.tables e below (s₁.setTop (entryFrame m #[.ref b, .int (Int32.ofNat o), .ref d, .int (Int32.ofNat q), .int (Int32.ofNat len)] 7)) (s₁.setTop (mkF m 0 #[.val (.ref b), .val (.int (Int32.ofNat o)), .val (.ref d), .val (.int (Int32.ofNat q)), .val (.int (Int32.ofNat len)), .unset, .unset] [])) := entry rfl
  have hA0 := hA.1.mv X0.warmed.alike hh0
  have hB0 := hB.mv X0.warmed.alike hh0
  have a31 := hA.1.2.2.2
  have c2 : Steps p.tables e below (s₁.setTop (entryFrame m #[.ref b, .int (Int32.ofNat o), .ref d, .int (Int32.ofNat q), .int (Int32.ofNat len)] 7)) (s₁.setTop (mkF m 3 #[.val (.ref b), .val (.int (Int32.ofNat o)), .val (.ref d), .val (.int (Int32.ofNat q)), .val (.int (Int32.ofNat len)), .val (.int 0), .unset] [])) := c1.trans (by
    refine iconstV X0.here hexec rfl 0 (hb hbytes d0) (by decide) ?_
    refine XS.istore X0.here hexec rfl (hb hbytes d1) rfl rfl ?_
    exact Steps.refl _)
  have loop : ∀ (r i : Nat), i + r = len → ∀ (z : Slot), (z = .unset ∨ ∃ w, z = .val w ∧ w.category = 1) → ∀ (Tl : State) (Bk : Cell), Stand p l e { frames := 0, locals := 0, cells := 0, slots := 0 } s m #[.ref b, .int (Int32.ofNat o), .ref d, .int (Int32.ofNat q), .int (Int32.ofNat len)] below meth c Tl ([] ++ copyLocs d q i) 0 0 → Put d Bk s₁ Tl → Laid B Bk q (q + i) (fun j => Value.int (lo8 (cv A (o + (j - q))))) →
      Steps p.tables e below (s₁.setTop (entryFrame m #[.ref b, .int (Int32.ofNat o), .ref d, .int (Int32.ofNat q), .int (Int32.ofNat len)] 7)) (Tl.setTop (mkF m 3 #[.val (.ref b), .val (.int (Int32.ofNat (o + i))), .val (.ref d), .val (.int (Int32.ofNat (q + i))), .val (.int (Int32.ofNat len)), .val (.int (Int32.ofNat i)), z] [])) → ∃ (T' : State) (B' : Cell) (z' : Slot), Stand p l e { frames := 0, locals := 0, cells := 0, slots := 0 } s m #[.ref b, .int (Int32.ofNat o), .ref d, .int (Int32.ofNat q), .int (Int32.ofNat len)] below meth c T' ([] ++ copyLocs d q len) 0 0 ∧ Put d B' s₁ T' ∧ Laid B B' q (q + len) (fun j => Value.int (lo8 (cv A (o + (j - q))))) ∧
      Steps p.tables e below (s₁.setTop (entryFrame m #[.ref b, .int (Int32.ofNat o), .ref d, .int (Int32.ofNat q), .int (Int32.ofNat len)] 7)) (T'.setTop (mkF m 3 #[.val (.ref b), .val (.int (Int32.ofNat (o + len))), .val (.ref d), .val (.int (Int32.ofNat (q + len))), .val (.int (Int32.ofNat len)), .val (.int (Int32.ofNat len)), z'] [])) := by
    intro r
    induction r with
    | zero =>
      intro i hi z hz Tl Bk Xl pl fl cl
      have hil : i = len := by omega
      rw [hil] at Xl fl cl
      exact ⟨Tl, Bk, z, Xl, pl, fl, cl⟩
    | succ r ih =>
      intro i hi z hz Tl Bk Xl pl fl cl
      have all := X0.warmed.alike.symm.trans Xl.warmed.alike
      have hAl := hA0.keep all (pl.other hne hA0.1)
      have hBk := hB0.like all pl.1 fl.1 fl.2.1 fl.2.2.1
      have hlt : q + i < Bk.slots.size := by rw [fl.2.2.1]; omega
      have c3 : Steps p.tables e below (s₁.setTop (entryFrame m #[.ref b, .int (Int32.ofNat o), .ref d, .int (Int32.ofNat q), .int (Int32.ofNat len)] 7)) (Tl.setTop (mkF m 12 #[.val (.ref b), .val (.int (Int32.ofNat (o + i))), .val (.ref d), .val (.int (Int32.ofNat (q + i))), .val (.int (Int32.ofNat len)), .val (.int (Int32.ofNat i)), z] [.int (Int32.ofNat (o + i)), .ref b])) := cl.trans (by
        refine XS.iload Xl.here hexec rfl (hb hbytes d3) rfl ?_
        refine XS.iload Xl.here hexec rfl (hb hbytes d5) rfl ?_
        refine XS.icmpNo Xl.here hexec rfl (hb hbytes d7) rfl (ii_ge_f (lt32 (by omega) (by omega))) ?_
        refine XS.aloadN Xl.here hexec rfl (hb hbytes d10) rfl rfl ?_
        refine XS.iloadN Xl.here hexec rfl (hb hbytes d11) rfl ?_
        exact Steps.refl _)
      have c4 : Steps p.tables e below (s₁.setTop (entryFrame m #[.ref b, .int (Int32.ofNat o), .ref d, .int (Int32.ofNat q), .int (Int32.ofNat len)] 7)) (Tl.setTop (mkF m 13 #[.val (.ref b), .val (.int (Int32.ofNat (o + i))), .val (.ref d), .val (.int (Int32.ofNat (q + i))), .val (.int (Int32.ofNat len)), .val (.int (Int32.ofNat i)), z] [.int (cv A (o + i))])) := c3.trans (by
        refine Xl.aget hexec hAl rfl (hA.get (i := o + i) (by omega)) rfl rfl (hb hbytes d12) ?_
        exact Steps.refl _)
      have c5 : Steps p.tables e below (s₁.setTop (entryFrame m #[.ref b, .int (Int32.ofNat o), .ref d, .int (Int32.ofNat q), .int (Int32.ofNat len)] 7)) (Tl.setTop (mkF m 15 #[.val (.ref b), .val (.int (Int32.ofNat (o + i))), .val (.ref d), .val (.int (Int32.ofNat (q + i))), .val (.int (Int32.ofNat len)), .val (.int (Int32.ofNat i)), .val (.int (cv A (o + i)))] [])) := c4.trans (by
        refine XS.istoreS Xl.here hexec rfl (hb hbytes d13) rfl rfl hz ?_
        exact Steps.refl _)
      have c6 : Steps p.tables e below (s₁.setTop (entryFrame m #[.ref b, .int (Int32.ofNat o), .ref d, .int (Int32.ofNat q), .int (Int32.ofNat len)] 7)) (Tl.setTop (mkF m 31 #[.val (.ref b), .val (.int (Int32.ofNat (o + i))), .val (.ref d), .val (.int (Int32.ofNat (q + i))), .val (.int (Int32.ofNat len)), .val (.int (Int32.ofNat i)), .val (.int (cv A (o + i)))] [.int (lo8 (cv A (o + i))), .int (Int32.ofNat (q + i)), .ref d])) := c5.trans (by
        refine XS.iload Xl.here hexec rfl (hb hbytes d15) rfl ?_
        refine sipushV Xl.here hexec rfl 255 (hb hbytes d17) (by decide) ?_
        refine XS.icmpYes Xl.here hexec rfl (pc0 := 20) rfl (hb hbytes d20) rfl (ii_le_t (hp i (by omega))) (by decide) rfl ?_
        refine XS.aloadN Xl.here hexec rfl (hb hbytes d26) rfl rfl ?_
        refine XS.iloadN Xl.here hexec rfl (hb hbytes d27) rfl ?_
        refine XS.iload Xl.here hexec rfl (hb hbytes d28) rfl ?_
        refine i2b Xl.here hexec rfl (hb hbytes d30) rfl ?_
        exact Steps.refl _)
      obtain ⟨T7, X7, p7, st7⟩ := Xl.aput hexec hBk rfl hlt rfl (fits_lo8 (cv A (o + i))) (g := (mkF m 31 #[.val (.ref b), .val (.int (Int32.ofNat (o + i))), .val (.ref d), .val (.int (Int32.ofNat (q + i))), .val (.int (Int32.ofNat len)), .val (.int (Int32.ofNat i)), .val (.int (cv A (o + i)))] [.int (lo8 (cv A (o + i))), .int (Int32.ofNat (q + i)), .ref d])) rfl (rest := []) rfl (hb hbytes d31)
      have c8 : Steps p.tables e below (s₁.setTop (entryFrame m #[.ref b, .int (Int32.ofNat o), .ref d, .int (Int32.ofNat q), .int (Int32.ofNat len)] 7)) (T7.setTop (mkF m 32 #[.val (.ref b), .val (.int (Int32.ofNat (o + i))), .val (.ref d), .val (.int (Int32.ofNat (q + i))), .val (.int (Int32.ofNat len)), .val (.int (Int32.ofNat i)), .val (.int (cv A (o + i)))] [])) := c6.trans (st7 _ (Steps.refl _))
      have c9 : Steps p.tables e below (s₁.setTop (entryFrame m #[.ref b, .int (Int32.ofNat o), .ref d, .int (Int32.ofNat q), .int (Int32.ofNat len)] 7)) (T7.setTop (mkF m 3 #[.val (.ref b), .val (.int (Int32.ofNat (o + i) + 1)), .val (.ref d), .val (.int (Int32.ofNat (q + i) + 1)), .val (.int (Int32.ofNat len)), .val (.int (Int32.ofNat i + 1)), .val (.int (cv A (o + i)))] [])) := c8.trans (by
        refine iincV X7.here hexec rfl 1 (hb hbytes d32) (by decide) rfl rfl ?_
        refine iincV X7.here hexec rfl 1 (hb hbytes d35) (by decide) rfl rfl ?_
        refine iincV X7.here hexec rfl 1 (hb hbytes d38) (by decide) rfl rfl ?_
        refine XS.goto X7.here hexec rfl (pc0 := 41) rfl (hb hbytes d41) (by decide) rfl ?_
        exact Steps.refl _)
      have c10 : Steps p.tables e below (s₁.setTop (entryFrame m #[.ref b, .int (Int32.ofNat o), .ref d, .int (Int32.ofNat q), .int (Int32.ofNat len)] 7)) (T7.setTop (mkF m 3 #[.val (.ref b), .val (.int (Int32.ofNat (o + (i + 1)))), .val (.ref d), .val (.int (Int32.ofNat (q + (i + 1)))), .val (.int (Int32.ofNat len)), .val (.int (Int32.ofNat (i + 1))), .val (.int (cv A (o + i)))] [])) := by
        have := c9
        rw [succ32, succ32, succ32] at this
        exact this
      exact ih (i + 1) (by omega) _ (Or.inr ⟨_, rfl, rfl⟩) T7 _ (by rw [copyLocs_step, ← List.append_assoc]; exact X7) (pl.trans p7) (fl.step (by omega) hlt (by simp)) c10
  obtain ⟨T9, B9, z9, X9, p9, f9, g9⟩ := loop len 0 (by omega) .unset (Or.inl rfl) s₁ B (by simpa [copyLocs] using X0) ⟨hB0.1, fun _ _ => rfl, rfl⟩ (Laid.zero _ _ _) c2
  have c11 : Steps p.tables e below (s₁.setTop (entryFrame m #[.ref b, .int (Int32.ofNat o), .ref d, .int (Int32.ofNat q), .int (Int32.ofNat len)] 7)) (T9.setTop (mkF m 46 #[.val (.ref b), .val (.int (Int32.ofNat (o + len))), .val (.ref d), .val (.int (Int32.ofNat (q + len))), .val (.int (Int32.ofNat len)), .val (.int (Int32.ofNat len)), z9] [.int (Int32.ofNat len)])) := g9.trans (by
    refine XS.iload X9.here hexec rfl (hb hbytes d3) rfl ?_
    refine XS.iload X9.here hexec rfl (hb hbytes d5) rfl ?_
    refine XS.icmpYes X9.here hexec rfl (pc0 := 7) rfl (hb hbytes d7) rfl (ii_ge_t (nlt32 (by omega) (Nat.le_refl _))) (by decide) rfl ?_
    refine XS.iload X9.here hexec rfl (hb hbytes d44) rfl ?_
    exact Steps.refl _)
  exact ⟨T9, some (.int (Int32.ofNat len)), _, _, _, X9, by simp, rfl, rfl, (fun h => by cases h), ⟨rfl, B9, p9.from hh0, f9⟩, fun fs hl => c11.trans (X9.ireturnOut hexec hret rfl (Or.inl rfl) (hb hbytes d46) hl)⟩
end Cmp5
namespace Cmp3
def yN : MethodName := ⟨"java/lang/StringUTF16", "compress", "([CII)[B"⟩
abbrev yB : ByteArray := jdk_52_method_16_code
theorem d0 : decode yB 0 = .ok (.iload_n 2, 1) := by decide +kernel
theorem d1 : decode yB 1 = .ok (.newarray .byte, 2) := by decide +kernel
theorem d3 : decode yB 3 = .ok (.astore_n 3, 1) := by decide +kernel
theorem d4 : decode yB 4 = .ok (.aload_n 0, 1) := by decide +kernel
theorem d5 : decode yB 5 = .ok (.iload_n 1, 1) := by decide +kernel
theorem d6 : decode yB 6 = .ok (.aload_n 3, 1) := by decide +kernel
theorem d7 : decode yB 7 = .ok (.iconst 0, 1) := by decide +kernel
theorem d8 : decode yB 8 = .ok (.iload_n 2, 1) := by decide +kernel
theorem d9 : decode yB 9 = .ok (.invokestatic 115, 3) := by decide +kernel
theorem d12 : decode yB 12 = .ok (.istore 4, 2) := by decide +kernel
theorem d14 : decode yB 14 = .ok (.iload 4, 2) := by decide +kernel
theorem d16 : decode yB 16 = .ok (.iload_n 2, 1) := by decide +kernel
theorem d17 : decode yB 17 = .ok (.if_icmp (.eq) 40, 3) := by decide +kernel
theorem d57 : decode yB 57 = .ok (.aload_n 3, 1) := by decide +kernel
theorem d58 : decode yB 58 = .ok (.areturn, 1) := by decide +kernel
def site : List Cond := [.arrayClass .byte, Cmp5.tab] ++ staticW U16 115 Cmp5.yN
def tab : Cond := tabOf yN yB 6 (some (.array .byte)) site
def P (b : Addr) (A : Cell) (o len : Nat) (args : Array Value) (s : State) : Prop := args = #[.ref b, .int (Int32.ofNat o), .int (Int32.ofNat len)] ∧ Ch b A s ∧ o + len ≤ A.slots.size ∧ len ≤ 536870912 ∧ ∀ i, i < len → ¬ 255 < cv A (o + i)
def E (b : Addr) (A : Cell) (o len : Nat) (r : Option Value) (s u : State) : Prop := NewArr .byte "[B" len (fun j => .int (lo8 (cv A (o + j)))) r s u ∧ u.heap.size = s.heap.size + 1
/-- no char of the range above 255: a new byte[] of their low bytes -/
theorem law (l : Launch) (b : Addr) (A : Cell) (o len : Nat) : Law l yN 3 3 1 18 yB 6 (some (.array .byte)) site (P b A o len) (E b A o len) [] 1 len := by
  refine Law.of_walk (plainFor_of_name (by decide +kernel)) (by decide +kernel) (by decide +kernel) (by decide) (fun _ _ h => by rw [h.1]; rfl) (fun _ U U' hal hh h => ⟨h.1, h.2.1.mv hal hh, h.2.2⟩) (fun r U U' V V' h1 hal h2 h => ⟨NewArr.mv r U U' V V' h1 hal h2 h.1, by rw [h1, h2]; exact h.2⟩) ?_
  intro p e s m args below meth c s₁ X0 hexec hbytes hml hret hlk hnm hown hh0 W hP
  obtain ⟨rfl, hA, l1, l2, hp⟩ := hP
  have a31 := hA.1.2.2.2
  have c1 : Steps p.tables e below (s₁.setTop (entryFrame m #[.ref b, .int (Int32.ofNat o), .int (Int32.ofNat len)] 6)) (s₁.setTop (mkF m 0 #[.val (.ref b), .val (.int (Int32.ofNat o)), .val (.int (Int32.ofNat len)), .unset, .unset, .unset] [])) := entry rfl
  have c2 : Steps p.tables e below (s₁.setTop (entryFrame m #[.ref b, .int (Int32.ofNat o), .int (Int32.ofNat len)] 6)) (s₁.setTop (mkF m 1 #[.val (.ref b), .val (.int (Int32.ofNat o)), .val (.int (Int32.ofNat len)), .unset, .unset, .unset] [.int (Int32.ofNat len)])) := c1.trans (by
    refine XS.iloadN X0.here hexec rfl (hb hbytes d0) rfl ?_
    exact Steps.refl _)
  obtain ⟨T3, B3, X3, ba3, bs3, bv3, bh3, bf3, st3⟩ := X0.anew hexec (atype := .byte) (wk W (.arrayClass .byte)) rfl (by show len * 1 ≤ _; omega) (by omega) (g := (mkF m 1 #[.val (.ref b), .val (.int (Int32.ofNat o)), .val (.int (Int32.ofNat len)), .unset, .unset, .unset] [.int (Int32.ofNat len)])) rfl (hb hbytes d1) (rest := []) rfl (Nat.le_refl _) (by show 0 + len ≤ len; omega)
  rw [hh0] at ba3 st3
  have kp3 : XT.Kept s T3 := (XT.Kept.of_eq hh0).push bh3
  have hA3 := hA.keep X3.warmed.alike (kp3 _ _ hA.1.1)
  have hne : b ≠ s.heap.size := hA.1.ne
  have c4 : Steps p.tables e below (s₁.setTop (entryFrame m #[.ref b, .int (Int32.ofNat o), .int (Int32.ofNat len)] 6)) (T3.setTop (mkF m 3 #[.val (.ref b), .val (.int (Int32.ofNat o)), .val (.int (Int32.ofNat len)), .unset, .unset, .unset] [.ref s.heap.size])) := c2.trans (st3 _ (Steps.refl _))
  have c5 : Steps p.tables e below (s₁.setTop (entryFrame m #[.ref b, .int (Int32.ofNat o), .int (Int32.ofNat len)] 6)) (T3.setTop (mkF m 9 #[.val (.ref b), .val (.int (Int32.ofNat o)), .val (.int (Int32.ofNat len)), .val (.ref s.heap.size), .unset, .unset] [.int (Int32.ofNat len), .int 0, .ref s.heap.size, .int (Int32.ofNat o), .ref b])) := c4.trans (by
    refine XS.astoreN X3.here hexec rfl (hb hbytes d3) rfl rfl rfl ?_
    refine XS.aloadN X3.here hexec rfl (hb hbytes d4) rfl rfl ?_
    refine XS.iloadN X3.here hexec rfl (hb hbytes d5) rfl ?_
    refine XS.aloadN X3.here hexec rfl (hb hbytes d6) rfl rfl ?_
    refine iconstV X3.here hexec rfl 0 (hb hbytes d7) (by decide) ?_
    refine XS.iloadN X3.here hexec rfl (hb hbytes d8) rfl ?_
    exact Steps.refl _)
  obtain ⟨v6, T6, X6, E6, g6⟩ := X3.callS hexec (Cmp5.law l b A s.heap.size B3 o 0 len) hown (wks W (staticW U16 115 Cmp5.yN)) (wk W Cmp5.tab) (W := 0) (Nat.le_of_ble_eq_true rfl) (Nat.le_of_ble_eq_true rfl) (Nat.le_refl _) (by show 0 + len + 0 ≤ len; omega) (g := (mkF m 9 #[.val (.ref b), .val (.int (Int32.ofNat o)), .val (.int (Int32.ofNat len)), .val (.ref s.heap.size), .unset, .unset] [.int (Int32.ofNat len), .int (Int32.ofNat 0), .ref s.heap.size, .int (Int32.ofNat o), .ref b])) rfl (by rw [hml]; rfl) c5 (argsL := [.ref b, .int (Int32.ofNat o), .ref s.heap.size, .int (Int32.ofNat 0), .int (Int32.ofNat len)]) (rest := []) rfl rfl (by show 2 * 0 + 0 ≤ _; decide) (hb hbytes d9) (⟨rfl, hA3, ba3, hne, l1, by rw [bs3]; simp, hp⟩)
  obtain ⟨rfl, B6, p6, f6⟩ := E6
  have c7 : Steps p.tables e below (s₁.setTop (entryFrame m #[.ref b, .int (Int32.ofNat o), .int (Int32.ofNat len)] 6)) (T6.setTop (mkF m 12 #[.val (.ref b), .val (.int (Int32.ofNat o)), .val (.int (Int32.ofNat len)), .val (.ref s.heap.size), .unset, .unset] [.int (Int32.ofNat len)])) := g6
  have c8 : Steps p.tables e below (s₁.setTop (entryFrame m #[.ref b, .int (Int32.ofNat o), .int (Int32.ofNat len)] 6)) (T6.setTop (mkF m 58 #[.val (.ref b), .val (.int (Int32.ofNat o)), .val (.int (Int32.ofNat len)), .val (.ref s.heap.size), .val (.int (Int32.ofNat len)), .unset] [.ref s.heap.size])) := c7.trans (by
    refine XS.istore X6.here hexec rfl (hb hbytes d12) rfl rfl ?_
    refine XS.iload X6.here hexec rfl (hb hbytes d14) rfl ?_
    refine XS.iloadN X6.here hexec rfl (hb hbytes d16) rfl ?_
    refine XS.icmpYes X6.here hexec rfl (pc0 := 17) rfl (hb hbytes d17) rfl (ii_eq_t rfl) (by decide) rfl ?_
    refine XS.aloadN X6.here hexec rfl (hb hbytes d57) rfl rfl ?_
    exact Steps.refl _)
  have X8 := X6.wide (L' := []) (cells' := 1) (slots' := len) (fun x hx hlt => by
    simp only [List.nil_append, copyLocs, List.mem_map, List.mem_range] at hx
    obtain ⟨i, -, rfl⟩ := hx
    exact absurd hlt (Nat.lt_irrefl _)) (Nat.le_refl _) (by omega)
  exact ⟨T6, some (.ref s.heap.size), _, _, _, X8, rfl, rfl, rfl, (fun h => by cases h), ⟨⟨rfl, B6, ba3.like (X3.warmed.alike.symm.trans X6.warmed.alike) p6.1 f6.1 f6.2.1 f6.2.2.1, f6.2.1.trans bv3, by rw [X6.warmed.alike.findClass, f6.1]; exact bf3, by rw [f6.2.2.1, bs3]; simp, fun j hj => by rw [f6.2.2.2 j, if_pos (by omega)]; rfl, kp3.put p6 (Nat.le_refl _)⟩, by rw [p6.2.2, bh3, hh0]; simp⟩, fun fs hl => c8.trans (X8.areturnOut hexec rfl hret rfl (hb hbytes d58) hl)⟩
end Cmp3
namespace CodL
def yN : MethodName := ⟨"java/lang/StringUTF16", "coderFromArrayLen", "([BI)B"⟩
abbrev yB : ByteArray := jdk_52_method_15_code
theorem d0 : decode yB 0 = .ok (.iload_n 1, 1) := by decide +kernel
theorem d1 : decode yB 1 = .ok (.aload_n 0, 1) := by decide +kernel
theorem d2 : decode yB 2 = .ok (.arraylength, 1) := by decide +kernel
theorem d3 : decode yB 3 = .ok (.isub, 1) := by decide +kernel
theorem d4 : decode yB 4 = .ok (.bipush 31, 2) := by decide +kernel
theorem d6 : decode yB 6 = .ok (.iushr, 1) := by decide +kernel
theorem d7 : decode yB 7 = .ok (.i2b, 1) := by decide +kernel
theorem d8 : decode yB 8 = .ok (.ireturn, 1) := by decide +kernel
def site : List Cond := []
def tab : Cond := tabOf yN yB 2 (some .byte) site
def P (d : Addr) (B : Cell) (args : Array Value) (s : State) : Prop := args = #[.ref d, .int (Int32.ofNat B.slots.size)] ∧ Arr .byte d B s
def E (r : Option Value) (s u : State) : Prop := XT.PureE (some (.int 0)) r s u
/-- an array as long as the number of chars: LATIN1 -/
theorem law (l : Launch) (d : Addr) (B : Cell) : Law l yN 2 2 0 0 yB 2 (some .byte) site (P d B) E [] 0 0 := by
  refine Law.of_walk (plainFor_of_name (by decide +kernel)) (by decide +kernel) (by decide +kernel) (by decide) (fun _ _ h => by rw [h.1]; rfl) (fun _ U U' hal hh h => ⟨h.1, h.2.mv hal hh⟩) (fun r U U' V V' h1 hal h2 h => XT.PureE.mv r U U' V V' h1 hal h2 h) ?_
  intro p e s m args below meth c s₁ X0 hexec hbytes hml hret hlk hnm hown hh0 W hP
  obtain ⟨rfl, hB⟩ := hP
  have hB0 := hB.mv X0.warmed.alike hh0
  have c1 : Steps p.tables e below (s₁.setTop (entryFrame m #[.ref d, .int (Int32.ofNat B.slots.size)] 2)) (s₁.setTop (mkF m 0 #[.val (.ref d), .val (.int (Int32.ofNat B.slots.size))] [])) := entry rfl
  have c2 : Steps p.tables e below (s₁.setTop (entryFrame m #[.ref d, .int (Int32.ofNat B.slots.size)] 2)) (s₁.setTop (mkF m 2 #[.val (.ref d), .val (.int (Int32.ofNat B.slots.size))] [.ref d, .int (Int32.ofNat B.slots.size)])) := c1.trans (by
    refine XS.iloadN X0.here hexec rfl (hb hbytes d0) rfl ?_
    refine XS.aloadN X0.here hexec rfl (hb hbytes d1) rfl rfl ?_
    exact Steps.refl _)
  have c3 : Steps p.tables e below (s₁.setTop (entryFrame m #[.ref d, .int (Int32.ofNat B.slots.size)] 2)) (s₁.setTop (mkF m 8 #[.val (.ref d), .val (.int (Int32.ofNat B.slots.size))] [.int (lo8 (ushr (Int32.ofNat B.slots.size - Int32.ofNat B.slots.size) 31))])) := c2.trans (by
    refine X0.alen hexec hB0 rfl rfl (hb hbytes d2) ?_
    refine XS.isub X0.here hexec rfl (hb hbytes d3) rfl ?_
    refine bipushV X0.here hexec rfl 31 (hb hbytes d4) (by decide) ?_
    refine iushr X0.here hexec rfl (hb hbytes d6) rfl ?_
    refine i2b X0.here hexec rfl (hb hbytes d7) rfl ?_
    exact Steps.refl _)
  have e0 : lo8 (ushr (Int32.ofNat B.slots.size - Int32.ofNat B.slots.size) 31) = 0 := by rw [Int32.sub_self]; decide
  rw [e0] at c3
  exact ⟨s₁, some (.int 0), _, _, _, X0, rfl, rfl, rfl, (fun h => by cases h), ⟨rfl, hh0⟩, fun fs hl => c3.trans (X0.ireturnOut hexec hret rfl (Or.inr (Or.inr (Or.inl rfl))) (hb hbytes d8) hl)⟩
end CodL
/-- the String at a is Latin-1 over a new byte[] (the heap's one new cell): the low bytes of the len chars of A from o on; every cell but a is kept -/
def Got (a : Addr) (D : Cell) (fV fC : Field) (A : Cell) (o len : Nat) (r : Option Value) (s u : State) : Prop := r = none ∧ ∃ D' V : Cell, Blank "java/lang/String" a D' u ∧ Same D D' [fV.slot, fC.slot] ∧ D'.slots[fV.slot]? = some (.ref s.heap.size) ∧ D'.slots[fC.slot]? = some (.int 0) ∧ Arr .byte s.heap.size V u ∧ V.vm = .none ∧ u.vm.findClass "[B" = some V.cls ∧ V.slots.size = len ∧ (∀ j, j < len → V.slots[j]? = some (.int (lo8 (cv A (o + j))))) ∧ (∀ (y : Addr) (c : Cell), y ≠ a → s.heap[y]? = some c → u.heap[y]? = some c) ∧ u.heap.size = s.heap.size + 1
theorem Got.mv {a : Addr} {D A : Cell} {fV fC : Field} {o len : Nat} : ∀ r (U U' V V' : State), U'.heap = U.heap → V.vm.Alike V'.vm → V'.heap = V.heap → Got a D fV fC A o len r U V → Got a D fV fC A o len r U' V' :=
  fun r U U' V V' h1 hal h2 ⟨e0, D', X, a1, a2, a3, a4, a5, a6, a7, a8, a9, a10, a11⟩ => ⟨e0, D', X, a1.mv hal h2, a2, by rw [h1]; exact a3, a4, by rw [h1]; exact a5.mv hal h2, a6, by rw [hal.findClass]; exact a7, a8, a9, by rw [h1, h2]; exact a10, by rw [h1, h2]; exact a11⟩
namespace New4
def yN : MethodName := ⟨"java/lang/String", "<init>", "([CIILjava/lang/Void;)V"⟩
abbrev yB : ByteArray := jdk_42_method_149_code
theorem d0 : decode yB 0 = .ok (.aload_n 0, 1) := by decide +kernel
theorem d1 : decode yB 1 = .ok (.invokespecial 1, 3) := by decide +kernel
theorem d4 : decode yB 4 = .ok (.iload_n 3, 1) := by decide +kernel
theorem d5 : decode yB 5 = .ok (.ifCond (.ne) 22, 3) := by decide +kernel
theorem d27 : decode yB 27 = .ok (.getstatic 38, 3) := by decide +kernel
theorem d30 : decode yB 30 = .ok (.ifCond (.eq) 28, 3) := by decide +kernel
theorem d33 : decode yB 33 = .ok (.aload_n 1, 1) := by decide +kernel
theorem d34 : decode yB 34 = .ok (.iload_n 2, 1) := by decide +kernel
theorem d35 : decode yB 35 = .ok (.iload_n 3, 1) := by decide +kernel
theorem d36 : decode yB 36 = .ok (.invokestatic 177, 3) := by decide +kernel
theorem d39 : decode yB 39 = .ok (.astore 5, 2) := by decide +kernel
theorem d41 : decode yB 41 = .ok (.aload_n 0, 1) := by decide +kernel
theorem d42 : decode yB 42 = .ok (.aload 5, 2) := by decide +kernel
theorem d44 : decode yB 44 = .ok (.iload_n 3, 1) := by decide +kernel
theorem d45 : decode yB 45 = .ok (.invokestatic 47, 3) := by decide +kernel
theorem d48 : decode yB 48 = .ok (.putfield 15, 3) := by decide +kernel
theorem d51 : decode yB 51 = .ok (.aload_n 0, 1) := by decide +kernel
theorem d52 : decode yB 52 = .ok (.aload 5, 2) := by decide +kernel
theorem d54 : decode yB 54 = .ok (.putfield 9, 3) := by decide +kernel
theorem d57 : decode yB 57 = .ok (.return_, 1) := by decide +kernel
def site : List Cond := [.fieldLink "java/lang/String" 38 "java/lang/String" "COMPACT_STRINGS" "Z", Cmp3.tab, CodL.tab, .laysFinal "java/lang/String" "java/lang/String" "value" "[B", .fieldLink "java/lang/String" 9 "java/lang/String" "value" "[B", .laysFinal "java/lang/String" "java/lang/String" "coder" "B", .fieldLink "java/lang/String" 15 "java/lang/String" "coder" "B"] ++ objW "java/lang/String" 1 ++ staticW "java/lang/String" 177 Cmp3.yN ++ staticW "java/lang/String" 47 CodL.yN
def tab : Cond := tabOf yN yB 6 none site
def P (a : Addr) (D : Cell) (fV fC : Field) (b : Addr) (A : Cell) (z : Int32) (o len : Nat) (args : Array Value) (s : State) : Prop := args = #[.ref a, .ref b, .int (Int32.ofNat o), .int (Int32.ofNat len), .null] ∧ Blank "java/lang/String" a D s ∧ Found "java/lang/String" "value" "[B" fV s ∧ Found "java/lang/String" "coder" "B" fC s ∧ Ch b A s ∧ StaticIs s "java/lang/String" "COMPACT_STRINGS" "Z" (.int z) ∧ ¬ z = 0 ∧ 0 < len ∧ o + len ≤ A.slots.size ∧ len ≤ 536870912 ∧ ∀ i, i < len → ¬ 255 < cv A (o + i)
def E (a : Addr) (D : Cell) (fV fC : Field) (A : Cell) (o len : Nat) (r : Option Value) (s u : State) : Prop := Got a D fV fC A o len r s u
/-- len > 0, no char of the range above 255: a Latin-1 String of their low bytes -/
theorem law (l : Launch) (a : Addr) (D : Cell) (fV fC : Field) (b : Addr) (A : Cell) (z : Int32) (o len : Nat) : Law l yN 5 4 2 35 yB 6 none site (P a D fV fC b A z o len) (E a D fV fC A o len) [⟨a, fC.slot⟩, ⟨a, fV.slot⟩] 1 len := by
  refine Law.of_walk (plainFor_of_name (by decide +kernel)) (by decide +kernel) (by decide +kernel) (by decide) (fun _ _ h => by rw [h.1]; rfl) (fun _ U U' hal hh h => ⟨h.1, h.2.1.mv hal hh, h.2.2.1.al hal, h.2.2.2.1.al hal, h.2.2.2.2.1.mv hal hh, h.2.2.2.2.2.1.there hal hh, h.2.2.2.2.2.2⟩) (fun r U U' V V' h1 hal h2 h => Got.mv r U U' V V' h1 hal h2 h) ?_
  intro p e s m args below meth c s₁ X0 hexec hbytes hml hret hlk hnm hown hh0 W hP
  obtain ⟨rfl, hB, f1, f2, hA, s1, hz, l0, l1, l2, hp⟩ := hP
  have a31 := hA.1.2.2.2
  have c1 : Steps p.tables e below (s₁.setTop (entryFrame m #[.ref a, .ref b, .int (Int32.ofNat o), .int (Int32.ofNat len), .null] 6)) (s₁.setTop (mkF m 0 #[.val (.ref a), .val (.ref b), .val (.int (Int32.ofNat o)), .val (.int (Int32.ofNat len)), .val .null, .unset] [])) := entry rfl
  have c2 : Steps p.tables e below (s₁.setTop (entryFrame m #[.ref a, .ref b, .int (Int32.ofNat o), .int (Int32.ofNat len), .null] 6)) (s₁.setTop (mkF m 1 #[.val (.ref a), .val (.ref b), .val (.int (Int32.ofNat o)), .val (.int (Int32.ofNat len)), .val .null, .unset] [.ref a])) := c1.trans (by
    refine XS.aloadN X0.here hexec rfl (hb hbytes d0) rfl rfl ?_
    exact Steps.refl _)
  obtain ⟨T3, X3, q3, st3⟩ := X0.oinit hexec hown (wks W (objW "java/lang/String" 1)) (g := (mkF m 1 #[.val (.ref a), .val (.ref b), .val (.int (Int32.ofNat o)), .val (.int (Int32.ofNat len)), .val .null, .unset] [.ref a])) rfl (by rw [hml]; rfl) (rest := []) rfl (hb hbytes d1) (W := 0) (by show 2 * 0 + 0 ≤ _; decide) (Nat.le_of_ble_eq_true rfl) (Nat.le_of_ble_eq_true rfl)
  have hh3 := q3.trans hh0
  have c4 : Steps p.tables e below (s₁.setTop (entryFrame m #[.ref a, .ref b, .int (Int32.ofNat o), .int (Int32.ofNat len), .null] 6)) (T3.setTop (mkF m 27 #[.val (.ref a), .val (.ref b), .val (.int (Int32.ofNat o)), .val (.int (Int32.ofNat len)), .val .null, .unset] [])) := (c2.trans (st3 _ (Steps.refl _))).trans (by
    refine XS.iloadN X3.here hexec rfl (hb hbytes d4) rfl ?_
    refine XS.ifYes X3.here hexec rfl (pc0 := 5) rfl (hb hbytes d5) rfl (i0_ne_t (nz32 (by omega) l0)) (by decide) rfl ?_
    exact Steps.refl _)
  obtain ⟨T5, X5, q5, st5⟩ := X3.sget hexec hown (wk W (.fieldLink "java/lang/String" 38 "java/lang/String" "COMPACT_STRINGS" "Z")) s1 (fun _ _ h => by rw [hh3]; exact h) (g := (mkF m 27 #[.val (.ref a), .val (.ref b), .val (.int (Int32.ofNat o)), .val (.int (Int32.ofNat len)), .val .null, .unset] [])) rfl (hb hbytes d27)
  have hh5 := q5.trans hh3
  have c6 : Steps p.tables e below (s₁.setTop (entryFrame m #[.ref a, .ref b, .int (Int32.ofNat o), .int (Int32.ofNat len), .null] 6)) (T5.setTop (mkF m 30 #[.val (.ref a), .val (.ref b), .val (.int (Int32.ofNat o)), .val (.int (Int32.ofNat len)), .val .null, .unset] [.int z])) := c4.trans (st5 _ (Steps.refl _))
  have c7 : Steps p.tables e below (s₁.setTop (entryFrame m #[.ref a, .ref b, .int (Int32.ofNat o), .int (Int32.ofNat len), .null] 6)) (T5.setTop (mkF m 36 #[.val (.ref a), .val (.ref b), .val (.int (Int32.ofNat o)), .val (.int (Int32.ofNat len)), .val .null, .unset] [.int (Int32.ofNat len), .int (Int32.ofNat o), .ref b])) := c6.trans (by
    refine XS.ifNo X5.here hexec rfl (hb hbytes d30) rfl (i0_eq_f hz) ?_
    refine XS.aloadN X5.here hexec rfl (hb hbytes d33) rfl rfl ?_
    refine XS.iloadN X5.here hexec rfl (hb hbytes d34) rfl ?_
    refine XS.iloadN X5.here hexec rfl (hb hbytes d35) rfl ?_
    exact Steps.refl _)
  obtain ⟨v8, T8, X8, E8, g8⟩ := X5.callS hexec (Cmp3.law l b A o len) hown (wks W (staticW "java/lang/String" 177 Cmp3.yN)) (wk W Cmp3.tab) (W := 0) (Nat.le_of_ble_eq_true rfl) (Nat.le_of_ble_eq_true rfl) (Nat.le_refl _) (by show 0 + len ≤ len; omega) (g := (mkF m 36 #[.val (.ref a), .val (.ref b), .val (.int (Int32.ofNat o)), .val (.int (Int32.ofNat len)), .val .null, .unset] [.int (Int32.ofNat len), .int (Int32.ofNat o), .ref b])) rfl (by rw [hml]; rfl) c7 (argsL := [.ref b, .int (Int32.ofNat o), .int (Int32.ofNat len)]) (rest := []) rfl rfl (by show 2 * 0 + 0 ≤ _; decide) (hb hbytes d36) (⟨rfl, hA.mv X5.warmed.alike hh5, l1, l2, hp⟩)
  obtain ⟨e8, z8⟩ := E8
  obtain ⟨rfl, N, n1, n2, n3, n4, n5, n6⟩ := NewArr.mv _ T5 s _ _ hh5.symm (Vm.Alike.refl _) rfl e8
  rw [hh5] at z8
  have hB1 := hB.keep X8.warmed.alike (n6 _ _ hB.1)
  have hne : s.heap.size ≠ a := (Nat.ne_of_lt (Array.getElem?_eq_some_iff.mp hB.1).1).symm
  have c9 : Steps p.tables e below (s₁.setTop (entryFrame m #[.ref a, .ref b, .int (Int32.ofNat o), .int (Int32.ofNat len), .null] 6)) (T8.setTop (mkF m 39 #[.val (.ref a), .val (.ref b), .val (.int (Int32.ofNat o)), .val (.int (Int32.ofNat len)), .val .null, .unset] [.ref s.heap.size])) := g8
  have c10 : Steps p.tables e below (s₁.setTop (entryFrame m #[.ref a, .ref b, .int (Int32.ofNat o), .int (Int32.ofNat len), .null] 6)) (T8.setTop (mkF m 45 #[.val (.ref a), .val (.ref b), .val (.int (Int32.ofNat o)), .val (.int (Int32.ofNat len)), .val .null, .val (.ref s.heap.size)] [.int (Int32.ofNat N.slots.size), .ref s.heap.size, .ref a])) := by
    have hc : Steps p.tables e below (s₁.setTop (entryFrame m #[.ref a, .ref b, .int (Int32.ofNat o), .int (Int32.ofNat len), .null] 6)) (T8.setTop (mkF m 45 #[.val (.ref a), .val (.ref b), .val (.int (Int32.ofNat o)), .val (.int (Int32.ofNat len)), .val .null, .val (.ref s.heap.size)] [.int (Int32.ofNat len), .ref s.heap.size, .ref a])) := c9.trans (by
      refine XS.astore X8.here hexec rfl (hb hbytes d39) rfl rfl rfl ?_
      refine XS.aloadN X8.here hexec rfl (hb hbytes d41) rfl rfl ?_
      refine XS.aload X8.here hexec rfl (hb hbytes d42) rfl rfl ?_
      refine XS.iloadN X8.here hexec rfl (hb hbytes d44) rfl ?_
      exact Steps.refl _)
    rw [n4]; exact hc
  obtain ⟨v11, T11, X11, E11, g11⟩ := X8.callS hexec (CodL.law l s.heap.size N) hown (wks W (staticW "java/lang/String" 47 CodL.yN)) (wk W CodL.tab) (W := 1) (Nat.le_of_ble_eq_true rfl) (Nat.le_of_ble_eq_true rfl) (Nat.le_refl _) (by show 0 + len + 0 ≤ len; omega) (g := (mkF m 45 #[.val (.ref a), .val (.ref b), .val (.int (Int32.ofNat o)), .val (.int (Int32.ofNat len)), .val .null, .val (.ref s.heap.size)] [.int (Int32.ofNat N.slots.size), .ref s.heap.size, .ref a])) rfl (by rw [hml]; rfl) c10 (argsL := [.ref s.heap.size, .int (Int32.ofNat N.slots.size)]) (rest := [.ref a]) rfl rfl (by show 2 * 0 + (1 + 0) ≤ _; decide) (hb hbytes d45) (⟨rfl, n1⟩)
  obtain ⟨rfl, q11⟩ := E11
  have hB11 := hB1.mv (X8.warmed.alike.symm.trans X11.warmed.alike) q11
  have c12 : Steps p.tables e below (s₁.setTop (entryFrame m #[.ref a, .ref b, .int (Int32.ofNat o), .int (Int32.ofNat len), .null] 6)) (T11.setTop (mkF m 48 #[.val (.ref a), .val (.ref b), .val (.int (Int32.ofNat o)), .val (.int (Int32.ofNat len)), .val .null, .val (.ref s.heap.size)] [.int 0, .ref a])) := g11
  obtain ⟨T13, X13, p13, bl13, sl13, st13⟩ := X11.finit hexec hown (wk W (.fieldLink "java/lang/String" 15 "java/lang/String" "coder" "B")) (Or.inr ⟨_, (wk W (.laysFinal "java/lang/String" "java/lang/String" "coder" "B"))⟩) (Or.inl ⟨rfl, hnm⟩) f2 (Or.inl rfl) hB11 (t := .byte) (by decide +kernel) rfl (g := (mkF m 48 #[.val (.ref a), .val (.ref b), .val (.int (Int32.ofNat o)), .val (.int (Int32.ofNat len)), .val .null, .val (.ref s.heap.size)] [.int 0, .ref a])) rfl (rest := []) rfl (hb hbytes d48)
  have c14 : Steps p.tables e below (s₁.setTop (entryFrame m #[.ref a, .ref b, .int (Int32.ofNat o), .int (Int32.ofNat len), .null] 6)) (T13.setTop (mkF m 54 #[.val (.ref a), .val (.ref b), .val (.int (Int32.ofNat o)), .val (.int (Int32.ofNat len)), .val .null, .val (.ref s.heap.size)] [.ref s.heap.size, .ref a])) := (c12.trans (st13 _ (Steps.refl _))).trans (by
    refine XS.aloadN X13.here hexec rfl (hb hbytes d51) rfl rfl ?_
    refine XS.aload X13.here hexec rfl (hb hbytes d52) rfl rfl ?_
    exact Steps.refl _)
  obtain ⟨T15, X15, p15, bl15, sl15, st15⟩ := X13.finit hexec hown (wk W (.fieldLink "java/lang/String" 9 "java/lang/String" "value" "[B")) (Or.inr ⟨_, (wk W (.laysFinal "java/lang/String" "java/lang/String" "value" "[B"))⟩) (Or.inl ⟨rfl, hnm⟩) f1 (Or.inl rfl) bl13 (t := (.array .byte)) (by decide +kernel) rfl (g := (mkF m 54 #[.val (.ref a), .val (.ref b), .val (.int (Int32.ofNat o)), .val (.int (Int32.ofNat len)), .val .null, .val (.ref s.heap.size)] [.ref s.heap.size, .ref a])) rfl (rest := []) rfl (hb hbytes d54)
  have c16 : Steps p.tables e below (s₁.setTop (entryFrame m #[.ref a, .ref b, .int (Int32.ofNat o), .int (Int32.ofNat len), .null] 6)) (T15.setTop (mkF m 57 #[.val (.ref a), .val (.ref b), .val (.int (Int32.ofNat o)), .val (.int (Int32.ofNat len)), .val .null, .val (.ref s.heap.size)] [])) := c14.trans (st15 _ (Steps.refl _))
  have ap := apart (Or.inr ⟨_, (wk W (.laysFinal "java/lang/String" "java/lang/String" "value" "[B"))⟩) (Or.inr ⟨_, (wk W (.laysFinal "java/lang/String" "java/lang/String" "coder" "B"))⟩) f1 f2 (t₁ := .array .byte) (t₂ := .byte) (by decide +kernel) (by decide +kernel) (by decide)
  have al := X8.warmed.alike.symm.trans X15.warmed.alike
  have n7 : T11.heap[s.heap.size]? = some N := by rw [q11]; exact n1.1
  exact ⟨T15, none, _, _, _, X15, by simp, rfl, by omega, (fun _ => rfl), ⟨rfl, _, N, bl15, ((Same.refl D _).set _ (by simp)).set _ (by simp), sl15, (Cell.slots_setSlot_ne _ ap).trans sl13, n1.keep al (p15.other hne (p13.other hne n7)), n2, by rw [al.findClass]; exact n3, n4, n5, fun y c h1 h2 => p15.other h1 (p13.other h1 (by rw [q11]; exact n6 y c h2)), by rw [p15.2.2, p13.2.2, q11]; exact z8⟩, fun fs hl => c16.trans (X15.returnOut hexec hret (hb hbytes d57) hl)⟩
end New4
namespace New1
def yN : MethodName := ⟨"java/lang/String", "<init>", "([C)V"⟩
abbrev yB : ByteArray := jdk_42_method_3_code
theorem d0 : decode yB 0 = .ok (.aload_n 0, 1) := by decide +kernel
theorem d1 : decode yB 1 = .ok (.aload_n 1, 1) := by decide +kernel
theorem d2 : decode yB 2 = .ok (.iconst 0, 1) := by decide +kernel
theorem d3 : decode yB 3 = .ok (.aload_n 1, 1) := by decide +kernel
theorem d4 : decode yB 4 = .ok (.arraylength, 1) := by decide +kernel
theorem d5 : decode yB 5 = .ok (.aconst_null, 1) := by decide +kernel
theorem d6 : decode yB 6 = .ok (.invokespecial 27, 3) := by decide +kernel
theorem d9 : decode yB 9 = .ok (.return_, 1) := by decide +kernel
def site : List Cond := [New4.tab] ++ initW "java/lang/String" 27 New4.yN
def tab : Cond := tabOf yN yB 2 none site
def P (a : Addr) (D : Cell) (fV fC : Field) (b : Addr) (A : Cell) (z : Int32) (args : Array Value) (s : State) : Prop := args = #[.ref a, .ref b] ∧ Blank "java/lang/String" a D s ∧ Found "java/lang/String" "value" "[B" fV s ∧ Found "java/lang/String" "coder" "B" fC s ∧ Ch b A s ∧ StaticIs s "java/lang/String" "COMPACT_STRINGS" "Z" (.int z) ∧ ¬ z = 0 ∧ 0 < A.slots.size ∧ A.slots.size ≤ 536870912 ∧ ∀ i, i < A.slots.size → ¬ 255 < cv A i
def E (a : Addr) (D : Cell) (fV fC : Field) (A : Cell) (r : Option Value) (s u : State) : Prop := Got a D fV fC A 0 A.slots.size r s u
/-- new String(chars), not empty, no char above 255: a Latin-1 String of their low bytes -/
theorem law (l : Launch) (a : Addr) (D : Cell) (fV fC : Field) (b : Addr) (A : Cell) (z : Int32) : Law l yN 2 1 3 52 yB 2 none site (P a D fV fC b A z) (E a D fV fC A) [⟨a, fC.slot⟩, ⟨a, fV.slot⟩] 1 A.slots.size := by
  refine Law.of_walk (plainFor_of_name (by decide +kernel)) (by decide +kernel) (by decide +kernel) (by decide) (fun _ _ h => by rw [h.1]; rfl) (fun _ U U' hal hh h => ⟨h.1, h.2.1.mv hal hh, h.2.2.1.al hal, h.2.2.2.1.al hal, h.2.2.2.2.1.mv hal hh, h.2.2.2.2.2.1.there hal hh, h.2.2.2.2.2.2⟩) (fun r U U' V V' h1 hal h2 h => Got.mv r U U' V V' h1 hal h2 h) ?_
  intro p e s m args below meth c s₁ X0 hexec hbytes hml hret hlk hnm hown hh0 W hP
  obtain ⟨rfl, hB, f1, f2, hA, s1, hz, l0, l2, hp⟩ := hP
  have c1 : Steps p.tables e below (s₁.setTop (entryFrame m #[.ref a, .ref b] 2)) (s₁.setTop (mkF m 0 #[.val (.ref a), .val (.ref b)] [])) := entry rfl
  have c2 : Steps p.tables e below (s₁.setTop (entryFrame m #[.ref a, .ref b] 2)) (s₁.setTop (mkF m 6 #[.val (.ref a), .val (.ref b)] [.null, .int (Int32.ofNat A.slots.size), .int 0, .ref b, .ref a])) := c1.trans (by
    refine XS.aloadN X0.here hexec rfl (hb hbytes d0) rfl rfl ?_
    refine XS.aloadN X0.here hexec rfl (hb hbytes d1) rfl rfl ?_
    refine iconstV X0.here hexec rfl 0 (hb hbytes d2) (by decide) ?_
    refine XS.aloadN X0.here hexec rfl (hb hbytes d3) rfl rfl ?_
    refine X0.alen hexec (hA.1.mv X0.warmed.alike hh0) rfl rfl (hb hbytes d4) ?_
    refine XS.aconstNull X0.here hexec rfl (hb hbytes d5) ?_
    exact Steps.refl _)
  obtain ⟨v3, T3, X3, E3, g3⟩ := X0.callN hexec (New4.law l a D fV fC b A z 0 A.slots.size) rfl hown (wks W (initW "java/lang/String" 27 New4.yN)) (W New4.tab (by simp only [site, List.mem_cons, List.mem_append, true_or, or_true])) (W := 0) (Nat.le_of_ble_eq_true rfl) (Nat.le_of_ble_eq_true rfl) (Nat.le_refl _) (by show 0 + A.slots.size ≤ A.slots.size; omega) (g := (mkF m 6 #[.val (.ref a), .val (.ref b)] [.null, .int (Int32.ofNat A.slots.size), .int (Int32.ofNat 0), .ref b, .ref a])) rfl (by rw [hml]; rfl) c2 (argsL := [.ref b, .int (Int32.ofNat 0), .int (Int32.ofNat A.slots.size), .null]) (rest := []) rfl rfl (by show 2 * 0 + 0 ≤ _; decide) (hb hbytes d6) (⟨rfl, hB.mv X0.warmed.alike hh0, f1.al X0.warmed.alike, f2.al X0.warmed.alike, hA.mv X0.warmed.alike hh0, s1.there X0.warmed.alike hh0, hz, l0, by omega, l2, fun i hi => by rw [Nat.zero_add]; exact hp i hi⟩)
  have e0 := Got.mv _ s₁ s _ _ hh0.symm (Vm.Alike.refl _) rfl E3
  obtain rfl := e0.1
  have c4 : Steps p.tables e below (s₁.setTop (entryFrame m #[.ref a, .ref b] 2)) (T3.setTop (mkF m 9 #[.val (.ref a), .val (.ref b)] [])) := g3
  exact ⟨T3, none, _, _, _, X3, by simp, rfl, by omega, (fun _ => rfl), e0, fun fs hl => c4.trans (X3.returnOut hexec hret (hb hbytes d9) hl)⟩
theorem pays {l : Launch} {R : Room} {p : Program} {e : Env} {below : List Frame} {s : State} {sargs : Array Value} {len W : Nat} (a : Addr) (D : Cell) (fV fC : Field) (b : Addr) (A : Cell) (z : Int32) (htab : tab.before sargs s = true) (hfr : 4 ≤ R.frames) (hlo : W + 65 ≤ R.locals) :
    Back l R p e below s sargs yN len W (fun A₁ a₁ => A₁.cells + 1 ≤ R.cells ∧ A₁.slots + A.slots.size ≤ R.slots ∧ P a D fV fC b A z a₁ A₁.U) (fun A₁ _ v₁ B₁ => E a D fV fC A v₁ A₁.U B₁.U ∧ B₁.locs = A₁.locs ++ [⟨a, fC.slot⟩, ⟨a, fV.slot⟩] ∧ B₁.cells = A₁.cells + 1 ∧ B₁.slots = A₁.slots + A.slots.size) :=
  (law l a D fV fC b A z).pays htab hfr (by omega)
end New1
/-- the byte, read back as charAt reads it, is the char -/
theorem lo8_mask {x : Int32} (h0 : ¬ x < 0) (h1 : ¬ 255 < x) : lo8 x &&& 255 = x := by
  have t : ∀ k : Fin 256, lo8 (Int32.ofNat k.val) &&& 255 = Int32.ofNat k.val := by decide +kernel
  rw [Int32.lt_iff_toInt_lt] at h0 h1
  have e0 : (0 : Int32).toInt = 0 := rfl
  have e1 : (255 : Int32).toInt = 255 := rfl
  obtain ⟨k, hk⟩ : ∃ k : Nat, x.toInt = k := ⟨x.toInt.toNat, by omega⟩
  have hx : x = Int32.ofNat k := Int32.toInt_inj.mp (by rw [hk, Int32.toInt_ofNat_small (by omega)])
  rw [hx]
  exact t ⟨k, by omega⟩
end StrChars
namespace StrChars.Road
open Jvm Sem ClassFile Op Lib Jvm.Stand Jvm.Free Jvm.Free.XT
open Jvm.Lib.Cold (StaticIs)
abbrev ST : String := "java/lang/String"
/-- every table word that New1's law asks, flat -/
abbrev words : List Jvm.Cond := [.code New1.yN New1.yB 2 none, .initialized ST, .methodLink ST 27 New4.yN, .instanceMethod New4.yN,
  .code New4.yN New4.yB 6 none, .fieldLink ST 38 ST "COMPACT_STRINGS" "Z", .laysFinal ST ST "value" "[B", .fieldLink ST 9 ST "value" "[B", .laysFinal ST ST "coder" "B", .fieldLink ST 15 ST "coder" "B",
  .methodLink ST 1 Lib.objectInit, .instanceMethod Lib.objectInit, .code Lib.objectInit ⟨#[0xb1]⟩ 1 none, .methodLink ST 177 Cmp3.yN, .static Cmp3.yN, .methodLink ST 47 CodL.yN, .static CodL.yN,
  .code Cmp3.yN Cmp3.yB 6 (some (.array .byte)), .initialized U16, .arrayClass .byte, .methodLink U16 115 Cmp5.yN, .static Cmp5.yN, .code Cmp5.yN Cmp5.yB 7 (some .int), .code CodL.yN CodL.yB 2 (some .byte)]
theorem tab_of {a : Array Value} {s : State} (h : ∀ w ∈ words, w.before a s = true) : New1.tab.before a s = true := by
  have h5 : Cmp5.tab.before a s = true := unparts (wk h (.code Cmp5.yN Cmp5.yB 7 (some .int))) (wks h (.initialized Cmp5.yN.cls :: Cmp5.site))
  have hc : CodL.tab.before a s = true := unparts (wk h (.code CodL.yN CodL.yB 2 (some .byte))) (wks h (.initialized CodL.yN.cls :: CodL.site))
  have q5 : ∀ w ∈ Cmp5.tab :: words, w.before a s = true := fun w hw => (List.mem_cons.mp hw).elim (fun e => e ▸ h5) (h w)
  have h3 : Cmp3.tab.before a s = true := unparts (wk q5 (.code Cmp3.yN Cmp3.yB 6 (some (.array .byte)))) (wks q5 (.initialized Cmp3.yN.cls :: Cmp3.site))
  have q3 : ∀ w ∈ Cmp3.tab :: CodL.tab :: words, w.before a s = true := fun w hw => (List.mem_cons.mp hw).elim (fun e => e ▸ h3) fun hw => (List.mem_cons.mp hw).elim (fun e => e ▸ hc) (h w)
  have h4 : New4.tab.before a s = true := unparts (wk q3 (.code New4.yN New4.yB 6 none)) (wks q3 (.initialized New4.yN.cls :: New4.site))
  have q4 : ∀ w ∈ New4.tab :: words, w.before a s = true := fun w hw => (List.mem_cons.mp hw).elim (fun e => e ▸ h4) (h w)
  exact unparts (wk q4 (.code New1.yN New1.yB 2 none)) (wks q4 (.initialized New1.yN.cls :: New1.site))
/-- the words ride from the start Z to the walk's own state -/
theorem moved {Z s : State} {a0 args : Array Value} (hZ : Z.Warmed39 s.vm) (hw : ∀ d ∈ words, d.before a0 Z = true) : ∀ d ∈ words, d.before args s = true := fun d hd => by
  have q := hw d hd
  have t : ∀ d ∈ words, d = .arrayClass .byte ∨ (d.onTables && d.keepsFace) = true := by decide +kernel
  rcases t d hd with rfl | t
  · exact RoadKit.mvA hZ q
  · exact RoadKit.mv hZ q t
/-- WHAT COMES BACK, over the tables of the start Z: h the heap at the call, h' behind it -/
def Q (Z : State) (x : Addr) (A : Cell) (h : Heap) (v : Option Value) (h' : Heap) (L : List Loc) : Prop := v = none ∧ (∀ y ∈ L, y.base = x) ∧ RoadKit.Keep h h' [x] ∧ h'.size = h.size + 1 ∧ RoadKit.Exa Z h' x ST ∧ RoadKit.Fld Z h' x ST "value" "[B" (.ref h.size) ∧ RoadKit.Fld Z h' x ST "coder" "B" (.int 0) ∧
  (∃ V : Cell, RoadKit.Arr Z h' h.size V .byte ∧ V.vm = .none ∧ Z.vm.findClass "[B" = some V.cls ∧ V.slots.size = A.slots.size ∧ ∀ j, j < A.slots.size → V.slots[j]? = some (.int (lo8 (cv A j)))) ∧
  ∀ (O n d : String) (w : Value), RoadKit.Fld Z h x O n d w → RoadKit.slotOf Z O n d ≠ RoadKit.slotOf Z ST "value" "[B" → RoadKit.slotOf Z O n d ≠ RoadKit.slotOf Z ST "coder" "B" → RoadKit.Fld Z h' x O n d w
/-- **new String(chars) AT A CALL, IN THE ROAD'S FORM**: for specialBack behind newO: x the fresh String, b the char[] with the cell A -/
theorem back {p : Program} {l : Launch} {e : Env} {R : Room} {s : State} {args : Array Value} {below : List Frame} {len W : Nat} {Z : State} {a0 : Array Value} {h : Heap} (hZ : Z.Warmed39 s.vm) (hw : ∀ d ∈ words, d.before a0 Z = true) {kI : Nat} (wi : (Jvm.Cond.instantiable ST kI).before a0 Z = true)
    {x b : Addr} {A : Cell} {z : Int32} {v0 c0 : Value} (E : RoadKit.Exa Z h x ST) (V : RoadKit.Fld Z h x ST "value" "[B" v0) (C : RoadKit.Fld Z h x ST "coder" "B" c0) (K : RoadKit.Arr Z h b A .char) (hty : Typed .char A) (S : RoadKit.Sta Z h ST "COMPACT_STRINGS" "Z" (.int z)) (hz : ¬ z = 0)
    (l0 : 0 < A.slots.size) (l2 : A.slots.size ≤ 536870912) (hp : ∀ i, i < A.slots.size → ¬ 255 < cv A i) (hfr : 4 ≤ R.frames) (hlo : W + 65 ≤ R.locals) :
    Back l R p e below s args New1.yN len W (fun P a => a = #[.ref x, .ref b] ∧ P.U.heap = h ∧ P.cells + 1 ≤ R.cells ∧ P.slots + A.slots.size ≤ R.slots)
      (fun P _ v B => ∃ L, Q Z x A h v B.U.heap L ∧ B.locs = P.locs ++ L ∧ B.cells = P.cells + 1 ∧ B.slots = P.slots + A.slots.size) := by
  intro m meth c P g ig mk a X hg hsize hdg hW hn hp'
  obtain ⟨rfl, rfl, r1, r2⟩ := hp'
  have al : Z.vm.Alike P.U.vm := hZ.alike.trans X.warmed.alike
  obtain ⟨D, cfV, kV, iV, fV, hD, gV, stV, knV, obV, asV, slV⟩ := id V
  obtain ⟨D', cfC, kC, iC, fC, hD', gC, stC, -, -, asC, slC⟩ := id C
  cases hD.symm.trans hD'
  obtain ⟨D2, kD, e1, e2, e3, e4, e5⟩ := id E
  cases hD.symm.trans e1
  obtain ⟨c2, k2, i1, i2, i3, -⟩ := Cond.instantiable_spec wi
  cases e2.symm.trans i1
  cases e3.symm.trans i2
  obtain ⟨kU, u1, u2⟩ := al.2.2 _ _ e3
  have hB : Blank ST x D P.U := ⟨hD, ⟨knV, fun q hq => by rw [hq] at obV; cases obV⟩, by rw [al.findClass]; exact e2, kU, u1, by rw [u2]; exact i3, by rw [u2]; exact e5 i3⟩
  have F1 : Found ST "value" "[B" fV P.U := ⟨SBG.found_only al ⟨cfV, kV, iV, gV⟩, stV⟩
  have F2 : Found ST "coder" "B" fC P.U := ⟨SBG.found_only al ⟨cfC, kC, iC, gC⟩, stC⟩
  have hA : Ch b A P.U := ⟨⟨K.1, State.isArrayOf_alike al K.2.1, K.2.2, by omega⟩, hty⟩
  have hS : StaticIs P.U ST "COMPACT_STRINGS" "Z" (.int z) := by
    obtain ⟨cfS, iS, kS, fS, st, cS, t1, t2, t3, t4, t5, t6, t7⟩ := S
    exact StaticIs.there (s := { Z with heap := P.U.heap }) ⟨cfS, iS, kS, fS, st, cS, t1, t2, t3, t4, t5, (fun q => by rw [q] at t6; cases t6), t7⟩ al rfl
  obtain ⟨v, B, X', ⟨⟨hv, E', V', q1, q2, q3, q4, q5, q6, q7, q8, q9, q10, q11⟩, hl, hc, hs⟩, st⟩ := New1.pays x D fV fC b A z (tab_of (moved hZ hw)) hfr hlo m meth c P g ig mk _ X hg hsize hdg hW hn ⟨r1, r2, rfl, hB, F1, F2, hA, hS, hz, l0, l2, hp⟩
  have al' : Z.vm.Alike B.U.vm := hZ.alike.trans X'.warmed.alike
  have hsz : E'.slots.size = D.slots.size := by
    obtain ⟨-, -, -, kB, w1, w2, w3⟩ := q1
    obtain ⟨kB', y1, y2⟩ := al'.2.2 _ _ e3
    rw [q2.2.1] at w1
    cases w1.symm.trans y1
    rw [w3, e5 i3, y2]
  refine ⟨v, B, X', ⟨_, ⟨hv, ?_, ⟨by omega, fun y cy hy hn' => q10 y cy (by simpa using hn') hy, fun y cy hy => ?_⟩, q11, ⟨E', _, q1.1, by rw [q2.2.1]; exact e2, by rw [q2.2.1]; exact e3, by rw [q2.1]; exact obV, fun _ => by rw [hsz]; exact e5 i3⟩,
    ⟨E', cfV, kV, iV, fV, q1.1, gV, stV, by rw [q2.1]; exact knV, by rw [q2.1]; exact obV, by rw [q2.2.1]; exact asV, q3⟩, ⟨E', cfC, kC, iC, fC, q1.1, gC, stC, by rw [q2.1]; exact knV, by rw [q2.1]; exact obV, by rw [q2.2.1]; exact asC, q4⟩,
    ⟨V', ⟨q5.1, State.isArrayOf_alike al'.symm q5.2.1, q5.2.2.1⟩, q6, by rw [← al'.findClass]; exact q7, q8, fun j hj => by have := q9 j hj; rwa [Nat.zero_add] at this⟩, fun O n d w F n1 n2 => ?_⟩, hl, hc, hs⟩, st⟩
  · intro y hy
    simp only [List.mem_cons, List.not_mem_nil, or_false] at hy
    rcases hy with rfl | rfl <;> rfl
  · by_cases q : y = x
    · subst q
      cases hD.symm.trans hy
      exact ⟨E', q1.1, q2.2.1, q2.1, hsz⟩
    · exact ⟨cy, q10 y cy q hy, rfl, rfl, rfl⟩
  · obtain ⟨D3, cf, k, i, f, g1, g2, g3, g4, g5, g6, g7⟩ := F
    cases hD.symm.trans g1
    simp only [RoadKit.slotOf, g2, gV, gC, Option.map_some, Option.getD_some] at n1 n2
    exact ⟨E', cf, k, i, f, q1.1, g2, g3, by rw [q2.1]; exact g4, by rw [q2.1]; exact g5, by rw [q2.2.1]; exact g6, by rw [q2.2.2 f.slot (by simp [n1, n2])]; exact g7⟩
end StrChars.Road
namespace StrChars.Road
open Jvm Sem ClassFile Op Lib Jvm.Stand Jvm.Free Jvm.Free.XT
/-- WHAT COMES BACK, the byte[] as a list of values -/
def QA (Z : State) (x : Addr) (zn : Int32) (cs : List Int32) (h : Heap) (v : Option Value) (h' : Heap) (L : List Loc) : Prop := v = none ∧ (∀ y ∈ L, y.base = x) ∧ RoadKit.Keep h h' [x] ∧ h'.size = h.size + 1 ∧ RoadKit.Exa Z h' x ST ∧ RoadKit.Fld Z h' x ST "value" "[B" (.ref h.size) ∧ RoadKit.Fld Z h' x ST "coder" "B" (.int 0) ∧
  (∃ kb, Z.vm.findClass "[B" = some kb ∧ RoadKit.Arv Z h' h.size kb .byte zn (cs.map fun c => .int (lo8 c)) (.int 0)) ∧
  ∀ (O n d : String) (w : Value), RoadKit.Fld Z h x O n d w → RoadKit.slotOf Z O n d ≠ RoadKit.slotOf Z ST "value" "[B" → RoadKit.slotOf Z O n d ≠ RoadKit.slotOf Z ST "coder" "B" → RoadKit.Fld Z h' x O n d w
/-- **new String(chars) AT A CALL, THE ARRAYS AS LISTS**: the char[] at b holds cs, not empty, no char above 255 -/
theorem backArv {p : Program} {l : Launch} {e : Env} {R : Room} {s : State} {args : Array Value} {below : List Frame} {len W : Nat} {Z : State} {a0 : Array Value} {h : Heap} (hZ : Z.Warmed39 s.vm) (hw : ∀ d ∈ words, d.before a0 Z = true) {kI : Nat} (wi : (Jvm.Cond.instantiable ST kI).before a0 Z = true)
    {x b : Addr} {k : ClassId} {zn z : Int32} {cs : List Int32} {dv v0 c0 : Value} (E : RoadKit.Exa Z h x ST) (V : RoadKit.Fld Z h x ST "value" "[B" v0) (C : RoadKit.Fld Z h x ST "coder" "B" c0) (K : RoadKit.Arv Z h b k .char zn (cs.map Value.int) dv) (S : RoadKit.Sta Z h ST "COMPACT_STRINGS" "Z" (.int z)) (hz : ¬ z = 0)
    (hlen : zn.toNatClampNeg = cs.length) (h0 : 0 < cs.length) (hbig : cs.length ≤ 536870912) (hall : ∀ c ∈ cs, ¬ 255 < c) (hfr : 4 ≤ R.frames) (hlo : W + 65 ≤ R.locals) :
    Back l R p e below s args New1.yN len W (fun P a => a = #[.ref x, .ref b] ∧ P.U.heap = h ∧ P.cells + 1 ≤ R.cells ∧ P.slots + cs.length ≤ R.slots)
      (fun P _ v B => ∃ L, QA Z x zn cs h v B.U.heap L ∧ B.locs = P.locs ++ L ∧ B.cells = P.cells + 1 ∧ B.slots = P.slots + cs.length) := by
  obtain ⟨A, K1, K2, K3, K4, K5, K6⟩ := K
  have e : A.slots.size = cs.length := K3.trans hlen
  have hat : ∀ (i : Nat) (hi : i < cs.length), A.slots[i]? = some (.int cs[i]) := fun i hi => by rw [K5 i (by omega)]; simp [List.getD_eq_getElem?_getD, hi]
  have hcv : ∀ (i : Nat) (hi : i < cs.length), cv A i = cs[i] := fun i hi => by unfold cv; rw [hat i hi]
  have hty : Typed .char A := fun i v hv => by
    have hi : i < A.slots.size := (Array.getElem?_eq_some_iff.mp hv).1
    have q := K5 i hi
    rw [hv] at q
    rw [Option.some.inj q]
    exact K6 i hi
  refine Back.mono (back hZ hw wi E V C K1 hty S hz (by omega) (by omega) (fun i hi => by rw [hcv i (by omega)]; exact hall _ (List.getElem_mem _)) hfr hlo) (fun P a hp => ⟨hp.1, hp.2.1, hp.2.2.1, by rw [e]; exact hp.2.2.2⟩) (fun P a v B hp hq => ?_)
  obtain ⟨L, ⟨q1, q2, q3, q4, q5, q6, q7, ⟨V', v1, v2, v3, v4, v5⟩, q9⟩, hl, hc, hs⟩ := hq
  refine ⟨L, ⟨q1, q2, q3, q4, q5, q6, q7, ⟨V'.cls, v3, V', v1, rfl, by rw [v4, e, hlen], K4, fun i hi => ?_, fun i hi => ?_⟩, q9⟩, hl, hc, by rw [hs, e]⟩
  · have hi' : i < cs.length := by omega
    rw [v5 i (by omega), hcv i hi']; simp [List.getD_eq_getElem?_getD, hi']
  · have hi' : i < cs.length := by omega
    simp only [List.getD_eq_getElem?_getD, List.getElem?_map, List.getElem?_eq_getElem hi', Option.map_some, Option.getD_some]
    exact fits_lo8 _
end StrChars.Road
namespace StrChars.Road
open Jvm Sem ClassFile Op Lib Jvm.Stand Jvm.Free Jvm.Free.XT
/-- WHAT COMES BACK, in the writer's own shape -/
def QV (Z : State) (x : Addr) (N : Int32) (bs : List Int32) (h : Heap) (n0 : Nat) (v : Option Value) (h' : Heap) (L : List Loc) : Prop := v = none ∧ RoadKit.Fr n0 L ∧ RoadKit.Keep h h' [x] ∧ RoadKit.Exa Z h' x ST ∧ RoadKit.Fld Z h' x ST "coder" "B" (.int 0) ∧
  ∃ (t : Addr) (kb : ClassId), n0 ≤ t ∧ h.size ≤ t ∧ ¬ t = x ∧ RoadKit.Fld Z h' x ST "value" "[B" (.ref t) ∧ RoadKit.Arv Z h' t kb .byte N (bs.map Value.int) (.int 0)
/-- **new String(chars) AT A CALL, FOR THE WRITER**: a char[] of n known ints, each 0 to 255 -/
theorem backV {p : Program} {l : Launch} {e : Env} {R : Room} {s : State} {args : Array Value} {below : List Frame} {len W : Nat} {Z : State} {a0 : Array Value} {h : Heap} (hZ : Z.Warmed39 s.vm) (hw : ∀ d ∈ words, d.before a0 Z = true) {kI : Nat} (wi : (Jvm.Cond.instantiable ST kI).before a0 Z = true)
    {x b : Addr} {kC : ClassId} {cs bs : List Int32} {d v0 c0 : Value} {z N : Int32} {n n0 : Nat} (hx0 : n0 ≤ x) (hh0 : n0 ≤ h.size) (E : RoadKit.Exa Z h x ST) (V : RoadKit.Fld Z h x ST "value" "[B" v0) (C : RoadKit.Fld Z h x ST "coder" "B" c0) (K : RoadKit.Arv Z h b kC .char N (cs.map Value.int) d) (S : RoadKit.Sta Z h ST "COMPACT_STRINGS" "Z" (.int z)) (hz : ¬ z = 0)
    (hn : cs.length = n) (hN : N = Int32.ofNat n) (l0 : 0 < n) (l2 : n ≤ 4000) (hp : ∀ c ∈ cs, ¬ c < 0 ∧ ¬ (255 : Int32) < c) (hb : bs = cs.map (fun c => c.toInt8.toInt32)) (hfr : 4 ≤ R.frames) (hlo : W + 65 ≤ R.locals) :
    Back l R p e below s args (⟨"java/lang/String", "<init>", "([C)V"⟩ : MethodName) len W (fun P a => a = #[.ref x, .ref b] ∧ P.U.heap = h ∧ P.cells + 1 ≤ R.cells ∧ P.slots + n ≤ R.slots)
      (fun P _ v B => ∃ L, QV Z x N bs h n0 v B.U.heap L ∧ B.locs = P.locs ++ L ∧ B.cells = P.cells + 1 ∧ B.slots = P.slots + n) := by
  subst hn hN hb
  refine Back.mono (backArv hZ hw wi E V C K S hz (n32 (by omega)) l0 (by omega) (fun c hc => (hp c hc).2) hfr hlo) (fun P a hp => hp) (fun P a v B hp hq => ?_)
  obtain ⟨L, ⟨q1, q2, q3, q4, q5, q6, q7, ⟨kb, v1, v2⟩, q9⟩, hl, hc, hs⟩ := hq
  exact ⟨L, ⟨q1, fun y hy => by rw [q2 y hy]; exact hx0, q3, q5, q7, h.size, kb, hh0, Nat.le_refl _, Nat.ne_of_gt E.lt, q6, by rw [List.map_map]; exact v2⟩, hl, hc, hs⟩
end StrChars.Road
namespace StrChars
open Jvm Sem ClassFile Op Lib Jvm.Stand Jvm.Free.XT Jvm.Free.ALB Jvm.Free.JM Jvm.Free
open Jvm.Lib.Cold (StaticIs)
def hi8 (x : Int32) : Int32 := lo8 (x >>> ((8 : Int32) &&& 31))
/-- what StringUTF16.getChar makes of two bytes -/
def pairCh (u v : Int32) : Int32 := (((u &&& 255) <<< ((0 : Int32) &&& 31)) ||| ((v &&& 255) <<< ((8 : Int32) &&& 31))).toUInt32.toUInt16.toUInt32.toInt32
theorem shr0 (c : Int32) : c >>> ((0 : Int32) &&& 31) = c := by
  have e : ((0 : Int32) &&& 31) = 0 := by decide
  rw [e]
  apply Int32.toBitVec_inj.mp
  rw [Int32.toBitVec_shiftRight]
  have e1 : ((0 : Int32).toBitVec.smod 32) = 0#32 := by decide
  rw [e1, BitVec.sshiftRight_eq']
  exact BitVec.sshiftRight_zero
theorem lo8_and (x : Int32) : (lo8 x &&& 255).toBitVec.toNat = x.toBitVec.toNat % 256 := by
  have h : (lo8 x).toBitVec = (x.toBitVec.signExtend 8).signExtend 32 := by rw [lo8, Int8.toBitVec_toInt32, Int32.toBitVec_toInt8]
  rw [Int32.toBitVec_and, BitVec.toNat_and, h]
  have e : ((x.toBitVec.signExtend 8).signExtend 32).toNat % 256 = x.toBitVec.toNat % 256 := by
    rw [BitVec.toNat_signExtend]
    have hlt := x.toBitVec.isLt
    simp only [BitVec.toNat_setWidth, BitVec.toNat_signExtend]
    split <;> split <;> omega
  rw [← e]
  exact Nat.and_two_pow_sub_one_eq_mod _ 8
theorem pair_says {c : Int32} (h0 : ¬ c < 0) (h1 : ¬ 65535 < c) : pairCh (lo8 c) (hi8 c) = c := by
  rw [Int32.lt_iff_toInt_lt] at h0 h1
  have e0 : (0 : Int32).toInt = 0 := rfl
  have e1 : (65535 : Int32).toInt = 65535 := rfl
  have hc : c.toInt = c.toBitVec.toNat := by
    have := c.toBitVec.isLt
    have e : c.toInt = c.toBitVec.toInt := rfl
    rw [e] at h0 h1
    rw [e]
    rw [BitVec.toInt_eq_toNat_cond] at h0 h1 ⊢
    split at h0 <;> split <;> omega
  have hn : c.toBitVec.toNat < 65536 := by omega
  have a1 := lo8_and c
  have a2 : (hi8 c &&& 255).toBitVec.toNat = c.toBitVec.toNat / 256 := by
    rw [hi8, lo8_and]
    have e : ((8 : Int32) &&& 31) = 8 := by decide
    rw [e, Int32.toBitVec_shiftRight]
    have e2 : ((8 : Int32).toBitVec.smod 32) = 8#32 := by decide
    rw [e2, BitVec.sshiftRight_eq', BitVec.toNat_sshiftRight_of_msb_false (by rw [BitVec.msb_eq_false_iff_two_mul_lt]; omega)]
    show c.toBitVec.toNat >>> 8 % 256 = _
    rw [Nat.shiftRight_eq_div_pow]
    omega
  unfold pairCh
  apply Int32.toBitVec_inj.mp
  apply BitVec.eq_of_toNat_eq
  have f0 : ((0 : Int32) &&& 31) = 0 := by decide
  have f8 : ((8 : Int32) &&& 31) = 8 := by decide
  rw [f0, f8]
  have g : (((lo8 c &&& 255) <<< (0 : Int32)) ||| ((hi8 c &&& 255) <<< (8 : Int32))).toBitVec.toNat = c.toBitVec.toNat := by
    rw [Int32.toBitVec_or, Int32.toBitVec_shiftLeft, Int32.toBitVec_shiftLeft]
    have s0 : ((0 : Int32).toBitVec.smod 32) = 0#32 := by decide
    have s8 : ((8 : Int32).toBitVec.smod 32) = 8#32 := by decide
    rw [s0, s8, BitVec.toNat_or]
    simp only [BitVec.shiftLeft_eq', BitVec.toNat_shiftLeft, a1, a2]
    show (c.toBitVec.toNat % 256) <<< 0 % 2 ^ 32 ||| (c.toBitVec.toNat / 256) <<< 8 % 2 ^ 32 = _
    rw [Nat.shiftLeft_zero, Nat.mod_eq_of_lt (show c.toBitVec.toNat % 256 < 2 ^ 32 by omega), Nat.mod_eq_of_lt (show (c.toBitVec.toNat / 256) <<< 8 < 2 ^ 32 by rw [Nat.shiftLeft_eq]; omega), Nat.or_comm, ← Nat.shiftLeft_add_eq_or_of_lt (by omega), Nat.shiftLeft_eq]
    omega
  show BitVec.toNat (((((lo8 c &&& 255) <<< (0 : Int32)) ||| ((hi8 c &&& 255) <<< (8 : Int32))).toBitVec.setWidth 16).setWidth 32) = _
  rw [BitVec.toNat_setWidth, BitVec.toNat_setWidth, g]
  omega
end StrChars
namespace StrChars
open Jvm Sem ClassFile Op Lib Jvm.Stand Jvm.Free.XT Jvm.Free.ALB Jvm.Free.JM Jvm.Free
open Jvm.Lib.Cold (StaticIs)
theorem shr1 {n : Nat} (h : 2 * n < 2 ^ 31) : Int32.ofNat (2 * n) >>> ((1 : Int32) &&& 31) = Int32.ofNat n := by
  have e : ((1 : Int32) &&& 31) = 1 := by decide
  rw [e]
  apply Int32.toBitVec_inj.mp
  rw [Int32.toBitVec_shiftRight]
  have e1 : ((1 : Int32).toBitVec.smod 32) = 1#32 := by decide
  have hm : (BitVec.ofNat 32 (2 * n)).toNat = 2 * n := by rw [BitVec.toNat_ofNat, Nat.mod_eq_of_lt (by omega)]
  rw [e1, BitVec.sshiftRight_eq']
  apply BitVec.eq_of_toNat_eq
  show ((BitVec.ofNat 32 (2 * n)).sshiftRight 1).toNat = (BitVec.ofNat 32 n).toNat
  rw [BitVec.toNat_sshiftRight_of_msb_false (by rw [BitVec.msb_eq_false_iff_two_mul_lt, hm]; omega), hm, BitVec.toNat_ofNat, Nat.shiftRight_eq_div_pow]
  omega
/-- charAt's cast of a byte read back -/
def chr8 (u : Int32) : Int32 := (u &&& 255).toUInt32.toUInt16.toUInt32.toInt32
theorem chr8_lo8 {c : Int32} (h0 : ¬ c < 0) (h1 : ¬ 255 < c) : chr8 (lo8 c) = c := by
  have t : ∀ k : Fin 256, (Int32.ofNat k.val).toUInt32.toUInt16.toUInt32.toInt32 = Int32.ofNat k.val := by decide +kernel
  unfold chr8
  rw [lo8_mask h0 h1]
  rw [Int32.lt_iff_toInt_lt] at h0 h1
  have e0 : (0 : Int32).toInt = 0 := rfl
  have e1 : (255 : Int32).toInt = 255 := rfl
  obtain ⟨k, hk⟩ : ∃ k : Nat, c.toInt = k := ⟨c.toInt.toNat, by omega⟩
  have hx : c = Int32.ofNat k := Int32.toInt_inj.mp (by rw [hk, Int32.toInt_ofNat_small (by omega)])
  rw [hx]
  exact t ⟨k, by omega⟩
theorem narrow_ch {c : Int32} (h0 : ¬ c < 0) (h1 : ¬ 65535 < c) : narrow .char (.int c) = .int c := by
  have q : narrow .char (.int (pairCh (lo8 c) (hi8 c))) = .int (pairCh (lo8 c) (hi8 c)) := narrow_c _
  rwa [pair_says h0 h1] at q
/-- the array's cell V codes the n chars f 0 .. f (n - 1) by the coder cd, as the JDK does: coder 1 just where some char is above 255 -/
def Cod (cd : Int32) (n : Nat) (f : Nat → Int32) (V : Cell) : Prop := (cd = 0 ∧ V.slots.size = n ∧ ∀ j, j < n → V.slots[j]? = some (.int (lo8 (f j))) ∧ ¬ 255 < f j) ∨ (cd = 1 ∧ V.slots.size = 2 * n ∧ (∀ j, j < n → V.slots[2 * j]? = some (.int (lo8 (f j))) ∧ V.slots[2 * j + 1]? = some (.int (hi8 (f j)))) ∧ ∃ j, j < n ∧ 255 < f j)
theorem Cod.cd {cd : Int32} {n : Nat} {f : Nat → Int32} {V : Cell} (h : Cod cd n f V) : cd = 0 ∨ cd = 1 := h.imp (fun q => q.1) fun q => q.1
theorem Cod.len {cd : Int32} {n : Nat} {f : Nat → Int32} {V : Cell} (h : Cod cd n f V) (hs : V.slots.size < 2 ^ 31) : Int32.ofNat V.slots.size >>> (cd &&& 31) = Int32.ofNat n := by
  rcases h with ⟨rfl, h, -⟩ | ⟨rfl, h, -⟩
  · rw [shr0, h]
  · rw [h, shr1 (by omega)]
/-- **x is a String of the n chars f 0 .. f (n - 1)**, Latin-1 or UTF-16; its array at t has the cell V -/
def Txt (x t : Addr) (V : Cell) (cd : Int32) (n : Nat) (f : Nat → Int32) (U : State) : Prop := Exact "java/lang/String" x U ∧ Has x "java/lang/String" "value" "[B" (.ref t) U ∧ Has x "java/lang/String" "coder" "B" (.int cd) U ∧ XT.Arr .byte t V U ∧ Cod cd n f V ∧ ∀ j, j < n → ¬ f j < 0 ∧ ¬ 65535 < f j
theorem Txt.mv {x t : Addr} {V : Cell} {cd : Int32} {n : Nat} {f : Nat → Int32} {U U' : State} (h : Txt x t V cd n f U) (hal : U.vm.Alike U'.vm) (hh : U'.heap = U.heap) : Txt x t V cd n f U' := ⟨h.1.mv hal hh, h.2.1.mv hal hh, h.2.2.1.mv hal hh, h.2.2.2.1.mv hal hh, h.2.2.2.2⟩
namespace Cdr
def yN : MethodName := ⟨"java/lang/String", "coder", "()B"⟩
abbrev yB : ByteArray := jdk_42_method_152_code
theorem d0 : decode yB 0 = .ok (.getstatic 38, 3) := by decide +kernel
theorem d3 : decode yB 3 = .ok (.ifCond (.eq) 10, 3) := by decide +kernel
theorem d6 : decode yB 6 = .ok (.aload_n 0, 1) := by decide +kernel
theorem d7 : decode yB 7 = .ok (.getfield 15, 3) := by decide +kernel
theorem d10 : decode yB 10 = .ok (.goto 4, 3) := by decide +kernel
theorem d14 : decode yB 14 = .ok (.ireturn, 1) := by decide +kernel
def site : List Cond := [.fieldLink "java/lang/String" 38 "java/lang/String" "COMPACT_STRINGS" "Z", .fieldLink "java/lang/String" 15 "java/lang/String" "coder" "B"]
def tab : Cond := tabOf yN yB 1 (some .byte) site
def P (x : Addr) (cd z : Int32) (args : Array Value) (s : State) : Prop := args = #[.ref x] ∧ Has x "java/lang/String" "coder" "B" (.int cd) s ∧ (cd = 0 ∨ cd = 1) ∧ StaticIs s "java/lang/String" "COMPACT_STRINGS" "Z" (.int z) ∧ ¬ z = 0
def E (cd : Int32) (r : Option Value) (s u : State) : Prop := XT.PureE (some (.int cd)) r s u
theorem law (l : Launch) (x : Addr) (cd z : Int32) : Law l yN 1 0 0 0 yB 1 (some .byte) site (P x cd z) (E cd) [] 0 0 := by
  refine Law.of_walk (plainFor_of_name (by decide +kernel)) (by decide +kernel) (by decide +kernel) (by decide) (fun _ _ h => by rw [h.1]; rfl) (fun _ U U' hal hh h => ⟨h.1, h.2.1.mv hal hh, h.2.2.1, h.2.2.2.1.there hal hh, h.2.2.2.2⟩) (fun r U U' V V' h1 hal h2 h => XT.PureE.mv r U U' V V' h1 hal h2 h) ?_
  intro p e s m args below meth c s₁ X0 hexec hbytes hml hret hlk hnm hown hh0 W hP
  obtain ⟨rfl, hx, hc, s1, hz⟩ := hP
  have c1 : Steps p.tables e below (s₁.setTop (entryFrame m #[.ref x] 1)) (s₁.setTop (mkF m 0 #[.val (.ref x)] [])) := entry rfl
  obtain ⟨T2, X2, q2, st2⟩ := X0.sget hexec hown (wk W (.fieldLink "java/lang/String" 38 "java/lang/String" "COMPACT_STRINGS" "Z")) s1 (fun _ _ h => by rw [hh0]; exact h) (g := (mkF m 0 #[.val (.ref x)] [])) rfl (hb hbytes d0)
  have hh2 := q2.trans hh0
  have c3 : Steps p.tables e below (s₁.setTop (entryFrame m #[.ref x] 1)) (T2.setTop (mkF m 7 #[.val (.ref x)] [.ref x])) := (c1.trans (st2 _ (Steps.refl _))).trans (by
    refine XS.ifNo X2.here hexec rfl (hb hbytes d3) rfl (i0_eq_f hz) ?_
    refine XS.aloadN X2.here hexec rfl (hb hbytes d6) rfl rfl ?_
    exact Steps.refl _)
  obtain ⟨T4, X4, q4, st4⟩ := X2.hget hexec hown (wk W (.fieldLink "java/lang/String" 15 "java/lang/String" "coder" "B")) (hx.mv X2.warmed.alike hh2) (g := (mkF m 7 #[.val (.ref x)] [.ref x])) rfl (rest := []) rfl (hb hbytes d7)
  have c5 : Steps p.tables e below (s₁.setTop (entryFrame m #[.ref x] 1)) (T4.setTop (mkF m 14 #[.val (.ref x)] [.int cd])) := (c3.trans (st4 _ (Steps.refl _))).trans (by
    refine XS.goto X4.here hexec rfl (pc0 := 10) rfl (hb hbytes d10) (by decide) rfl ?_
    exact Steps.refl _)
  exact ⟨T4, some (.int cd), _, _, _, X4, rfl, rfl, rfl, (fun h => by cases h), ⟨rfl, q4.trans hh2⟩, fun fs hl => c5.trans (X4.ireturnOut hexec hret (by rcases hc with rfl | rfl <;> rfl) (Or.inr (Or.inr (Or.inl rfl))) (hb hbytes d14) hl)⟩
end Cdr
namespace Len
def yN : MethodName := ⟨"java/lang/String", "length", "()I"⟩
abbrev yB : ByteArray := jdk_42_method_54_code
theorem d0 : decode yB 0 = .ok (.aload_n 0, 1) := by decide +kernel
theorem d1 : decode yB 1 = .ok (.getfield 9, 3) := by decide +kernel
theorem d4 : decode yB 4 = .ok (.arraylength, 1) := by decide +kernel
theorem d5 : decode yB 5 = .ok (.aload_n 0, 1) := by decide +kernel
theorem d6 : decode yB 6 = .ok (.invokevirtual 335, 3) := by decide +kernel
theorem d9 : decode yB 9 = .ok (.ishr, 1) := by decide +kernel
theorem d10 : decode yB 10 = .ok (.ireturn, 1) := by decide +kernel
def site : List Cond := [.fieldLink "java/lang/String" 9 "java/lang/String" "value" "[B", Cdr.tab] ++ virtW "java/lang/String" 335 "java/lang/String" Cdr.yN Cdr.yN
def tab : Cond := tabOf yN yB 1 (some .int) site
def P (x t : Addr) (V : Cell) (cd : Int32) (n : Nat) (f : Nat → Int32) (z : Int32) (args : Array Value) (s : State) : Prop := args = #[.ref x] ∧ Txt x t V cd n f s ∧ StaticIs s "java/lang/String" "COMPACT_STRINGS" "Z" (.int z) ∧ ¬ z = 0
def E (n : Nat) (r : Option Value) (s u : State) : Prop := XT.PureE (some (.int (Int32.ofNat n))) r s u
/-- length() of a String of n chars, in either coding -/
theorem law (l : Launch) (x t : Addr) (V : Cell) (cd : Int32) (n : Nat) (f : Nat → Int32) (z : Int32) : Law l yN 1 0 1 13 yB 1 (some .int) site (P x t V cd n f z) (E n) [] 0 0 := by
  refine Law.of_walk (plainFor_of_name (by decide +kernel)) (by decide +kernel) (by decide +kernel) (by decide) (fun _ _ h => by rw [h.1]; rfl) (fun _ U U' hal hh h => ⟨h.1, h.2.1.mv hal hh, h.2.2.1.there hal hh, h.2.2.2⟩) (fun r U U' V V' h1 hal h2 h => XT.PureE.mv r U U' V V' h1 hal h2 h) ?_
  intro p e s m args below meth c s₁ X0 hexec hbytes hml hret hlk hnm hown hh0 W hP
  obtain ⟨rfl, hx, s1, hz⟩ := hP
  have v31 := hx.2.2.2.1.2.2.2
  have c1 : Steps p.tables e below (s₁.setTop (entryFrame m #[.ref x] 1)) (s₁.setTop (mkF m 1 #[.val (.ref x)] [.ref x])) := Steps.trans (entry rfl) (by
    show Steps p.tables e below (s₁.setTop (mkF m 0 #[.val (.ref x)] [])) _
    refine XS.aloadN X0.here hexec rfl (hb hbytes d0) rfl rfl ?_
    exact Steps.refl _)
  obtain ⟨T2, X2, q2, st2⟩ := X0.hget hexec hown (wk W (.fieldLink "java/lang/String" 9 "java/lang/String" "value" "[B")) (hx.mv X0.warmed.alike hh0).2.1 (g := (mkF m 1 #[.val (.ref x)] [.ref x])) rfl (rest := []) rfl (hb hbytes d1)
  have hh2 := q2.trans hh0
  have hx2 := hx.mv X2.warmed.alike hh2
  have c3 : Steps p.tables e below (s₁.setTop (entryFrame m #[.ref x] 1)) (T2.setTop (mkF m 6 #[.val (.ref x)] [.ref x, .int (Int32.ofNat V.slots.size)])) := (c1.trans (st2 _ (Steps.refl _))).trans (by
    refine X2.alen hexec hx2.2.2.2.1 rfl rfl (hb hbytes d4) ?_
    refine XS.aloadN X2.here hexec rfl (hb hbytes d5) rfl rfl ?_
    exact Steps.refl _)
  obtain ⟨v4, T4, X4, E4, g4⟩ := X2.callV hexec (Cdr.law l x cd z) hown (wks W (virtW "java/lang/String" 335 "java/lang/String" Cdr.yN Cdr.yN)) rfl (by decide) (wk W Cdr.tab) (W := 1) (Nat.le_of_ble_eq_true rfl) (Nat.le_of_ble_eq_true rfl) (Nat.le_refl _) (Nat.le_refl _) (hx2.1.fc X2.warmed.alike) hx2.1.is (g := (mkF m 6 #[.val (.ref x)] [.ref x, .int (Int32.ofNat V.slots.size)])) rfl (by rw [hml]; rfl) c3 (argsL := []) (rest := [.int (Int32.ofNat V.slots.size)]) rfl rfl (by show 2 * 0 + (1 + 0) ≤ _; decide) (hb hbytes d6) (⟨rfl, hx2.2.2.1, hx.2.2.2.2.1.cd, s1.there X2.warmed.alike hh2, hz⟩)
  obtain ⟨rfl, q4⟩ := E4
  have c5 : Steps p.tables e below (s₁.setTop (entryFrame m #[.ref x] 1)) (T4.setTop (mkF m 10 #[.val (.ref x)] [.int (Int32.ofNat V.slots.size >>> (cd &&& 31))])) := Steps.trans g4 (by
    refine ishr X4.here hexec rfl (hb hbytes d9) rfl ?_
    exact Steps.refl _)
  rw [hx.2.2.2.2.1.len v31] at c5
  exact ⟨T4, some (.int (Int32.ofNat n)), _, _, _, X4, rfl, rfl, rfl, (fun h => by cases h), ⟨rfl, q4.trans hh2⟩, fun fs hl => c5.trans (X4.ireturnOut hexec hret rfl (Or.inl rfl) (hb hbytes d10) hl)⟩
theorem pays {l : Launch} {R : Room} {p : Program} {e : Env} {below : List Frame} {s : State} {sargs : Array Value} {len W : Nat} (x t : Addr) (V : Cell) (cd : Int32) (n : Nat) (f : Nat → Int32) (z : Int32) (htab : tab.before sargs s = true) (hfr : 2 ≤ R.frames) (hlo : W + 25 ≤ R.locals) :
    Back l R p e below s sargs yN len W (fun A₁ a₁ => A₁.cells + 0 ≤ R.cells ∧ A₁.slots + 0 ≤ R.slots ∧ P x t V cd n f z a₁ A₁.U) (fun A₁ _ v₁ B₁ => E n v₁ A₁.U B₁.U ∧ B₁.locs = A₁.locs ++ [] ∧ B₁.cells = A₁.cells + 0 ∧ B₁.slots = A₁.slots + 0) :=
  (law l x t V cd n f z).pays htab hfr (by omega)
end Len
namespace IsL
def yN : MethodName := ⟨"java/lang/String", "isLatin1", "()Z"⟩
abbrev yB : ByteArray := jdk_42_method_154_code
theorem d0 : decode yB 0 = .ok (.getstatic 38, 3) := by decide +kernel
theorem d3 : decode yB 3 = .ok (.ifCond (.eq) 14, 3) := by decide +kernel
theorem d6 : decode yB 6 = .ok (.aload_n 0, 1) := by decide +kernel
theorem d7 : decode yB 7 = .ok (.getfield 15, 3) := by decide +kernel
theorem d10 : decode yB 10 = .ok (.ifCond (.ne) 7, 3) := by decide +kernel
theorem d13 : decode yB 13 = .ok (.iconst 1, 1) := by decide +kernel
theorem d14 : decode yB 14 = .ok (.goto 4, 3) := by decide +kernel
theorem d17 : decode yB 17 = .ok (.iconst 0, 1) := by decide +kernel
theorem d18 : decode yB 18 = .ok (.ireturn, 1) := by decide +kernel
def site : List Cond := [.fieldLink "java/lang/String" 38 "java/lang/String" "COMPACT_STRINGS" "Z", .fieldLink "java/lang/String" 15 "java/lang/String" "coder" "B"]
def tab : Cond := tabOf yN yB 1 (some .boolean) site
def P (x : Addr) (cd z : Int32) (args : Array Value) (s : State) : Prop := args = #[.ref x] ∧ Has x "java/lang/String" "coder" "B" (.int cd) s ∧ (cd = 0 ∨ cd = 1) ∧ StaticIs s "java/lang/String" "COMPACT_STRINGS" "Z" (.int z) ∧ ¬ z = 0
def E (cd : Int32) (r : Option Value) (s u : State) : Prop := XT.PureE (some (.int (1 - cd))) r s u
theorem law (l : Launch) (x : Addr) (cd z : Int32) : Law l yN 1 0 0 0 yB 1 (some .boolean) site (P x cd z) (E cd) [] 0 0 := by
  refine Law.of_walk (plainFor_of_name (by decide +kernel)) (by decide +kernel) (by decide +kernel) (by decide) (fun _ _ h => by rw [h.1]; rfl) (fun _ U U' hal hh h => ⟨h.1, h.2.1.mv hal hh, h.2.2.1, h.2.2.2.1.there hal hh, h.2.2.2.2⟩) (fun r U U' V V' h1 hal h2 h => XT.PureE.mv r U U' V V' h1 hal h2 h) ?_
  intro p e s m args below meth c s₁ X0 hexec hbytes hml hret hlk hnm hown hh0 W hP
  obtain ⟨rfl, hx, hc, s1, hz⟩ := hP
  have c1 : Steps p.tables e below (s₁.setTop (entryFrame m #[.ref x] 1)) (s₁.setTop (mkF m 0 #[.val (.ref x)] [])) := entry rfl
  obtain ⟨T2, X2, q2, st2⟩ := X0.sget hexec hown (wk W (.fieldLink "java/lang/String" 38 "java/lang/String" "COMPACT_STRINGS" "Z")) s1 (fun _ _ h => by rw [hh0]; exact h) (g := (mkF m 0 #[.val (.ref x)] [])) rfl (hb hbytes d0)
  have hh2 := q2.trans hh0
  have c3 : Steps p.tables e below (s₁.setTop (entryFrame m #[.ref x] 1)) (T2.setTop (mkF m 7 #[.val (.ref x)] [.ref x])) := (c1.trans (st2 _ (Steps.refl _))).trans (by
    refine XS.ifNo X2.here hexec rfl (hb hbytes d3) rfl (i0_eq_f hz) ?_
    refine XS.aloadN X2.here hexec rfl (hb hbytes d6) rfl rfl ?_
    exact Steps.refl _)
  obtain ⟨T4, X4, q4, st4⟩ := X2.hget hexec hown (wk W (.fieldLink "java/lang/String" 15 "java/lang/String" "coder" "B")) (hx.mv X2.warmed.alike hh2) (g := (mkF m 7 #[.val (.ref x)] [.ref x])) rfl (rest := []) rfl (hb hbytes d7)
  have c5 : Steps p.tables e below (s₁.setTop (entryFrame m #[.ref x] 1)) (T4.setTop (mkF m 10 #[.val (.ref x)] [.int cd])) := c3.trans (st4 _ (Steps.refl _))
  have c6 : Steps p.tables e below (s₁.setTop (entryFrame m #[.ref x] 1)) (T4.setTop (mkF m 18 #[.val (.ref x)] [.int (1 - cd)])) := by
    rcases hc with rfl | rfl
    · exact c5.trans (by
        refine XS.ifNo X4.here hexec rfl (hb hbytes d10) rfl (i0_ne_f rfl) ?_
        refine iconstV X4.here hexec rfl 1 (hb hbytes d13) (by decide) ?_
        refine XS.goto X4.here hexec rfl (pc0 := 14) rfl (hb hbytes d14) (by decide) rfl ?_
        exact Steps.refl _)
    · exact c5.trans (by
        refine XS.ifYes X4.here hexec rfl (pc0 := 10) rfl (hb hbytes d10) rfl (i0_ne_t (by decide)) (by decide) rfl ?_
        refine iconstV X4.here hexec rfl 0 (hb hbytes d17) (by decide) ?_
        exact Steps.refl _)
  exact ⟨T4, some (.int (1 - cd)), _, _, _, X4, rfl, rfl, rfl, (fun h => by cases h), ⟨rfl, q4.trans hh2⟩, fun fs hl => c6.trans (X4.ireturnOut hexec hret (by rcases hc with rfl | rfl <;> rfl) (Or.inr (Or.inl rfl)) (hb hbytes d18) hl)⟩
end IsL
namespace LChA
def yN : MethodName := ⟨"java/lang/StringLatin1", "charAt", "([BI)C"⟩
abbrev yB : ByteArray := jdk_43_method_2_code
theorem d0 : decode yB 0 = .ok (.iload_n 1, 1) := by decide +kernel
theorem d1 : decode yB 1 = .ok (.aload_n 0, 1) := by decide +kernel
theorem d2 : decode yB 2 = .ok (.arraylength, 1) := by decide +kernel
theorem d3 : decode yB 3 = .ok (.invokestatic 9, 3) := by decide +kernel
theorem d6 : decode yB 6 = .ok (.aload_n 0, 1) := by decide +kernel
theorem d7 : decode yB 7 = .ok (.iload_n 1, 1) := by decide +kernel
theorem d8 : decode yB 8 = .ok (.baload, 1) := by decide +kernel
theorem d9 : decode yB 9 = .ok (.sipush 255, 3) := by decide +kernel
theorem d12 : decode yB 12 = .ok (.iand, 1) := by decide +kernel
theorem d13 : decode yB 13 = .ok (.i2c, 1) := by decide +kernel
theorem d14 : decode yB 14 = .ok (.ireturn, 1) := by decide +kernel
def site : List Cond := [JO.Str_checkIndex.tab] ++ staticW "java/lang/StringLatin1" 9 JO.Str_checkIndex.yN
def tab : Cond := tabOf yN yB 2 (some .char) site
def P (t : Addr) (V : Cell) (i : Nat) (u : Int32) (fm : Value) (args : Array Value) (s : State) : Prop := args = #[.ref t, .int (Int32.ofNat i)] ∧ XT.Arr .byte t V s ∧ V.slots[i]? = some (.int u) ∧ (StaticIs s "jdk/internal/util/Preconditions" "SIOOBE_FORMATTER" "Ljava/util/function/BiFunction;" fm ∧ fm.isRef = true)
def E (u : Int32) (r : Option Value) (s w : State) : Prop := XT.PureE (some (.int (chr8 u))) r s w
theorem law (l : Launch) (t : Addr) (V : Cell) (i : Nat) (u : Int32) (fm : Value) : Law l yN 2 2 2 27 yB 2 (some .char) site (P t V i u fm) (E u) [] 0 0 := by
  refine Law.of_walk (plainFor_of_name (by decide +kernel)) (by decide +kernel) (by decide +kernel) (by decide) (fun _ _ h => by rw [h.1]; rfl) (fun _ U U' hal hh h => ⟨h.1, h.2.1.mv hal hh, h.2.2.1, h.2.2.2.1.there hal hh, h.2.2.2.2⟩) (fun r U U' V V' h1 hal h2 h => XT.PureE.mv r U U' V V' h1 hal h2 h) ?_
  intro p e s m args below meth c s₁ X0 hexec hbytes hml hret hlk hnm hown hh0 W hP
  obtain ⟨rfl, hV, hu, s1, rf⟩ := hP
  have v31 := hV.2.2.2
  have hi : i < V.slots.size := (Array.getElem?_eq_some_iff.mp hu).1
  have c1 : Steps p.tables e below (s₁.setTop (entryFrame m #[.ref t, .int (Int32.ofNat i)] 2)) (s₁.setTop (mkF m 0 #[.val (.ref t), .val (.int (Int32.ofNat i))] [])) := entry rfl
  have c2 : Steps p.tables e below (s₁.setTop (entryFrame m #[.ref t, .int (Int32.ofNat i)] 2)) (s₁.setTop (mkF m 3 #[.val (.ref t), .val (.int (Int32.ofNat i))] [.int (Int32.ofNat V.slots.size), .int (Int32.ofNat i)])) := c1.trans (by
    refine XS.iloadN X0.here hexec rfl (hb hbytes d0) rfl ?_
    refine XS.aloadN X0.here hexec rfl (hb hbytes d1) rfl rfl ?_
    refine X0.alen hexec (hV.mv X0.warmed.alike hh0) rfl rfl (hb hbytes d2) ?_
    exact Steps.refl _)
  obtain ⟨v3, T3, X3, E3, g3⟩ := X0.callS hexec (JO.Str_checkIndex.law l (Int32.ofNat i) (Int32.ofNat V.slots.size) fm) hown (wks W (staticW "java/lang/StringLatin1" 9 JO.Str_checkIndex.yN)) (wk W JO.Str_checkIndex.tab) (W := 0) (Nat.le_of_ble_eq_true rfl) (Nat.le_of_ble_eq_true rfl) (Nat.le_refl _) (Nat.le_refl _) (g := (mkF m 3 #[.val (.ref t), .val (.int (Int32.ofNat i))] [.int (Int32.ofNat V.slots.size), .int (Int32.ofNat i)])) rfl (by rw [hml]; rfl) c2 (argsL := [.int (Int32.ofNat i), .int (Int32.ofNat V.slots.size)]) (rest := []) rfl rfl (by show 2 * 0 + 0 ≤ _; decide) (hb hbytes d3) (⟨rfl, rf, s1.there X0.warmed.alike hh0, Int32.ofNat_not_neg (by omega), lt32 v31 hi⟩)
  obtain ⟨rfl, q3⟩ := E3
  have hh3 := q3.trans hh0
  have c4 : Steps p.tables e below (s₁.setTop (entryFrame m #[.ref t, .int (Int32.ofNat i)] 2)) (T3.setTop (mkF m 14 #[.val (.ref t), .val (.int (Int32.ofNat i))] [.int (chr8 u)])) := Steps.trans g3 (by
    refine XS.aloadN X3.here hexec rfl (hb hbytes d6) rfl rfl ?_
    refine XS.iloadN X3.here hexec rfl (hb hbytes d7) rfl ?_
    refine X3.aget hexec (hV.mv X3.warmed.alike hh3) rfl hu rfl rfl (hb hbytes d8) ?_
    refine sipushV X3.here hexec rfl 255 (hb hbytes d9) (by decide) ?_
    refine XS.iand X3.here hexec rfl (hb hbytes d12) rfl ?_
    refine i2c X3.here hexec rfl (hb hbytes d13) rfl ?_
    exact Steps.refl _)
  exact ⟨T3, some (.int (chr8 u)), _, _, _, X3, rfl, rfl, rfl, (fun h => by cases h), ⟨rfl, hh3⟩, fun fs hl => c4.trans (X3.ireturnOut hexec hret (narrow_c _) (Or.inr (Or.inr (Or.inr (Or.inl rfl)))) (hb hbytes d14) hl)⟩
end LChA
end StrChars
namespace StrChars.Road
open Jvm Sem ClassFile Op Lib Jvm.Stand Jvm.Free Jvm.Free.XT
open Jvm.Lib.Cold (StaticIs)
theorem consq {a : Array Value} {s : State} {c : Jvm.Cond} {L : List Jvm.Cond} (h0 : c.before a s = true) (h : ∀ w ∈ L, w.before a s = true) : ∀ w ∈ c :: L, w.before a s = true := fun w hw => (List.mem_cons.mp hw).elim (fun e => e ▸ h0) (h w)
/-- the words of String.length(), either coding -/
abbrev wordsLen : List Jvm.Cond := [.code Len.yN Len.yB 1 (some .int), .initialized ST, .fieldLink ST 9 ST "value" "[B", .fieldLink ST 38 ST "COMPACT_STRINGS" "Z", .fieldLink ST 15 ST "coder" "B", .code Cdr.yN Cdr.yB 1 (some .byte), .methodLink ST 335 Cdr.yN, .declares Cdr.yN, .selects ST Cdr.yN Cdr.yN, .instanceMethod Cdr.yN]
theorem tabLen_of {a : Array Value} {s : State} (h : ∀ w ∈ wordsLen, w.before a s = true) : Len.tab.before a s = true := by
  have hc : Cdr.tab.before a s = true := unparts (wk h (.code Cdr.yN Cdr.yB 1 (some .byte))) (wks h (.initialized Cdr.yN.cls :: Cdr.site))
  have q := consq hc h
  exact unparts (wk q (.code Len.yN Len.yB 1 (some .int))) (wks q (.initialized Len.yN.cls :: Len.site))
theorem movedLen {Z s : State} {a0 args : Array Value} (hZ : Z.Warmed39 s.vm) (hw : ∀ d ∈ wordsLen, d.before a0 Z = true) : ∀ d ∈ wordsLen, d.before args s = true := fun d hd => by
  have q := hw d hd
  have t : ∀ d ∈ wordsLen, d = .arrayClass .byte ∨ (d.onTables && d.keepsFace) = true := by decide +kernel
  rcases t d hd with rfl | t
  · exact RoadKit.mvA hZ q
  · exact RoadKit.mv hZ q t
/-- the bytes of the chars cs, low before high -/
def wideBytes : List Int32 → List Value
  | [] => []
  | c :: cs => .int (lo8 c) :: .int (hi8 c) :: wideBytes cs
theorem wide_lo (d : Value) : ∀ (cs : List Int32) (j : Nat), j < cs.length → (wideBytes cs).getD (2 * j) d = .int (lo8 (cs.getD j 0))
  | [], j, h => absurd h (Nat.not_lt_zero j)
  | c :: cs, 0, _ => rfl
  | c :: cs, j + 1, h => by
    have q := wide_lo d cs j (by simpa using h)
    rw [show 2 * (j + 1) = 2 * j + 1 + 1 from by omega]
    simpa [wideBytes] using q
theorem wide_hi (d : Value) : ∀ (cs : List Int32) (j : Nat), j < cs.length → (wideBytes cs).getD (2 * j + 1) d = .int (hi8 (cs.getD j 0))
  | [], j, h => absurd h (Nat.not_lt_zero j)
  | c :: cs, 0, _ => rfl
  | c :: cs, j + 1, h => by
    have q := wide_hi d cs j (by simpa using h)
    rw [show 2 * (j + 1) + 1 = 2 * j + 1 + 1 + 1 from by omega]
    simpa [wideBytes] using q
theorem low_at (d : Value) (cs : List Int32) (j : Nat) (h : j < cs.length) : (cs.map fun c => Value.int (lo8 c)).getD j d = .int (lo8 (cs.getD j 0)) := by
  simp [List.getD_eq_getElem?_getD, h]
/-- an array of N2 bytes vs codes the chars cs by the coder cd -/
def CodA (cs : List Int32) (cd N2 : Int32) (vs : List Value) : Prop := (cd = 0 ∧ N2 = Int32.ofNat cs.length ∧ vs = (cs.map fun c => Value.int (lo8 c)) ∧ ∀ c ∈ cs, ¬ 255 < c) ∨ (cd = 1 ∧ N2 = Int32.ofNat (2 * cs.length) ∧ vs = wideBytes cs ∧ ∃ c ∈ cs, 255 < c)
theorem CodA.cod {cs : List Int32} {cd N2 : Int32} {vs : List Value} {V : Cell} (h : CodA cs cd N2 vs) (hn : 2 * cs.length < 2 ^ 31) (hs : V.slots.size = N2.toNatClampNeg) (hv : RoadKit.Has V vs (.int 0)) : Cod cd cs.length (fun j => cs.getD j 0) V := by
  rcases h with ⟨rfl, rfl, rfl, h⟩ | ⟨rfl, rfl, rfl, c, hc, hw⟩
  · rw [n32 (by omega)] at hs
    exact Or.inl ⟨rfl, hs, fun j hj => ⟨by rw [hv j (by omega), low_at _ _ _ hj], by
      have e : cs.getD j 0 = cs[j] := by simp [List.getD_eq_getElem?_getD, hj]
      show ¬ 255 < cs.getD j 0
      rw [e]; exact h _ (List.getElem_mem _)⟩⟩
  · rw [n32 (by omega)] at hs
    obtain ⟨j, hj, rfl⟩ := List.getElem_of_mem hc
    exact Or.inr ⟨rfl, hs, fun j hj => ⟨by rw [hv _ (by omega), wide_lo _ _ _ hj], by rw [hv _ (by omega), wide_hi _ _ _ hj]⟩, j, hj, by
      have e : cs.getD j 0 = cs[j] := by simp [List.getD_eq_getElem?_getD, hj]
      show 255 < cs.getD j 0
      rw [e]; exact hw⟩
/-- an object of exactly java/lang/String, its two fields found: as the laws ask it -/
theorem strObj {Z U : State} {a0 : Array Value} {kI : Nat} (wi : (Jvm.Cond.instantiable ST kI).before a0 Z = true) (al : Z.vm.Alike U.vm) {x : Addr} {v0 c0 : Value} (E : RoadKit.Exa Z U.heap x ST) (V : RoadKit.Fld Z U.heap x ST "value" "[B" v0) (C : RoadKit.Fld Z U.heap x ST "coder" "B" c0) :
    ∃ (D : Cell) (fV fC : Field), Blank ST x D U ∧ Found ST "value" "[B" fV U ∧ Found ST "coder" "B" fC U ∧ D.slots[fV.slot]? = some v0 ∧ D.slots[fC.slot]? = some c0 ∧ RoadKit.slotOf Z ST "value" "[B" = fV.slot ∧ RoadKit.slotOf Z ST "coder" "B" = fC.slot := by
  obtain ⟨D, cfV, kV, iV, fV, hD, gV, stV, knV, obV, asV, slV⟩ := V
  obtain ⟨D', cfC, kC, iC, fC, hD', gC, stC, -, -, asC, slC⟩ := C
  cases hD.symm.trans hD'
  obtain ⟨D2, kD, e1, e2, e3, e4, e5⟩ := E
  cases hD.symm.trans e1
  obtain ⟨c2, k2, i1, i2, i3, -⟩ := Cond.instantiable_spec wi
  cases e2.symm.trans i1
  cases e3.symm.trans i2
  obtain ⟨kU, u1, u2⟩ := al.2.2 _ _ e3
  exact ⟨D, fV, fC, ⟨hD, ⟨knV, fun q hq => by rw [hq] at obV; cases obV⟩, by rw [al.findClass]; exact e2, kU, u1, by rw [u2]; exact i3, by rw [u2]; exact e5 i3⟩, ⟨SBG.found_only al ⟨cfV, kV, iV, gV⟩, stV⟩, ⟨SBG.found_only al ⟨cfC, kC, iC, gC⟩, stC⟩, slV, slC, by simp [RoadKit.slotOf, gV], by simp [RoadKit.slotOf, gC]⟩
theorem sta_is {Z U : State} (al : Z.vm.Alike U.vm) {C n d : String} {v : Value} (S : RoadKit.Sta Z U.heap C n d v) : StaticIs U C n d v := by
  obtain ⟨cfS, iS, kS, fS, st, cS, t1, t2, t3, t4, t5, t6, t7⟩ := S
  exact StaticIs.there (s := { Z with heap := U.heap }) ⟨cfS, iS, kS, fS, st, cS, t1, t2, t3, t4, t5, (fun q => by rw [q] at t6; cases t6), t7⟩ al rfl
/-- **length() OF SUCH A STRING** -/
theorem lenW {p : Program} {l : Launch} {e : Env} {R : Room} {s : State} {args : Array Value} {below : List Frame} {len W : Nat} {Z : State} {a0 : Array Value} {h : Heap} (hZ : Z.Warmed39 s.vm) (hw : ∀ d ∈ wordsLen, d.before a0 Z = true) {kI : Nat} (wi : (Jvm.Cond.instantiable ST kI).before a0 Z = true)
    {x t : Addr} {kb : ClassId} {cs : List Int32} {cd N2 z : Int32} {vs : List Value} (E : RoadKit.Exa Z h x ST) (V : RoadKit.Fld Z h x ST "value" "[B" (.ref t)) (C : RoadKit.Fld Z h x ST "coder" "B" (.int cd)) (K : RoadKit.Arv Z h t kb .byte N2 vs (.int 0)) (hc : CodA cs cd N2 vs) (hb : ∀ c ∈ cs, ¬ c < 0 ∧ ¬ (65535 : Int32) < c)
    (S : RoadKit.Sta Z h ST "COMPACT_STRINGS" "Z" (.int z)) (hz : ¬ z = 0) (l2 : cs.length ≤ 4000) (hfr : 2 ≤ R.frames) (hlo : W + 25 ≤ R.locals) :
    Back l R p e below s args (⟨"java/lang/String", "length", "()I"⟩ : MethodName) len W (fun P a => a = #[.ref x] ∧ P.U.heap = h ∧ P.cells + 0 ≤ R.cells ∧ P.slots + 0 ≤ R.slots)
      (fun P _ v B => ∃ L, (v = some (.int (Int32.ofNat cs.length)) ∧ L = [] ∧ B.U.heap = h) ∧ B.locs = P.locs ++ L ∧ B.cells = P.cells + 0 ∧ B.slots = P.slots + 0) := by
  obtain ⟨A, K1, K2, K3, K4, K5, K6⟩ := K
  have hcod := hc.cod (by omega) K3 K5
  intro m meth c P g ig mk a X hg hsize hdg hW hn hp'
  obtain ⟨rfl, rfl, r1, r2⟩ := hp'
  have al : Z.vm.Alike P.U.vm := hZ.alike.trans X.warmed.alike
  obtain ⟨D, fV, fC, hB, F1, F2, g1, g2, -, -⟩ := strObj wi al E V C
  have hx : Txt x t A cd cs.length (fun j => cs.getD j 0) P.U := ⟨⟨_, hB.2.2.1, D, hB.1, rfl, by cases q : D.vm <;> first | rfl | exact absurd q (hB.2.1.2 _)⟩, Has.of hB F1 g1, Has.of hB F2 g2, ⟨K1.1, State.isArrayOf_alike al K1.2.1, K1.2.2, by rcases hcod with ⟨-, q, -⟩ | ⟨-, q, -⟩ <;> omega⟩, hcod, fun j hj => by
    have e : cs.getD j 0 = cs[j] := by simp [List.getD_eq_getElem?_getD, hj]
    show ¬ cs.getD j 0 < 0 ∧ ¬ 65535 < cs.getD j 0
    rw [e]; exact hb _ (List.getElem_mem _)⟩
  obtain ⟨v, B, X', ⟨⟨hv, hh⟩, hl, hk, hs⟩, st⟩ := Len.pays x t A cd cs.length (fun j => cs.getD j 0) z (tabLen_of (movedLen hZ hw)) hfr hlo m meth c P g ig mk _ X hg hsize hdg hW hn ⟨r1, r2, rfl, hx, sta_is al S, hz⟩
  exact ⟨v, B, X', ⟨[], ⟨hv, rfl, hh⟩, hl, hk, hs⟩, st⟩
end StrChars.Road
namespace StrChars.Road
open Jvm Sem ClassFile Op Lib Jvm.Stand Jvm.Free Jvm.Free.XT
open Jvm.Lib.Cold (StaticIs)
/-- the road's facts of a String, as the laws ask it -/
theorem txt_of {Z U : State} {a0 : Array Value} {kI : Nat} (wi : (Jvm.Cond.instantiable ST kI).before a0 Z = true) (al : Z.vm.Alike U.vm) {x t : Addr} {kb : ClassId} {cs : List Int32} {cd N2 : Int32} {vs : List Value} (E : RoadKit.Exa Z U.heap x ST) (V : RoadKit.Fld Z U.heap x ST "value" "[B" (.ref t)) (C : RoadKit.Fld Z U.heap x ST "coder" "B" (.int cd)) (K : RoadKit.Arv Z U.heap t kb .byte N2 vs (.int 0)) (hc : CodA cs cd N2 vs) (hb : ∀ c ∈ cs, ¬ c < 0 ∧ ¬ (65535 : Int32) < c) (l2 : cs.length ≤ 4000) :
    ∃ A, Txt x t A cd cs.length (fun j => cs.getD j 0) U := by
  obtain ⟨A, K1, K2, K3, K4, K5, K6⟩ := K
  have hcod := hc.cod (by omega) K3 K5
  obtain ⟨D, fV, fC, hB, F1, F2, g1, g2, -, -⟩ := strObj wi al E V C
  exact ⟨A, ⟨_, hB.2.2.1, D, hB.1, rfl, by cases q : D.vm <;> first | rfl | exact absurd q (hB.2.1.2 _)⟩, Has.of hB F1 g1, Has.of hB F2 g2, ⟨K1.1, State.isArrayOf_alike al K1.2.1, K1.2.2, by rcases hcod with ⟨-, q, -⟩ | ⟨-, q, -⟩ <;> omega⟩, hcod, fun j hj => by
    have e : cs.getD j 0 = cs[j] := by simp [List.getD_eq_getElem?_getD, hj]
    show ¬ cs.getD j 0 < 0 ∧ ¬ 65535 < cs.getD j 0
    rw [e]; exact hb _ (List.getElem_mem _)⟩
end StrChars.Road
namespace StrChars
open Jvm Sem ClassFile Op Lib Jvm.Stand Jvm.Free.XT Jvm.Free.ALB Jvm.Free.JM Jvm.Free
open Jvm.Lib.Cold (StaticIs)
namespace ChN
def yN : MethodName := ⟨"java/lang/String", "charAt", "(I)C"⟩
abbrev yB : ByteArray := jdk_42_method_56_code
theorem d0 : decode yB 0 = .ok (.aload_n 0, 1) := by decide +kernel
theorem d1 : decode yB 1 = .ok (.invokevirtual 492, 3) := by decide +kernel
theorem d4 : decode yB 4 = .ok (.ifCond (.eq) 12, 3) := by decide +kernel
theorem d7 : decode yB 7 = .ok (.aload_n 0, 1) := by decide +kernel
theorem d8 : decode yB 8 = .ok (.getfield 9, 3) := by decide +kernel
theorem d11 : decode yB 11 = .ok (.iload_n 1, 1) := by decide +kernel
theorem d12 : decode yB 12 = .ok (.invokestatic 495, 3) := by decide +kernel
theorem d15 : decode yB 15 = .ok (.ireturn, 1) := by decide +kernel
def site : List Cond := [.fieldLink "java/lang/String" 9 "java/lang/String" "value" "[B", IsL.tab, LChA.tab] ++ virtW "java/lang/String" 492 "java/lang/String" IsL.yN IsL.yN ++ staticW "java/lang/String" 495 LChA.yN
def tab : Cond := tabOf yN yB 2 (some .char) site
def P (x t : Addr) (V : Cell) (n : Nat) (f : Nat → Int32) (z : Int32) (fm : Value) (i : Nat) (args : Array Value) (s : State) : Prop := args = #[.ref x, .int (Int32.ofNat i)] ∧ Txt x t V 0 n f s ∧ i < n ∧ StaticIs s "java/lang/String" "COMPACT_STRINGS" "Z" (.int z) ∧ ¬ z = 0 ∧ StaticIs s "jdk/internal/util/Preconditions" "SIOOBE_FORMATTER" "Ljava/util/function/BiFunction;" fm ∧ fm.isRef = true
def E (f : Nat → Int32) (i : Nat) (r : Option Value) (s u : State) : Prop := XT.PureE (some (.int (f i))) r s u
/-- charAt(i) of a Latin-1 String of n chars, i < n: f i -/
theorem law (l : Launch) (x t : Addr) (V : Cell) (n : Nat) (f : Nat → Int32) (z : Int32) (fm : Value) (i : Nat) : Law l yN 2 1 3 40 yB 2 (some .char) site (P x t V n f z fm i) (E f i) [] 0 0 := by
  refine Law.of_walk (plainFor_of_name (by decide +kernel)) (by decide +kernel) (by decide +kernel) (by decide) (fun _ _ h => by rw [h.1]; rfl) (fun _ U U' hal hh h => ⟨h.1, h.2.1.mv hal hh, h.2.2.1, h.2.2.2.1.there hal hh, h.2.2.2.2.1, h.2.2.2.2.2.1.there hal hh, h.2.2.2.2.2.2⟩) (fun r U U' V V' h1 hal h2 h => XT.PureE.mv r U U' V V' h1 hal h2 h) ?_
  intro p e s m args below meth c s₁ X0 hexec hbytes hml hret hlk hnm hown hh0 W hP
  obtain ⟨rfl, hx, hi, s1, hz, s3, rf⟩ := hP
  have v31 := hx.2.2.2.1.2.2.2
  have hr := hx.2.2.2.2.2 i hi
  have hx0 := hx.mv X0.warmed.alike hh0
  have c1 : Steps p.tables e below (s₁.setTop (entryFrame m #[.ref x, .int (Int32.ofNat i)] 2)) (s₁.setTop (mkF m 1 #[.val (.ref x), .val (.int (Int32.ofNat i))] [.ref x])) := Steps.trans (entry rfl) (by
    show Steps p.tables e below (s₁.setTop (mkF m 0 #[.val (.ref x), .val (.int (Int32.ofNat i))] [])) _
    refine XS.aloadN X0.here hexec rfl (hb hbytes d0) rfl rfl ?_
    exact Steps.refl _)
  obtain ⟨v2, T2, X2, E2, g2⟩ := X0.callV hexec (IsL.law l x 0 z) hown (wks W (virtW "java/lang/String" 492 "java/lang/String" IsL.yN IsL.yN)) rfl (by decide) (wk W IsL.tab) (W := 0) (Nat.le_of_ble_eq_true rfl) (Nat.le_of_ble_eq_true rfl) (Nat.le_refl _) (Nat.le_refl _) (hx0.1.fc X0.warmed.alike) hx0.1.is (g := (mkF m 1 #[.val (.ref x), .val (.int (Int32.ofNat i))] [.ref x])) rfl (by rw [hml]; rfl) c1 (argsL := []) (rest := []) rfl rfl (by show 2 * 0 + 0 ≤ _; decide) (hb hbytes d1) (⟨rfl, hx0.2.2.1, hx.2.2.2.2.1.cd, s1.there X0.warmed.alike hh0, hz⟩)
  obtain ⟨rfl, q2⟩ := E2
  have hh2 := q2.trans hh0
  have hx2 := hx.mv X2.warmed.alike hh2
  obtain ⟨-, k1, k2⟩ | ⟨k0, -⟩ := hx.2.2.2.2.1
  · have c3 : Steps p.tables e below (s₁.setTop (entryFrame m #[.ref x, .int (Int32.ofNat i)] 2)) (T2.setTop (mkF m 8 #[.val (.ref x), .val (.int (Int32.ofNat i))] [.ref x])) := Steps.trans g2 (by
      refine XS.ifNo X2.here hexec rfl (hb hbytes d4) rfl (i0_eq_f (by decide)) ?_
      refine XS.aloadN X2.here hexec rfl (hb hbytes d7) rfl rfl ?_
      exact Steps.refl _)
    obtain ⟨T4, X4, q4, st4⟩ := X2.hget hexec hown (wk W (.fieldLink "java/lang/String" 9 "java/lang/String" "value" "[B")) hx2.2.1 (g := (mkF m 8 #[.val (.ref x), .val (.int (Int32.ofNat i))] [.ref x])) rfl (rest := []) rfl (hb hbytes d8)
    have hh4 := q4.trans hh2
    have c5 : Steps p.tables e below (s₁.setTop (entryFrame m #[.ref x, .int (Int32.ofNat i)] 2)) (T4.setTop (mkF m 12 #[.val (.ref x), .val (.int (Int32.ofNat i))] [.int (Int32.ofNat i), .ref t])) := (c3.trans (st4 _ (Steps.refl _))).trans (by
      refine XS.iloadN X4.here hexec rfl (hb hbytes d11) rfl ?_
      exact Steps.refl _)
    obtain ⟨v6, T6, X6, E6, g6⟩ := X4.callS hexec (LChA.law l t V i (lo8 (f i)) fm) hown (wks W (staticW "java/lang/String" 495 LChA.yN)) (wk W LChA.tab) (W := 0) (Nat.le_of_ble_eq_true rfl) (Nat.le_of_ble_eq_true rfl) (Nat.le_refl _) (Nat.le_refl _) (g := (mkF m 12 #[.val (.ref x), .val (.int (Int32.ofNat i))] [.int (Int32.ofNat i), .ref t])) rfl (by rw [hml]; rfl) c5 (argsL := [.ref t, .int (Int32.ofNat i)]) (rest := []) rfl rfl (by show 2 * 0 + 0 ≤ _; decide) (hb hbytes d12) (⟨rfl, hx.2.2.2.1.mv X4.warmed.alike hh4, (k2 i hi).1, s3.there X4.warmed.alike hh4, rf⟩)
    obtain ⟨rfl, q6⟩ := E6
    rw [chr8_lo8 hr.1 (k2 i hi).2] at g6
    exact ⟨T6, some (.int (f i)), _, _, _, X6, rfl, rfl, rfl, (fun h => by cases h), ⟨rfl, q6.trans hh4⟩, fun fs hl => Steps.trans g6 (X6.ireturnOut hexec hret (narrow_ch hr.1 hr.2) (Or.inr (Or.inr (Or.inr (Or.inl rfl)))) (hb hbytes d15) hl)⟩
  · exact absurd k0 (by decide)
theorem pays {l : Launch} {R : Room} {p : Program} {e : Env} {below : List Frame} {s : State} {sargs : Array Value} {len W : Nat} (x t : Addr) (V : Cell) (n : Nat) (f : Nat → Int32) (z : Int32) (fm : Value) (i : Nat) (htab : tab.before sargs s = true) (hfr : 4 ≤ R.frames) (hlo : W + 53 ≤ R.locals) :
    Back l R p e below s sargs yN len W (fun A₁ a₁ => A₁.cells + 0 ≤ R.cells ∧ A₁.slots + 0 ≤ R.slots ∧ P x t V n f z fm i a₁ A₁.U) (fun A₁ _ v₁ B₁ => E f i v₁ A₁.U B₁.U ∧ B₁.locs = A₁.locs ++ [] ∧ B₁.cells = A₁.cells + 0 ∧ B₁.slots = A₁.slots + 0) :=
  (law l x t V n f z fm i).pays htab hfr (by omega)
end ChN
end StrChars
namespace StrChars.Road
open Jvm Sem ClassFile Op Lib Jvm.Stand Jvm.Free Jvm.Free.XT
open Jvm.Lib.Cold (StaticIs)
/-- the words of String.charAt(int), the Latin-1 road alone -/
abbrev wordsChN : List Jvm.Cond := [.code ChN.yN ChN.yB 2 (some .char), .initialized ST, .fieldLink ST 9 ST "value" "[B", .fieldLink ST 38 ST "COMPACT_STRINGS" "Z", .fieldLink ST 15 ST "coder" "B", .code IsL.yN IsL.yB 1 (some .boolean), .methodLink ST 492 IsL.yN, .declares IsL.yN, .selects ST IsL.yN IsL.yN, .instanceMethod IsL.yN,
  .methodLink ST 495 LChA.yN, .static LChA.yN, .code LChA.yN LChA.yB 2 (some .char), .initialized "java/lang/StringLatin1", .methodLink "java/lang/StringLatin1" 9 JO.Str_checkIndex.yN, .static JO.Str_checkIndex.yN, .code JO.Str_checkIndex.yN JO.Str_checkIndex.yB 2 none,
  .fieldLink ST 1053 "jdk/internal/util/Preconditions" "SIOOBE_FORMATTER" "Ljava/util/function/BiFunction;", .methodLink ST 1059 JC.PreCheck.yN, .static JC.PreCheck.yN, .code JC.PreCheck.yN JC.PreCheck.yB 3 (some .int), .initialized "jdk/internal/util/Preconditions"]
theorem tabChN_of {a : Array Value} {s : State} (h : ∀ w ∈ wordsChN, w.before a s = true) : ChN.tab.before a s = true := by
  have hp : JC.PreCheck.tab.before a s = true := unparts (wk h (.code JC.PreCheck.yN JC.PreCheck.yB 3 (some .int))) (wks h (.initialized JC.PreCheck.yN.cls :: JC.PreCheck.site))
  have qk := consq hp h
  have hk : JO.Str_checkIndex.tab.before a s = true := unparts (wk qk (.code JO.Str_checkIndex.yN JO.Str_checkIndex.yB 2 none)) (wks qk (.initialized JO.Str_checkIndex.yN.cls :: JO.Str_checkIndex.site))
  have ql := consq hk h
  have hl : LChA.tab.before a s = true := unparts (wk ql (.code LChA.yN LChA.yB 2 (some .char))) (wks ql (.initialized LChA.yN.cls :: LChA.site))
  have hi : IsL.tab.before a s = true := unparts (wk h (.code IsL.yN IsL.yB 1 (some .boolean))) (wks h (.initialized IsL.yN.cls :: IsL.site))
  have q := consq hi (consq hl h)
  exact unparts (wk q (.code ChN.yN ChN.yB 2 (some .char))) (wks q (.initialized ChN.yN.cls :: ChN.site))
theorem movedChN {Z s : State} {a0 args : Array Value} (hZ : Z.Warmed39 s.vm) (hw : ∀ d ∈ wordsChN, d.before a0 Z = true) : ∀ d ∈ wordsChN, d.before args s = true := fun d hd => by
  have t : ∀ d ∈ wordsChN, (d.onTables && d.keepsFace) = true := by decide +kernel
  exact RoadKit.mv hZ (hw d hd) (t d hd)
/-- **charAt(i) OF A LATIN-1 STRING**, i < n: the char -/
theorem chN {p : Program} {l : Launch} {e : Env} {R : Room} {s : State} {args : Array Value} {below : List Frame} {len W : Nat} {Z : State} {a0 : Array Value} {h : Heap} (hZ : Z.Warmed39 s.vm) (hw : ∀ d ∈ wordsChN, d.before a0 Z = true) {kI : Nat} (wi : (Jvm.Cond.instantiable ST kI).before a0 Z = true)
    {x t : Addr} {kb : ClassId} {cs : List Int32} {N2 z : Int32} {vs : List Value} {fm : Value} {i : Nat} {j : Int32} (E : RoadKit.Exa Z h x ST) (V : RoadKit.Fld Z h x ST "value" "[B" (.ref t)) (C : RoadKit.Fld Z h x ST "coder" "B" (.int 0)) (K : RoadKit.Arv Z h t kb .byte N2 vs (.int 0)) (hc : CodA cs 0 N2 vs) (hb : ∀ c ∈ cs, ¬ c < 0 ∧ ¬ (65535 : Int32) < c)
    (S : RoadKit.Sta Z h ST "COMPACT_STRINGS" "Z" (.int z)) (hz : ¬ z = 0) (F : RoadKit.Sta Z h "jdk/internal/util/Preconditions" "SIOOBE_FORMATTER" "Ljava/util/function/BiFunction;" fm) (rf : fm.isRef = true) (l2 : cs.length ≤ 4000) (hi : i < cs.length) (hj : j = Int32.ofNat i) (hfr : 4 ≤ R.frames) (hlo : W + 53 ≤ R.locals) :
    Back l R p e below s args (⟨"java/lang/String", "charAt", "(I)C"⟩ : MethodName) len W (fun P a => a = #[.ref x, .int j] ∧ P.U.heap = h ∧ P.cells + 0 ≤ R.cells ∧ P.slots + 0 ≤ R.slots)
      (fun P _ v B => ∃ L, (v = some (.int (cs.getD i 0)) ∧ L = [] ∧ B.U.heap = h) ∧ B.locs = P.locs ++ L ∧ B.cells = P.cells + 0 ∧ B.slots = P.slots + 0) := by
  subst hj
  intro m meth c P g ig mk a X hg hsize hdg hW hn hp'
  obtain ⟨rfl, rfl, r1, r2⟩ := hp'
  have al : Z.vm.Alike P.U.vm := hZ.alike.trans X.warmed.alike
  obtain ⟨A, hx⟩ := txt_of wi al E V C K hc hb l2
  obtain ⟨v, B, X', ⟨⟨hv, hh⟩, hl, hk, hs⟩, st⟩ := ChN.pays x t A cs.length (fun j => cs.getD j 0) z fm i (tabChN_of (movedChN hZ hw)) hfr hlo m meth c P g ig mk _ X hg hsize hdg hW hn ⟨r1, r2, rfl, hx, hi, sta_is al S, hz, sta_is al F, rf⟩
  exact ⟨v, B, X', ⟨[], ⟨hv, rfl, hh⟩, hl, hk, hs⟩, st⟩
/-- what backV says of its String, as the contracts of this text ask it: cs's low bytes, coder 0 -/
theorem codOf {cs : List Int32} {n : Nat} (hn : cs.length = n) (hb : ∀ c ∈ cs, ¬ 255 < c) : CodA cs 0 (Int32.ofNat n) ((cs.map lo8).map Value.int) := Or.inl ⟨rfl, by rw [hn], by simp [List.map_map, Function.comp_def], hb⟩
end StrChars.Road
end Jvm.Pilot.@@N@@
namespace Jvm.Pilot.@@N@@
open Jvm Jvm.ClassFile Sem Op Lib Jvm.Free Jvm.Stand Jvm.LawKit Jvm.RoadKit Bundle Jvm.Pilot.@@N@@.Jvm.D

section OwnKit
variable {G : State → JFrame → Prop} {p : Program} {l : Launch} {e : Env} {R : Room} {s : State} {m : MethodId} {args : Array Value} {below : List Frame} {meth : Method} {c : Code} {Z : State} {n0 : Nat} {own nm : String} {bytes : ByteArray} {maxL : Nat} {ret : Option FieldType} {T : State} {h : Heap} {cells slots : Nat} {a0 : Array Value} {s0 : State} {EL : List (String × Nat)} {P : List Addr} {ro : Bool}
def own_Cl (p : Program) (e : Env) (below : List Frame) (G : State → JFrame → Prop) : Prop :=
  ∀ (T T' : State) (g g' : JFrame), (∀ t, Steps p.tables e below (T'.setTop g') t → Steps p.tables e below (T.setTop g) t) → G T' g' → G T g
def own_Cx (p : Program) (s : State) (m : MethodId) (meth : Method) (c : Code) (Z : State) (own nm : String) (bytes : ByteArray) (maxL : Nat) (ret : Option FieldType) : Prop :=
  p.tables.exec = Jvm.exec ∧ c.code = bytes ∧ Z.Warmed39 s.vm ∧ s.vm.findClass own = some m.cls ∧ c.maxLocals = maxL ∧ meth.name = nm ∧ meth.sig.returnType = ret ∧ meth.locks = false
def own_EW (Z : State) (EL : List (String × Nat)) : Prop := ∃ a0, EW Z a0 EL
def own_Sf (Z : State) (EL : List (String × Nat)) (P : List Addr) (vm : Vm) (h : Heap) : Prop := CHv Z EL vm h ∧ ∀ x ∈ P, Safe Z EL vm h x ∧ x < h.size
def own_Ok (s0 s : State) (EL : List (String × Nat)) (P : List Addr) (Z : State) (n0 : Nat) (h : Heap) : Prop :=
  Old Z n0 h ∧ (s = s0.setVm s.vm ∧ ∃ k0, s0.Since s.vm k0 ∧ k0 ≤ h.size) ∧ own_EW Z EL ∧ CHr Z EL s0.vm s0.heap s.vm h ∧ ∀ x ∈ P, Safe Z EL s.vm h x ∧ x < h.size
theorem own_Ok.go {h' : Heap} (O : own_Ok s0 s EL P Z n0 h) (O' : Old Z n0 h') (g : h.size ≤ h'.size) (A : CHr Z EL s.vm h s.vm h') : own_Ok s0 s EL P Z n0 h' := by
  obtain ⟨-, ⟨e1, k0, e2, e3⟩, e4, e5, e6⟩ := O
  exact ⟨O', ⟨e1, k0, e2, Nat.le_trans e3 g⟩, e4, e5.trans A, fun x hx => ⟨A.safe (e6 x hx).2 (e6 x hx).1, Nat.lt_of_lt_of_le (e6 x hx).2 g⟩⟩
theorem own_Ok.ext {h' : Heap} (O : own_Ok s0 s EL P Z n0 h) (E : Ext h h') : own_Ok s0 s EL P Z n0 h' := O.go (O.1.ext E) E.1 (CHr.ext E O.2.2.2.1.1)
theorem own_Ok.keepS {h' : Heap} {ws : List Addr} (O : own_Ok s0 s EL P Z n0 h) (K : Keep h h' ws) (q : ∀ x ∈ ws, n0 ≤ x) (r : ∀ x ∈ ws, Safe Z EL s.vm h x) : own_Ok s0 s EL P Z n0 h' := O.go (O.1.keep K q) K.1 (CHr.keep K r O.2.2.2.1.1)
theorem own_Ok.wr {h' : Heap} {a : Addr} {sl : Nat} {v : Value} (O : own_Ok s0 s EL P Z n0 h) (W : Wr h h' a sl v) (q : n0 ≤ a) (r : Safe Z EL s.vm h a) : own_Ok s0 s EL P Z n0 h' := O.keepS (Keep.of_wr W) (allS q all0) (allS r all0)
theorem own_Ok.less {P' : List Addr} (O : own_Ok s0 s EL P Z n0 h) (q : ∀ x ∈ P', x ∈ P) : own_Ok s0 s EL P' Z n0 h := ⟨O.1, O.2.1, O.2.2.1, O.2.2.2.1, fun x hx => O.2.2.2.2 x (q x hx)⟩
theorem own_Ok.add {x : Addr} (O : own_Ok s0 s EL P Z n0 h) (r : Safe Z EL s.vm h x) (q : x < h.size) : own_Ok s0 s EL (x :: P) Z n0 h := ⟨O.1, O.2.1, O.2.2.1, O.2.2.2.1, allS ⟨r, q⟩ O.2.2.2.2⟩
/-- a cell made by the last step is no literal's -/
theorem own_Ok.made {h' : Heap} {x : Addr} (O : own_Ok s0 s EL P Z n0 h) (E : Ext h h') (hx : h.size ≤ x) (q : x < h'.size) : own_Ok s0 s EL (x :: P) Z n0 h' :=
  (O.ext E).add (Safe.ext E O.2.2.2.1.1 (Safe.new hx)) q
def own_At (G : State → JFrame → Prop) (p : Program) (l : Launch) (e : Env) (R : Room) (s0 s : State) (EL : List (String × Nat)) (P : List Addr) (m : MethodId) (args : Array Value) (below : List Frame) (meth : Method) (c : Code) (Z : State) (n0 : Nat) (own nm : String) (bytes : ByteArray) (maxL : Nat) (ret : Option FieldType) (T : State) (h : Heap) (cells slots : Nat) : Prop :=
  own_Cl p e below G ∧ own_Cx p s m meth c Z own nm bytes maxL ret ∧ ∃ locs, Stand p l e R s m args below meth c T locs cells slots ∧ Fr n0 locs ∧ T.heap = h ∧ own_Ok s0 s EL P Z n0 h
def own_Rs (Z : State) (EL : List (String × Nat)) (ro : Bool) (v : Option Value) (t : State) : Prop := ro = true → ∀ b, v = some (.ref b) → Safe Z EL t.vm t.heap b ∧ b < t.heap.size
def own_Fin (p : Program) (e : Env) (below : List Frame) (s : State) (EL : List (String × Nat)) (ro : Bool) (Z : State) (n0 : Nat) (Q : Option Value → Heap → Prop) (k n : Nat) (T : State) (g : JFrame) : Prop :=
  ∃ s₂ o, Steps p.tables e below (T.setTop g) s₂ ∧ s₂.status = .running ∧ Ended s₂ below o ∧ ∃ v L, o = .returned v ∧ (Q v s₂.heap ∧ Fr n0 L ∧ Old Z n0 s₂.heap) ∧ CHr Z EL s.vm s.heap s₂.vm s₂.heap ∧ own_Rs Z EL ro v s₂ ∧ ReturnedEndW s o s₂ L k n
theorem own_Fin_cl (p : Program) (e : Env) (below : List Frame) (s : State) (EL : List (String × Nat)) (ro : Bool) (Z : State) (n0 : Nat) (Q : Option Value → Heap → Prop) (k n : Nat) : own_Cl p e below (own_Fin p e below s EL ro Z n0 Q k n) := by
  intro T T' g g' hs ⟨s₂, o, h1, h2⟩
  exact ⟨s₂, o, hs _ h1, h2⟩
/-- the contract of a body -/
def own_Met (l : Launch) (Z : State) (EL : List (String × Nat)) (P : List Addr) (ro : Bool) (n0 : Nat) (y : MethodName) (bytes : ByteArray) (maxL : Nat) (ret : Option FieldType) (rm : Room) (as' : Array Value) (h0 : Heap) (Q : Option Value → Heap → Prop) : Prop :=
  ∀ ws, MetFree l y (head1 (Jvm.Cond.code y bytes maxL ret :: ws) rm) (fun a U => a = as' ∧ Z.Warmed39 U.vm ∧ U.heap = h0 ∧ own_Sf Z EL P U.vm h0) (fun _ _ _ _ _ => True) (fun _ U o U' => ∃ v L, o = .returned v ∧ (Q v U'.heap ∧ Fr n0 L ∧ Old Z n0 U'.heap) ∧ CHr Z EL U.vm U.heap U'.vm U'.heap ∧ own_Rs Z EL ro v U' ∧ ReturnedEndW U o U' L rm.cells rm.slots)
theorem own_enter {y : MethodName} {rm : Room} {as' : Array Value} {h0 : Heap} {Q : Option Value → Heap → Prop} (hpn : plainFor y = true) (ho : y.cls = own) (hn : y.name = nm) (hO : Old Z n0 h0) (hE : own_EW Z EL)
    (H : ∀ (G : State → JFrame → Prop) (p : Program) (e : Env) (s : State) (m : MethodId) (below : List Frame) (meth : Method) (c : Code) (T : State), G = own_Fin p e below s EL ro Z n0 Q rm.cells rm.slots → own_At G p l e rm s s EL P m as' below meth c Z n0 own nm bytes maxL ret T h0 0 0 → G T (entryFrame m as' maxL)) :
    own_Met l Z EL P ro n0 y bytes maxL ret rm as' h0 Q := by
  intro ws
  subst ho hn
  refine MetFree.of_bodySF hpn hisR ?_
  intro p e s m args below meth c s₁ Bd hml0 hP hK
  obtain ⟨rfl, hZ, hh, hsf⟩ := hP
  have e0 : s₁.heap = h0 := by rw [← hh, Bd.state]; rfl
  obtain ⟨s₂, o, h1, h2, h3, h4⟩ := H _ p e s m below meth c s₁ rfl ⟨own_Fin_cl p e below s EL ro Z n0 Q rm.cells rm.slots, ⟨Bd.exec, Bd.bytes, hZ, findClass_of_methodNamed Bd.named, hml0, (name_of_methodNamed Bd.named Bd.method).1, Bd.returns, BodyLoose.notSynchronized Bd⟩, [], Stand.of_body Bd, Fr.nil n0, e0, hO, ⟨rfl, 0, (State.WarmedH.refl s).since 0, Nat.zero_le _⟩, hE, (show CHr Z EL s.vm s.heap s.vm h0 by rw [hh]; exact CHr.refl hsf.1), hsf.2⟩
  exact ⟨s₂, o, h1, h2, h3, h4⟩
theorem own_at_heap (X : own_At G p l e R s0 s EL P m args below meth c Z n0 own nm bytes maxL ret T h cells slots) : T.heap = h := by obtain ⟨-, -, _, -, -, e, -⟩ := X; exact e
theorem own_ok (X : own_At G p l e R s0 s EL P m args below meth c Z n0 own nm bytes maxL ret T h cells slots) : own_Ok s0 s EL P Z n0 h := by obtain ⟨-, -, _, -, -, -, e⟩ := X; exact e
theorem own_old (X : own_At G p l e R s0 s EL P m args below meth c Z n0 own nm bytes maxL ret T h cells slots) : Old Z n0 h := (own_ok X).1
theorem own_sta (X : own_At G p l e R s0 s EL P m args below meth c Z n0 own nm bytes maxL ret T h cells slots) {C n d : String} {v : Value} (S : Sta Z Z.heap C n d v) : Sta Z h C n d v := S.ext (own_old X).2
theorem own_n0 (X : own_At G p l e R s0 s EL P m args below meth c Z n0 own nm bytes maxL ret T h cells slots) : n0 ≤ h.size := by have := own_old X; rw [← this.1]; exact this.2.1
theorem own_addP {x : Addr} (X : own_At G p l e R s0 s EL P m args below meth c Z n0 own nm bytes maxL ret T h cells slots) (q : Safe Z EL s.vm h x ∧ x < h.size) : own_At G p l e R s0 s EL (x :: P) m args below meth c Z n0 own nm bytes maxL ret T h cells slots := by
  obtain ⟨hG, C, L, X, N, e, O⟩ := X
  exact ⟨hG, C, L, X, N, e, O.add q.1 q.2⟩
theorem own_mono {P' : List Addr} (X : own_At G p l e R s0 s EL P m args below meth c Z n0 own nm bytes maxL ret T h cells slots) {cells' slots' : Nat} (h1 : cells ≤ cells') (h2 : slots ≤ slots') (h3 : ∀ x ∈ P', x ∈ P) : own_At G p l e R s0 s EL P' m args below meth c Z n0 own nm bytes maxL ret T h cells' slots' := by
  obtain ⟨hG, C, L, X, N, e, O⟩ := X
  exact ⟨hG, C, L, { X with same := X.same.mono h1 h2 }, N, e, O.less h3⟩
theorem own_end {Q : Option Value → Heap → Prop} {k n : Nat} {v : Option Value} {L : List Loc} (X : Stand p l e R s m args below meth c T L cells slots) (hZ : Z.Warmed39 s.vm) (N : Fr n0 L) (eT : T.heap = h) (O : own_Ok s0 s EL P Z n0 h) (hk : cells ≤ k) (hs : slots ≤ n) (hQ : Q v h) (hro : ro = true → ∀ b, v = some (.ref b) → b ∈ P) {fs : List Frame} (hW : s.WarmedH T.vm) (hsame : s.sameButNew { T.setFrames fs with vm := s.vm } L cells slots) :
    (Q v (T.setFrames fs).heap ∧ Fr n0 L ∧ Old Z n0 (T.setFrames fs).heap) ∧ CHr Z EL s0.vm s0.heap (T.setFrames fs).vm (T.setFrames fs).heap ∧ own_Rs Z EL ro v (T.setFrames fs) ∧ ReturnedEndW s0 (.returned v) (T.setFrames fs) L k n := by
  obtain ⟨O, ⟨e1, k0, e2, e3⟩, ⟨a1, e4⟩, e5, e6⟩ := O
  have A : CHr Z EL s.vm h T.vm h := by
    have q := CHv.later (h' := h) hZ (hW := (show (Wst Z s.vm h).Warmed39 T.vm from hW.wide)) e4 ⟨Nat.le_refl _, fun _ _ q => q⟩ (Or.inl hW.interned_eq) e5.1
    exact ⟨q.1, Nat.le_refl _, q.2⟩
  have h2 := e2.trans (vm₂ := T.vm) (n₂ := T.heap.size) ((show (s0.setVm s.vm).WarmedH T.vm from e1 ▸ hW).since _) (by rw [eT]; exact e3)
  refine ⟨⟨by show Q _ T.heap; rw [eT]; exact hQ, N, by show Old Z n0 T.heap; rw [eT]; exact O⟩, by show CHr Z EL s0.vm s0.heap T.vm T.heap; rw [eT]; exact e5.trans A, fun q b hb => by show Safe Z EL T.vm T.heap b ∧ b < T.heap.size; rw [eT]; exact ⟨A.safe (e6 b (hro q b hb)).2 (e6 b (hro q b hb)).1, (e6 b (hro q b hb)).2⟩, ⟨_, rfl⟩, h2.1, h2.2, ?_⟩
  have q := (hsame.setVm s0.vm).mono hk hs
  rw [e1] at q
  exact q
theorem own_ret {Q : Option Value → Heap → Prop} {k n : Nat} (X : own_At G p l e R s0 s EL P m args below meth c Z n0 own nm bytes maxL ret T h cells slots) (hGe : G = own_Fin p e below s0 EL ro Z n0 Q k n) {pc : Nat} {Ls : Array Slot} {w : Value} {t : FieldType} {i : Instr} {rest : List Value} (hret : ret = some t) (hn : narrow t w = w)
    (hi : (i = .ireturn ∧ (t = .int ∨ t = .boolean ∨ t = .byte ∨ t = .char ∨ t = .short) ∧ ∃ z, w = .int z) ∨ (i = .lreturn ∧ t = .long ∧ ∃ z, w = .long z) ∨ (i = .dreturn ∧ t = .double ∧ ∃ z, w = .double z) ∨ (i = .freturn ∧ t = .float ∧ ∃ z, w = .float z) ∨ (i = .areturn ∧ t.isReference = true ∧ w.isRef = true))
    (hd : decode bytes pc = .ok (i, 1)) (hk : cells ≤ k) (hs : slots ≤ n) (hQ : Q (some w) h) (hro : ro = true → ∀ b, some w = some (.ref b) → b ∈ P) : G T (mkF m pc Ls (w :: rest)) := by
  obtain ⟨-, ⟨c1, c2, c3, c4, c5, c6, c7, c8⟩, L, X, N, eT, O⟩ := X
  have hr' : meth.sig.returnType = some t := c7.trans hret
  obtain ⟨fs, hr, hrun, hended, hW, hsame⟩ := X.leave (v := some w) (fun h => by rw [hr'] at h; cases h)
  rw [hGe]
  exact ⟨_, _, retOut X c1 hr' hn hi (hb c2 hd) hr, hrun, hended, _, L, rfl, own_end X c3 N eT O hk hs hQ hro hW hsame⟩
theorem own_retV {Q : Option Value → Heap → Prop} {k n : Nat} (X : own_At G p l e R s0 s EL P m args below meth c Z n0 own nm bytes maxL ret T h cells slots) (hGe : G = own_Fin p e below s0 EL ro Z n0 Q k n) {pc : Nat} {Ls : Array Slot} (hret : ret = none)
    (hd : decode bytes pc = .ok (.return_, 1)) (hk : cells ≤ k) (hs : slots ≤ n) (hQ : Q none h) : G T (mkF m pc Ls []) := by
  obtain ⟨-, ⟨c1, c2, c3, c4, c5, c6, c7, c8⟩, L, X, N, eT, O⟩ := X
  have hr' : meth.sig.returnType = none := c7.trans hret
  obtain ⟨fs, hr, hrun, hended, hW, hsame⟩ := X.leave (v := none) (fun _ => rfl)
  rw [hGe]
  exact ⟨_, _, X.returnOut c1 hr' (hb c2 hd) hr, hrun, hended, _, L, rfl, own_end X c3 N eT O hk hs hQ (fun _ _ q => nomatch q) hW hsame⟩
theorem own_ne {a b : Addr} {n m : Nat} (h1 : a < n) (h2 : n ≤ m) (h3 : m ≤ b) : a ≠ b := Nat.ne_of_lt (Nat.lt_of_lt_of_le h1 (Nat.le_trans h2 h3))
theorem own_ifc {P Q : Prop} [Decidable P] [Decidable Q] (h : P ↔ Q) : (if P then (1 : Int32) else 0) = if Q then 1 else 0 := by
  by_cases q : P
  · rw [if_pos q, if_pos (h.mp q)]
  · rw [if_neg q, if_neg (fun z => q (h.mpr z))]
theorem own_i32 {i : Nat} (hi : i < 2 ^ 31) : (Int32.ofNat i).toInt = i := len_toInt hi
theorem own_i32lt {i n : Nat} (h : i < n) (hn : n < 2 ^ 31) : Int32.ofNat i < Int32.ofNat n := by rw [Int32.lt_iff_toInt_lt, own_i32 (by omega), own_i32 hn]; omega
theorem own_i32le {i n : Nat} (h : n ≤ i) (hi : i < 2 ^ 31) : ¬ Int32.ofNat i < Int32.ofNat n := by rw [Int32.lt_iff_toInt_lt, own_i32 hi, own_i32 (by omega)]; omega
theorem own_inc (i : Nat) : Int32.ofNat i + 1 = Int32.ofNat (i + 1) := (inc_ofNat i).symm
def own_c16 (x : Int32) : Int32 := x.toUInt32.toUInt16.toUInt32.toInt32
def own_b8 (x : Int32) : Int32 := x.toInt8.toInt32
def own_ushr (x k : Int32) : Int32 := (x.toUInt32 >>> (k &&& 31).toUInt32).toInt32
theorem own_aconst_null (X : own_At G p l e R s0 s EL P m args below meth c Z n0 own nm bytes maxL ret T h cells slots) {pc pc' : Nat} {Ls : Array Slot} {st : List Value} (hd : decode bytes pc = .ok (.aconst_null, 1)) (hp : pc' = pc + 1)  (k : G T (mkF m pc' Ls (.null :: st))) : G T (mkF m pc Ls st) := by
  obtain ⟨hG, ⟨c1, c2, -⟩, L, X, -⟩ := X
  subst hp
  exact hG _ _ _ _ (fun t q => XS.aconstNull X.here c1 rfl (hb c2 hd) q) k
theorem own_iconst (X : own_At G p l e R s0 s EL P m args below meth c Z n0 own nm bytes maxL ret T h cells slots) {pc pc' : Nat} {Ls : Array Slot} {st : List Value} {i : Int} {z : Int32} (hd : decode bytes pc = .ok (.iconst i, 1)) (hp : pc' = pc + 1) (hz : Int32.ofInt i = z) (k : G T (mkF m pc' Ls (.int z :: st))) : G T (mkF m pc Ls st) := by
  obtain ⟨hG, ⟨c1, c2, -⟩, L, X, -⟩ := X
  subst hp
  exact hG _ _ _ _ (fun t q => XS.iconst X.here c1 rfl (hb c2 hd) (by rw [hz]; exact q)) k
theorem own_bipush (X : own_At G p l e R s0 s EL P m args below meth c Z n0 own nm bytes maxL ret T h cells slots) {pc pc' : Nat} {Ls : Array Slot} {st : List Value} {i : Int} {z : Int32} (hd : decode bytes pc = .ok (.bipush i, 2)) (hp : pc' = pc + 2) (hz : (Int8.ofInt i).toInt32 = z) (k : G T (mkF m pc' Ls (.int z :: st))) : G T (mkF m pc Ls st) := by
  obtain ⟨hG, ⟨c1, c2, -⟩, L, X, -⟩ := X
  subst hp
  exact hG _ _ _ _ (fun t q => XS.bipush X.here c1 rfl (hb c2 hd) (by rw [hz]; exact q)) k
theorem own_sipush (X : own_At G p l e R s0 s EL P m args below meth c Z n0 own nm bytes maxL ret T h cells slots) {pc pc' : Nat} {Ls : Array Slot} {st : List Value} {i : Int} {z : Int32} (hd : decode bytes pc = .ok (.sipush i, 3)) (hp : pc' = pc + 3) (hz : (Int16.ofInt i).toInt32 = z) (k : G T (mkF m pc' Ls (.int z :: st))) : G T (mkF m pc Ls st) := by
  obtain ⟨hG, ⟨c1, c2, -⟩, L, X, -⟩ := X
  subst hp
  exact hG _ _ _ _ (fun t q => XS.sipush X.here c1 rfl (hb c2 hd) (by rw [hz]; exact q)) k
theorem own_lconst (X : own_At G p l e R s0 s EL P m args below meth c Z n0 own nm bytes maxL ret T h cells slots) {pc pc' : Nat} {Ls : Array Slot} {st : List Value} {i : Fin 2} {z : Int64} (hd : decode bytes pc = .ok (.lconst i, 1)) (hp : pc' = pc + 1) (hz : Int64.ofNat i = z) (k : G T (mkF m pc' Ls (.long z :: st))) : G T (mkF m pc Ls st) := by
  obtain ⟨hG, ⟨c1, c2, -⟩, L, X, -⟩ := X
  subst hp
  exact hG _ _ _ _ (fun t q => XS.lconst X.here c1 rfl (hb c2 hd) (by rw [hz]; exact q)) k
theorem own_iload_n (X : own_At G p l e R s0 s EL P m args below meth c Z n0 own nm bytes maxL ret T h cells slots) {pc pc' : Nat} {Ls : Array Slot} {st : List Value} {i : Fin 4} {v : Int32} (hd : decode bytes pc = .ok (.iload_n i, 1)) (hp : pc' = pc + 1) (hl : Ls[i.val]? = some (.val (.int v))) (k : G T (mkF m pc' Ls (.int v :: st))) : G T (mkF m pc Ls st) := by
  obtain ⟨hG, ⟨c1, c2, -⟩, L, X, -⟩ := X
  subst hp
  exact hG _ _ _ _ (fun t q => XS.iloadN X.here c1 rfl (hb c2 hd) hl q) k
theorem own_iload (X : own_At G p l e R s0 s EL P m args below meth c Z n0 own nm bytes maxL ret T h cells slots) {pc pc' : Nat} {Ls : Array Slot} {st : List Value} {i : Nat} {v : Int32} (hd : decode bytes pc = .ok (.iload i, 2)) (hp : pc' = pc + 2) (hl : Ls[i]? = some (.val (.int v))) (k : G T (mkF m pc' Ls (.int v :: st))) : G T (mkF m pc Ls st) := by
  obtain ⟨hG, ⟨c1, c2, -⟩, L, X, -⟩ := X
  subst hp
  exact hG _ _ _ _ (fun t q => XS.iload X.here c1 rfl (hb c2 hd) hl q) k
theorem own_istore_n (X : own_At G p l e R s0 s EL P m args below meth c Z n0 own nm bytes maxL ret T h cells slots) {pc pc' : Nat} {Ls : Array Slot} {st : List Value} {i : Fin 4} {v : Int32} {Ls' : Array Slot} (hd : decode bytes pc = .ok (.istore_n i, 1)) (hp : pc' = pc + 1) (hl : storeLocals Ls i.val (.int v) = some Ls') (k : G T (mkF m pc' Ls' st)) : G T (mkF m pc Ls (.int v :: st)) := by
  obtain ⟨hG, ⟨c1, c2, -⟩, L, X, -⟩ := X
  subst hp
  exact hG _ _ _ _ (fun t q => XS.istoreN X.here c1 rfl (hb c2 hd) rfl hl q) k
theorem own_istore (X : own_At G p l e R s0 s EL P m args below meth c Z n0 own nm bytes maxL ret T h cells slots) {pc pc' : Nat} {Ls : Array Slot} {st : List Value} {i : Nat} {v : Int32} {Ls' : Array Slot} (hd : decode bytes pc = .ok (.istore i, 2)) (hp : pc' = pc + 2) (hl : storeLocals Ls i (.int v) = some Ls') (k : G T (mkF m pc' Ls' st)) : G T (mkF m pc Ls (.int v :: st)) := by
  obtain ⟨hG, ⟨c1, c2, -⟩, L, X, -⟩ := X
  subst hp
  exact hG _ _ _ _ (fun t q => XS.istore X.here c1 rfl (hb c2 hd) rfl hl q) k
theorem own_lload_n (X : own_At G p l e R s0 s EL P m args below meth c Z n0 own nm bytes maxL ret T h cells slots) {pc pc' : Nat} {Ls : Array Slot} {st : List Value} {i : Fin 4} {v : Int64} (hd : decode bytes pc = .ok (.lload_n i, 1)) (hp : pc' = pc + 1) (hl : Ls[i.val]? = some (.val (.long v))) (k : G T (mkF m pc' Ls (.long v :: st))) : G T (mkF m pc Ls st) := by
  obtain ⟨hG, ⟨c1, c2, -⟩, L, X, -⟩ := X
  subst hp
  exact hG _ _ _ _ (fun t q => XS.lloadN X.here c1 rfl (hb c2 hd) hl q) k
theorem own_lload (X : own_At G p l e R s0 s EL P m args below meth c Z n0 own nm bytes maxL ret T h cells slots) {pc pc' : Nat} {Ls : Array Slot} {st : List Value} {i : Nat} {v : Int64} (hd : decode bytes pc = .ok (.lload i, 2)) (hp : pc' = pc + 2) (hl : Ls[i]? = some (.val (.long v))) (k : G T (mkF m pc' Ls (.long v :: st))) : G T (mkF m pc Ls st) := by
  obtain ⟨hG, ⟨c1, c2, -⟩, L, X, -⟩ := X
  subst hp
  exact hG _ _ _ _ (fun t q => XS.lload X.here c1 rfl (hb c2 hd) hl q) k
theorem own_lstore_n (X : own_At G p l e R s0 s EL P m args below meth c Z n0 own nm bytes maxL ret T h cells slots) {pc pc' : Nat} {Ls : Array Slot} {st : List Value} {i : Fin 4} {v : Int64} {Ls' : Array Slot} (hd : decode bytes pc = .ok (.lstore_n i, 1)) (hp : pc' = pc + 1) (hl : storeLocals Ls i.val (.long v) = some Ls') (k : G T (mkF m pc' Ls' st)) : G T (mkF m pc Ls (.long v :: st)) := by
  obtain ⟨hG, ⟨c1, c2, -⟩, L, X, -⟩ := X
  subst hp
  exact hG _ _ _ _ (fun t q => XS.lstoreN X.here c1 rfl (hb c2 hd) rfl hl q) k
theorem own_lstore (X : own_At G p l e R s0 s EL P m args below meth c Z n0 own nm bytes maxL ret T h cells slots) {pc pc' : Nat} {Ls : Array Slot} {st : List Value} {i : Nat} {v : Int64} {Ls' : Array Slot} (hd : decode bytes pc = .ok (.lstore i, 2)) (hp : pc' = pc + 2) (hl : storeLocals Ls i (.long v) = some Ls') (k : G T (mkF m pc' Ls' st)) : G T (mkF m pc Ls (.long v :: st)) := by
  obtain ⟨hG, ⟨c1, c2, -⟩, L, X, -⟩ := X
  subst hp
  exact hG _ _ _ _ (fun t q => XS.lstore X.here c1 rfl (hb c2 hd) rfl hl q) k
theorem own_aload_n (X : own_At G p l e R s0 s EL P m args below meth c Z n0 own nm bytes maxL ret T h cells slots) {pc pc' : Nat} {Ls : Array Slot} {st : List Value} {i : Fin 4} {v : Value} (hd : decode bytes pc = .ok (.aload_n i, 1)) (hp : pc' = pc + 1) (hl : Ls[i.val]? = some (.val v)) (hv : v.isRef = true) (k : G T (mkF m pc' Ls (v :: st))) : G T (mkF m pc Ls st) := by
  obtain ⟨hG, ⟨c1, c2, -⟩, L, X, -⟩ := X
  subst hp
  exact hG _ _ _ _ (fun t q => XS.aloadN X.here c1 rfl (hb c2 hd) hl hv q) k
theorem own_aload (X : own_At G p l e R s0 s EL P m args below meth c Z n0 own nm bytes maxL ret T h cells slots) {pc pc' : Nat} {Ls : Array Slot} {st : List Value} {i : Nat} {v : Value} (hd : decode bytes pc = .ok (.aload i, 2)) (hp : pc' = pc + 2) (hl : Ls[i]? = some (.val v)) (hv : v.isRef = true) (k : G T (mkF m pc' Ls (v :: st))) : G T (mkF m pc Ls st) := by
  obtain ⟨hG, ⟨c1, c2, -⟩, L, X, -⟩ := X
  subst hp
  exact hG _ _ _ _ (fun t q => XS.aload X.here c1 rfl (hb c2 hd) hl hv q) k
theorem own_astore_n (X : own_At G p l e R s0 s EL P m args below meth c Z n0 own nm bytes maxL ret T h cells slots) {pc pc' : Nat} {Ls : Array Slot} {st : List Value} {i : Fin 4} {v : Value} {Ls' : Array Slot} (hd : decode bytes pc = .ok (.astore_n i, 1)) (hp : pc' = pc + 1) (hv : v.isRef = true) (hl : storeLocals Ls i.val v = some Ls') (k : G T (mkF m pc' Ls' st)) : G T (mkF m pc Ls (v :: st)) := by
  obtain ⟨hG, ⟨c1, c2, -⟩, L, X, -⟩ := X
  subst hp
  exact hG _ _ _ _ (fun t q => XS.astoreN X.here c1 rfl (hb c2 hd) rfl hv hl q) k
theorem own_astore (X : own_At G p l e R s0 s EL P m args below meth c Z n0 own nm bytes maxL ret T h cells slots) {pc pc' : Nat} {Ls : Array Slot} {st : List Value} {i : Nat} {v : Value} {Ls' : Array Slot} (hd : decode bytes pc = .ok (.astore i, 2)) (hp : pc' = pc + 2) (hv : v.isRef = true) (hl : storeLocals Ls i v = some Ls') (k : G T (mkF m pc' Ls' st)) : G T (mkF m pc Ls (v :: st)) := by
  obtain ⟨hG, ⟨c1, c2, -⟩, L, X, -⟩ := X
  subst hp
  exact hG _ _ _ _ (fun t q => XS.astore X.here c1 rfl (hb c2 hd) rfl hv hl q) k
theorem own_iinc (X : own_At G p l e R s0 s EL P m args below meth c Z n0 own nm bytes maxL ret T h cells slots) {pc pc' : Nat} {Ls : Array Slot} {st : List Value} {i : Nat} {cst : Int} {v z r : Int32} {Ls' : Array Slot} (hd : decode bytes pc = .ok (.iinc i cst, 3)) (hp : pc' = pc + 3) (hl : Ls[i]? = some (.val (.int v))) (hz : Int32.ofInt cst = z) (hr : v + z = r) (hs : storeLocals Ls i (.int r) = some Ls') (k : G T (mkF m pc' Ls' st)) : G T (mkF m pc Ls st) := by
  obtain ⟨hG, ⟨c1, c2, -⟩, L, X, -⟩ := X
  subst hp
  exact hG _ _ _ _ (fun t q => XS.iinc X.here c1 rfl (hb c2 hd) hl (by rw [hz, hr]; exact hs) q) k
theorem own_xpop2 {locs : List Loc} {target : State} (X : Stand p l e R s m args below meth c T locs cells slots) (hx : p.tables.exec = Jvm.exec) {pc : Nat} {Ls : Array Slot} {x : Int64} {rest : List Value} (hd : decode c.code pc = .ok (.pop2, 1)) (hr : Steps p.tables e below (T.setTop (mkF m (pc + 1) Ls rest)) target) : Steps p.tables e below (T.setTop (mkF m pc Ls (.long x :: rest))) target := by
  jvm_step X.here [X.here.top, hx, hd, pop2.sem, Value.category]
  exact hr
theorem own_iadd (X : own_At G p l e R s0 s EL P m args below meth c Z n0 own nm bytes maxL ret T h cells slots) {pc pc' : Nat} {Ls : Array Slot} {st : List Value} {x y r : Int32} (hd : decode bytes pc = .ok (.iadd, 1)) (hp : pc' = pc + 1) (hr : x + y = r) (k : G T (mkF m pc' Ls (.int r :: st))) : G T (mkF m pc Ls (.int y :: .int x :: st)) := by
  obtain ⟨hG, ⟨c1, c2, -⟩, L, X, -⟩ := X
  subst hp
  exact hG _ _ _ _ (fun t q => XS.iadd X.here c1 rfl (hb c2 hd) rfl (by subst hr; exact q)) k
theorem own_isub (X : own_At G p l e R s0 s EL P m args below meth c Z n0 own nm bytes maxL ret T h cells slots) {pc pc' : Nat} {Ls : Array Slot} {st : List Value} {x y r : Int32} (hd : decode bytes pc = .ok (.isub, 1)) (hp : pc' = pc + 1) (hr : x - y = r) (k : G T (mkF m pc' Ls (.int r :: st))) : G T (mkF m pc Ls (.int y :: .int x :: st)) := by
  obtain ⟨hG, ⟨c1, c2, -⟩, L, X, -⟩ := X
  subst hp
  exact hG _ _ _ _ (fun t q => XS.isub X.here c1 rfl (hb c2 hd) rfl (by subst hr; exact q)) k
theorem own_imul (X : own_At G p l e R s0 s EL P m args below meth c Z n0 own nm bytes maxL ret T h cells slots) {pc pc' : Nat} {Ls : Array Slot} {st : List Value} {x y r : Int32} (hd : decode bytes pc = .ok (.imul, 1)) (hp : pc' = pc + 1) (hr : x * y = r) (k : G T (mkF m pc' Ls (.int r :: st))) : G T (mkF m pc Ls (.int y :: .int x :: st)) := by
  obtain ⟨hG, ⟨c1, c2, -⟩, L, X, -⟩ := X
  subst hp
  exact hG _ _ _ _ (fun t q => XS.imul X.here c1 rfl (hb c2 hd) rfl (by subst hr; exact q)) k
theorem own_iand (X : own_At G p l e R s0 s EL P m args below meth c Z n0 own nm bytes maxL ret T h cells slots) {pc pc' : Nat} {Ls : Array Slot} {st : List Value} {x y r : Int32} (hd : decode bytes pc = .ok (.iand, 1)) (hp : pc' = pc + 1) (hr : x &&& y = r) (k : G T (mkF m pc' Ls (.int r :: st))) : G T (mkF m pc Ls (.int y :: .int x :: st)) := by
  obtain ⟨hG, ⟨c1, c2, -⟩, L, X, -⟩ := X
  subst hp
  exact hG _ _ _ _ (fun t q => XS.iand X.here c1 rfl (hb c2 hd) rfl (by subst hr; exact q)) k
theorem own_ior (X : own_At G p l e R s0 s EL P m args below meth c Z n0 own nm bytes maxL ret T h cells slots) {pc pc' : Nat} {Ls : Array Slot} {st : List Value} {x y r : Int32} (hd : decode bytes pc = .ok (.ior, 1)) (hp : pc' = pc + 1) (hr : x ||| y = r) (k : G T (mkF m pc' Ls (.int r :: st))) : G T (mkF m pc Ls (.int y :: .int x :: st)) := by
  obtain ⟨hG, ⟨c1, c2, -⟩, L, X, -⟩ := X
  subst hp
  exact hG _ _ _ _ (fun t q => XS.ior X.here c1 rfl (hb c2 hd) rfl (by subst hr; exact q)) k
theorem own_ixor (X : own_At G p l e R s0 s EL P m args below meth c Z n0 own nm bytes maxL ret T h cells slots) {pc pc' : Nat} {Ls : Array Slot} {st : List Value} {x y r : Int32} (hd : decode bytes pc = .ok (.ixor, 1)) (hp : pc' = pc + 1) (hr : x ^^^ y = r) (k : G T (mkF m pc' Ls (.int r :: st))) : G T (mkF m pc Ls (.int y :: .int x :: st)) := by
  obtain ⟨hG, ⟨c1, c2, -⟩, L, X, -⟩ := X
  subst hp
  exact hG _ _ _ _ (fun t q => XS.ixor X.here c1 rfl (hb c2 hd) rfl (by subst hr; exact q)) k
theorem own_ishl (X : own_At G p l e R s0 s EL P m args below meth c Z n0 own nm bytes maxL ret T h cells slots) {pc pc' : Nat} {Ls : Array Slot} {st : List Value} {x y r : Int32} (hd : decode bytes pc = .ok (.ishl, 1)) (hp : pc' = pc + 1) (hr : x <<< (y &&& 31) = r) (k : G T (mkF m pc' Ls (.int r :: st))) : G T (mkF m pc Ls (.int y :: .int x :: st)) := by
  obtain ⟨hG, ⟨c1, c2, -⟩, L, X, -⟩ := X
  subst hp
  exact hG _ _ _ _ (fun t q => XS.ishl X.here c1 rfl (hb c2 hd) rfl (by subst hr; exact q)) k
theorem own_ishr (X : own_At G p l e R s0 s EL P m args below meth c Z n0 own nm bytes maxL ret T h cells slots) {pc pc' : Nat} {Ls : Array Slot} {st : List Value} {x y r : Int32} (hd : decode bytes pc = .ok (.ishr, 1)) (hp : pc' = pc + 1) (hr : x >>> (y &&& 31) = r) (k : G T (mkF m pc' Ls (.int r :: st))) : G T (mkF m pc Ls (.int y :: .int x :: st)) := by
  obtain ⟨hG, ⟨c1, c2, -⟩, L, X, -⟩ := X
  subst hp
  exact hG _ _ _ _ (fun t q => XS.ishr X.here c1 rfl (hb c2 hd) rfl (by subst hr; exact q)) k
theorem own_iushr (X : own_At G p l e R s0 s EL P m args below meth c Z n0 own nm bytes maxL ret T h cells slots) {pc pc' : Nat} {Ls : Array Slot} {st : List Value} {x y r : Int32} (hd : decode bytes pc = .ok (.iushr, 1)) (hp : pc' = pc + 1) (hr : own_ushr x y = r) (k : G T (mkF m pc' Ls (.int r :: st))) : G T (mkF m pc Ls (.int y :: .int x :: st)) := by
  obtain ⟨hG, ⟨c1, c2, -⟩, L, X, -⟩ := X
  subst hp
  exact hG _ _ _ _ (fun t q => XS.iushr X.here c1 rfl (hb c2 hd) rfl (by subst hr; exact q)) k
theorem own_ladd (X : own_At G p l e R s0 s EL P m args below meth c Z n0 own nm bytes maxL ret T h cells slots) {pc pc' : Nat} {Ls : Array Slot} {st : List Value} {x y r : Int64} (hd : decode bytes pc = .ok (.ladd, 1)) (hp : pc' = pc + 1) (hr : x + y = r) (k : G T (mkF m pc' Ls (.long r :: st))) : G T (mkF m pc Ls (.long y :: .long x :: st)) := by
  obtain ⟨hG, ⟨c1, c2, -⟩, L, X, -⟩ := X
  subst hp
  exact hG _ _ _ _ (fun t q => XS.ladd X.here c1 rfl (hb c2 hd) rfl (by subst hr; exact q)) k
theorem own_lsub (X : own_At G p l e R s0 s EL P m args below meth c Z n0 own nm bytes maxL ret T h cells slots) {pc pc' : Nat} {Ls : Array Slot} {st : List Value} {x y r : Int64} (hd : decode bytes pc = .ok (.lsub, 1)) (hp : pc' = pc + 1) (hr : x - y = r) (k : G T (mkF m pc' Ls (.long r :: st))) : G T (mkF m pc Ls (.long y :: .long x :: st)) := by
  obtain ⟨hG, ⟨c1, c2, -⟩, L, X, -⟩ := X
  subst hp
  exact hG _ _ _ _ (fun t q => XS.lsub X.here c1 rfl (hb c2 hd) rfl (by subst hr; exact q)) k
theorem own_lmul (X : own_At G p l e R s0 s EL P m args below meth c Z n0 own nm bytes maxL ret T h cells slots) {pc pc' : Nat} {Ls : Array Slot} {st : List Value} {x y r : Int64} (hd : decode bytes pc = .ok (.lmul, 1)) (hp : pc' = pc + 1) (hr : x * y = r) (k : G T (mkF m pc' Ls (.long r :: st))) : G T (mkF m pc Ls (.long y :: .long x :: st)) := by
  obtain ⟨hG, ⟨c1, c2, -⟩, L, X, -⟩ := X
  subst hp
  exact hG _ _ _ _ (fun t q => XS.lmul X.here c1 rfl (hb c2 hd) rfl (by subst hr; exact q)) k
theorem own_land (X : own_At G p l e R s0 s EL P m args below meth c Z n0 own nm bytes maxL ret T h cells slots) {pc pc' : Nat} {Ls : Array Slot} {st : List Value} {x y r : Int64} (hd : decode bytes pc = .ok (.land, 1)) (hp : pc' = pc + 1) (hr : x &&& y = r) (k : G T (mkF m pc' Ls (.long r :: st))) : G T (mkF m pc Ls (.long y :: .long x :: st)) := by
  obtain ⟨hG, ⟨c1, c2, -⟩, L, X, -⟩ := X
  subst hp
  exact hG _ _ _ _ (fun t q => XS.land X.here c1 rfl (hb c2 hd) rfl (by subst hr; exact q)) k
theorem own_lor (X : own_At G p l e R s0 s EL P m args below meth c Z n0 own nm bytes maxL ret T h cells slots) {pc pc' : Nat} {Ls : Array Slot} {st : List Value} {x y r : Int64} (hd : decode bytes pc = .ok (.lor, 1)) (hp : pc' = pc + 1) (hr : x ||| y = r) (k : G T (mkF m pc' Ls (.long r :: st))) : G T (mkF m pc Ls (.long y :: .long x :: st)) := by
  obtain ⟨hG, ⟨c1, c2, -⟩, L, X, -⟩ := X
  subst hp
  exact hG _ _ _ _ (fun t q => XS.lor X.here c1 rfl (hb c2 hd) rfl (by subst hr; exact q)) k
theorem own_lxor (X : own_At G p l e R s0 s EL P m args below meth c Z n0 own nm bytes maxL ret T h cells slots) {pc pc' : Nat} {Ls : Array Slot} {st : List Value} {x y r : Int64} (hd : decode bytes pc = .ok (.lxor, 1)) (hp : pc' = pc + 1) (hr : x ^^^ y = r) (k : G T (mkF m pc' Ls (.long r :: st))) : G T (mkF m pc Ls (.long y :: .long x :: st)) := by
  obtain ⟨hG, ⟨c1, c2, -⟩, L, X, -⟩ := X
  subst hp
  exact hG _ _ _ _ (fun t q => XS.lxor X.here c1 rfl (hb c2 hd) rfl (by subst hr; exact q)) k
theorem own_lshl (X : own_At G p l e R s0 s EL P m args below meth c Z n0 own nm bytes maxL ret T h cells slots) {pc pc' : Nat} {Ls : Array Slot} {st : List Value} {x r : Int64} {y : Int32} (hd : decode bytes pc = .ok (.lshl, 1)) (hp : pc' = pc + 1) (hr : x <<< (y &&& 0x3f).toInt64 = r) (k : G T (mkF m pc' Ls (.long r :: st))) : G T (mkF m pc Ls (.int y :: .long x :: st)) := by
  obtain ⟨hG, ⟨c1, c2, -⟩, L, X, -⟩ := X
  subst hp
  exact hG _ _ _ _ (fun t q => XS.lshl X.here c1 rfl (hb c2 hd) rfl (by subst hr; exact q)) k
theorem own_lshr (X : own_At G p l e R s0 s EL P m args below meth c Z n0 own nm bytes maxL ret T h cells slots) {pc pc' : Nat} {Ls : Array Slot} {st : List Value} {x r : Int64} {y : Int32} (hd : decode bytes pc = .ok (.lshr, 1)) (hp : pc' = pc + 1) (hr : x >>> (y &&& 0x3f).toInt64 = r) (k : G T (mkF m pc' Ls (.long r :: st))) : G T (mkF m pc Ls (.int y :: .long x :: st)) := by
  obtain ⟨hG, ⟨c1, c2, -⟩, L, X, -⟩ := X
  subst hp
  exact hG _ _ _ _ (fun t q => XS.lshr X.here c1 rfl (hb c2 hd) rfl (by subst hr; exact q)) k
theorem own_idiv (X : own_At G p l e R s0 s EL P m args below meth c Z n0 own nm bytes maxL ret T h cells slots) {pc pc' : Nat} {Ls : Array Slot} {st : List Value} {x y : Int32} (hd : decode bytes pc = .ok (.idiv, 1)) (hp : pc' = pc + 1) (hy : y ≠ 0) (k : G T (mkF m pc' Ls (.int (x / y) :: st))) : G T (mkF m pc Ls (.int y :: .int x :: st)) := by
  obtain ⟨hG, ⟨c1, c2, -⟩, L, X, -⟩ := X
  subst hp
  exact hG _ _ _ _ (fun t q => XS.idiv X.here c1 rfl (hb c2 hd) rfl hy q) k
theorem own_irem (X : own_At G p l e R s0 s EL P m args below meth c Z n0 own nm bytes maxL ret T h cells slots) {pc pc' : Nat} {Ls : Array Slot} {st : List Value} {x y : Int32} (hd : decode bytes pc = .ok (.irem, 1)) (hp : pc' = pc + 1) (hy : y ≠ 0) (k : G T (mkF m pc' Ls (.int (x % y) :: st))) : G T (mkF m pc Ls (.int y :: .int x :: st)) := by
  obtain ⟨hG, ⟨c1, c2, -⟩, L, X, -⟩ := X
  subst hp
  exact hG _ _ _ _ (fun t q => iremM X c1 rfl (hb c2 hd) rfl hy q) k
theorem own_ldiv (X : own_At G p l e R s0 s EL P m args below meth c Z n0 own nm bytes maxL ret T h cells slots) {pc pc' : Nat} {Ls : Array Slot} {st : List Value} {x y : Int64} (hd : decode bytes pc = .ok (.ldiv, 1)) (hp : pc' = pc + 1) (hy : y ≠ 0) (k : G T (mkF m pc' Ls (.long (x / y) :: st))) : G T (mkF m pc Ls (.long y :: .long x :: st)) := by
  obtain ⟨hG, ⟨c1, c2, -⟩, L, X, -⟩ := X
  subst hp
  exact hG _ _ _ _ (fun t q => XS.ldiv X.here c1 rfl (hb c2 hd) rfl hy q) k
theorem own_lrem (X : own_At G p l e R s0 s EL P m args below meth c Z n0 own nm bytes maxL ret T h cells slots) {pc pc' : Nat} {Ls : Array Slot} {st : List Value} {x y : Int64} (hd : decode bytes pc = .ok (.lrem, 1)) (hp : pc' = pc + 1) (hy : y ≠ 0) (k : G T (mkF m pc' Ls (.long (x % y) :: st))) : G T (mkF m pc Ls (.long y :: .long x :: st)) := by
  obtain ⟨hG, ⟨c1, c2, -⟩, L, X, -⟩ := X
  subst hp
  exact hG _ _ _ _ (fun t q => XS.lrem X.here c1 rfl (hb c2 hd) rfl hy (by rw [lrem_mod]; exact q)) k
theorem own_ineg (X : own_At G p l e R s0 s EL P m args below meth c Z n0 own nm bytes maxL ret T h cells slots) {pc pc' : Nat} {Ls : Array Slot} {st : List Value} {x : Int32} (hd : decode bytes pc = .ok (.ineg, 1)) (hp : pc' = pc + 1)  (k : G T (mkF m pc' Ls (.int (-x) :: st))) : G T (mkF m pc Ls (.int x :: st)) := by
  obtain ⟨hG, ⟨c1, c2, -⟩, L, X, -⟩ := X
  subst hp
  exact hG _ _ _ _ (fun t q => XS.ineg X.here c1 rfl (hb c2 hd) rfl q) k
theorem own_i2c (X : own_At G p l e R s0 s EL P m args below meth c Z n0 own nm bytes maxL ret T h cells slots) {pc pc' : Nat} {Ls : Array Slot} {st : List Value} {x : Int32} (hd : decode bytes pc = .ok (.i2c, 1)) (hp : pc' = pc + 1)  (k : G T (mkF m pc' Ls (.int (own_c16 x) :: st))) : G T (mkF m pc Ls (.int x :: st)) := by
  obtain ⟨hG, ⟨c1, c2, -⟩, L, X, -⟩ := X
  subst hp
  exact hG _ _ _ _ (fun t q => XS.i2c X.here c1 rfl (hb c2 hd) rfl q) k
theorem own_i2b (X : own_At G p l e R s0 s EL P m args below meth c Z n0 own nm bytes maxL ret T h cells slots) {pc pc' : Nat} {Ls : Array Slot} {st : List Value} {x : Int32} (hd : decode bytes pc = .ok (.i2b, 1)) (hp : pc' = pc + 1)  (k : G T (mkF m pc' Ls (.int (own_b8 x) :: st))) : G T (mkF m pc Ls (.int x :: st)) := by
  obtain ⟨hG, ⟨c1, c2, -⟩, L, X, -⟩ := X
  subst hp
  exact hG _ _ _ _ (fun t q => XS.i2b X.here c1 rfl (hb c2 hd) rfl q) k
theorem own_i2l (X : own_At G p l e R s0 s EL P m args below meth c Z n0 own nm bytes maxL ret T h cells slots) {pc pc' : Nat} {Ls : Array Slot} {st : List Value} {x : Int32} {r : Int64} (hd : decode bytes pc = .ok (.i2l, 1)) (hp : pc' = pc + 1) (hr : x.toInt64 = r) (k : G T (mkF m pc' Ls (.long r :: st))) : G T (mkF m pc Ls (.int x :: st)) := by
  obtain ⟨hG, ⟨c1, c2, -⟩, L, X, -⟩ := X
  subst hp
  exact hG _ _ _ _ (fun t q => XS.i2l X.here c1 rfl (hb c2 hd) rfl (by subst hr; exact q)) k
theorem own_l2i (X : own_At G p l e R s0 s EL P m args below meth c Z n0 own nm bytes maxL ret T h cells slots) {pc pc' : Nat} {Ls : Array Slot} {st : List Value} {x : Int64} {r : Int32} (hd : decode bytes pc = .ok (.l2i, 1)) (hp : pc' = pc + 1) (hr : x.toInt32 = r) (k : G T (mkF m pc' Ls (.int r :: st))) : G T (mkF m pc Ls (.long x :: st)) := by
  obtain ⟨hG, ⟨c1, c2, -⟩, L, X, -⟩ := X
  subst hp
  exact hG _ _ _ _ (fun t q => XS.l2i X.here c1 rfl (hb c2 hd) rfl (by subst hr; exact q)) k
theorem own_pop2L (X : own_At G p l e R s0 s EL P m args below meth c Z n0 own nm bytes maxL ret T h cells slots) {pc pc' : Nat} {Ls : Array Slot} {st : List Value} {x : Int64} (hd : decode bytes pc = .ok (.pop2, 1)) (hp : pc' = pc + 1)  (k : G T (mkF m pc' Ls st)) : G T (mkF m pc Ls (.long x :: st)) := by
  obtain ⟨hG, ⟨c1, c2, -⟩, L, X, -⟩ := X
  subst hp
  exact hG _ _ _ _ (fun t q => own_xpop2 X c1 (hb c2 hd) q) k
theorem own_lcmp (X : own_At G p l e R s0 s EL P m args below meth c Z n0 own nm bytes maxL ret T h cells slots) {pc pc' : Nat} {Ls : Array Slot} {st : List Value} {x y : Int64} (hd : decode bytes pc = .ok (.lcmp, 1)) (hp : pc' = pc + 1)  (k : G T (mkF m pc' Ls (.int (lcmpW x y) :: st))) : G T (mkF m pc Ls (.long y :: .long x :: st)) := by
  obtain ⟨hG, ⟨c1, c2, -⟩, L, X, -⟩ := X
  subst hp
  exact hG _ _ _ _ (fun t q => XS.lcmp X.here c1 rfl (hb c2 hd) rfl q) k
theorem own_dup (X : own_At G p l e R s0 s EL P m args below meth c Z n0 own nm bytes maxL ret T h cells slots) {pc pc' : Nat} {Ls : Array Slot} {st : List Value} {x : Value} (hd : decode bytes pc = .ok (.dup, 1)) (hp : pc' = pc + 1) (hc : x.category = 1) (k : G T (mkF m pc' Ls (x :: x :: st))) : G T (mkF m pc Ls (x :: st)) := by
  obtain ⟨hG, ⟨c1, c2, -⟩, L, X, -⟩ := X
  subst hp
  exact hG _ _ _ _ (fun t q => XS.dup X.here c1 rfl (hb c2 hd) rfl hc q) k
theorem own_pop (X : own_At G p l e R s0 s EL P m args below meth c Z n0 own nm bytes maxL ret T h cells slots) {pc pc' : Nat} {Ls : Array Slot} {st : List Value} {x : Value} (hd : decode bytes pc = .ok (.pop, 1)) (hp : pc' = pc + 1) (hc : x.category = 1) (k : G T (mkF m pc' Ls st)) : G T (mkF m pc Ls (x :: st)) := by
  obtain ⟨hG, ⟨c1, c2, -⟩, L, X, -⟩ := X
  subst hp
  exact hG _ _ _ _ (fun t q => XS.pop X.here c1 rfl (hb c2 hd) rfl hc q) k
theorem own_dup_x1 (X : own_At G p l e R s0 s EL P m args below meth c Z n0 own nm bytes maxL ret T h cells slots) {pc pc' : Nat} {Ls : Array Slot} {st : List Value} {x y : Value} (hd : decode bytes pc = .ok (.dup_x1, 1)) (hp : pc' = pc + 1) (hc : x.category = 1) (hc2 : y.category = 1) (k : G T (mkF m pc' Ls (x :: y :: x :: st))) : G T (mkF m pc Ls (x :: y :: st)) := by
  obtain ⟨hG, ⟨c1, c2, -⟩, L, X, -⟩ := X
  subst hp
  exact hG _ _ _ _ (fun t q => XS.dupX1 X.here c1 rfl (hb c2 hd) rfl hc hc2 q) k
theorem own_goto (X : own_At G p l e R s0 s EL P m args below meth c Z n0 own nm bytes maxL ret T h cells slots) {pc pc' : Nat} {Ls : Array Slot} {st : List Value} {o : Int}  (hd : decode bytes pc = .ok (.goto o, 3))  (ho : 0 ≤ (pc : Int) + o) (hp : ((pc : Int) + o).toNat = pc') (k : G T (mkF m pc' Ls st)) : G T (mkF m pc Ls st) := by
  obtain ⟨hG, ⟨c1, c2, -⟩, L, X, -⟩ := X
  exact hG _ _ _ _ (fun t q => XS.goto X.here c1 rfl rfl (hb c2 hd) ho hp q) k
theorem own_ifY (X : own_At G p l e R s0 s EL P m args below meth c Z n0 own nm bytes maxL ret T h cells slots) {pc pc' : Nat} {Ls : Array Slot} {st : List Value} {o : Int} {cd : ClassFile.Cond} {x : Int32} (hd : decode bytes pc = .ok (.ifCond cd o, 3)) (hc : if_icmp.holds cd x 0 = true) (ho : 0 ≤ (pc : Int) + o) (hp : ((pc : Int) + o).toNat = pc') (k : G T (mkF m pc' Ls st)) : G T (mkF m pc Ls (.int x :: st)) := by
  obtain ⟨hG, ⟨c1, c2, -⟩, L, X, -⟩ := X
  exact hG _ _ _ _ (fun t q => XS.ifYes X.here c1 rfl rfl (hb c2 hd) rfl ((if0 _ _).trans hc) ho hp q) k
theorem own_ifN (X : own_At G p l e R s0 s EL P m args below meth c Z n0 own nm bytes maxL ret T h cells slots) {pc pc' : Nat} {Ls : Array Slot} {st : List Value} {o : Int} {cd : ClassFile.Cond} {x : Int32} (hd : decode bytes pc = .ok (.ifCond cd o, 3)) (hp : pc' = pc + 3) (hc : if_icmp.holds cd x 0 = false) (k : G T (mkF m pc' Ls st)) : G T (mkF m pc Ls (.int x :: st)) := by
  obtain ⟨hG, ⟨c1, c2, -⟩, L, X, -⟩ := X
  subst hp
  exact hG _ _ _ _ (fun t q => XS.ifNo X.here c1 rfl (hb c2 hd) rfl ((if0 _ _).trans hc) q) k
theorem own_icmpY (X : own_At G p l e R s0 s EL P m args below meth c Z n0 own nm bytes maxL ret T h cells slots) {pc pc' : Nat} {Ls : Array Slot} {st : List Value} {o : Int} {cd : ClassFile.Cond} {x y : Int32} (hd : decode bytes pc = .ok (.if_icmp cd o, 3)) (hc : if_icmp.holds cd x y = true) (ho : 0 ≤ (pc : Int) + o) (hp : ((pc : Int) + o).toNat = pc') (k : G T (mkF m pc' Ls st)) : G T (mkF m pc Ls (.int y :: .int x :: st)) := by
  obtain ⟨hG, ⟨c1, c2, -⟩, L, X, -⟩ := X
  exact hG _ _ _ _ (fun t q => XS.icmpYes X.here c1 rfl rfl (hb c2 hd) rfl hc ho hp q) k
theorem own_icmpN (X : own_At G p l e R s0 s EL P m args below meth c Z n0 own nm bytes maxL ret T h cells slots) {pc pc' : Nat} {Ls : Array Slot} {st : List Value} {o : Int} {cd : ClassFile.Cond} {x y : Int32} (hd : decode bytes pc = .ok (.if_icmp cd o, 3)) (hp : pc' = pc + 3) (hc : if_icmp.holds cd x y = false) (k : G T (mkF m pc' Ls st)) : G T (mkF m pc Ls (.int y :: .int x :: st)) := by
  obtain ⟨hG, ⟨c1, c2, -⟩, L, X, -⟩ := X
  subst hp
  exact hG _ _ _ _ (fun t q => XS.icmpNo X.here c1 rfl (hb c2 hd) rfl hc q) k
theorem own_ifnullY (X : own_At G p l e R s0 s EL P m args below meth c Z n0 own nm bytes maxL ret T h cells slots) {pc pc' : Nat} {Ls : Array Slot} {st : List Value} {o : Int}  (hd : decode bytes pc = .ok (.ifnull o, 3))  (ho : 0 ≤ (pc : Int) + o) (hp : ((pc : Int) + o).toNat = pc') (k : G T (mkF m pc' Ls st)) : G T (mkF m pc Ls (.null :: st)) := by
  obtain ⟨hG, ⟨c1, c2, -⟩, L, X, -⟩ := X
  exact hG _ _ _ _ (fun t q => XS.ifnullYes X.here c1 rfl rfl (hb c2 hd) rfl ho hp q) k
theorem own_ifnullN (X : own_At G p l e R s0 s EL P m args below meth c Z n0 own nm bytes maxL ret T h cells slots) {pc pc' : Nat} {Ls : Array Slot} {st : List Value} {o : Int} {b : Addr} (hd : decode bytes pc = .ok (.ifnull o, 3)) (hp : pc' = pc + 3)  (k : G T (mkF m pc' Ls st)) : G T (mkF m pc Ls (.ref b :: st)) := by
  obtain ⟨hG, ⟨c1, c2, -⟩, L, X, -⟩ := X
  subst hp
  exact hG _ _ _ _ (fun t q => XS.ifnullNo X.here c1 rfl (hb c2 hd) rfl q) k
theorem own_ifnonnullY (X : own_At G p l e R s0 s EL P m args below meth c Z n0 own nm bytes maxL ret T h cells slots) {pc pc' : Nat} {Ls : Array Slot} {st : List Value} {o : Int} {b : Addr} (hd : decode bytes pc = .ok (.ifnonnull o, 3))  (ho : 0 ≤ (pc : Int) + o) (hp : ((pc : Int) + o).toNat = pc') (k : G T (mkF m pc' Ls st)) : G T (mkF m pc Ls (.ref b :: st)) := by
  obtain ⟨hG, ⟨c1, c2, -⟩, L, X, -⟩ := X
  exact hG _ _ _ _ (fun t q => XS.ifnonnullYes X.here c1 rfl rfl (hb c2 hd) rfl ho hp q) k
theorem own_ifnonnullN (X : own_At G p l e R s0 s EL P m args below meth c Z n0 own nm bytes maxL ret T h cells slots) {pc pc' : Nat} {Ls : Array Slot} {st : List Value} {o : Int}  (hd : decode bytes pc = .ok (.ifnonnull o, 3)) (hp : pc' = pc + 3)  (k : G T (mkF m pc' Ls st)) : G T (mkF m pc Ls (.null :: st)) := by
  obtain ⟨hG, ⟨c1, c2, -⟩, L, X, -⟩ := X
  subst hp
  exact hG _ _ _ _ (fun t q => XS.ifnonnullNo X.here c1 rfl (hb c2 hd) rfl q) k
theorem own_acmp (X : own_At G p l e R s0 s EL P m args below meth c Z n0 own nm bytes maxL ret T h cells slots) {pc pc' : Nat} {Ls : Array Slot} {st : List Value} {o : Int} {cd : ACond} {x y : Value} {same : Bool} (hd : decode bytes pc = .ok (.if_acmp cd o, 3)) (h1 : x.isRef = true) (h2 : y.isRef = true) (hq : decide (x = y) = same) (ho : 0 ≤ (pc : Int) + o) (hp : pc' = if acV cd same = true then ((pc : Int) + o).toNat else pc + 3) (k : G T (mkF m pc' Ls st)) : G T (mkF m pc Ls (y :: x :: st)) := by
  obtain ⟨hG, ⟨c1, c2, -⟩, L, X, -⟩ := X
  exact hG _ _ _ _ (fun t q => Jvm.RoadKit.acmp (g := mkF m pc Ls (y :: x :: st)) X c1 rfl h1 h2 rfl (hb c2 hd) rfl hq ho hp q) k
theorem own_lcY {cd : ClassFile.Cond} {x y : Int64} {P : Prop} [Decidable P] {b : Bool} (h : if_icmp.holds cd (lcmpW x y) 0 = decide P) (q : decide P = b) : if_icmp.holds cd (lcmpW x y) 0 = b := h.trans q
theorem own_lc_eq {x y : Int64} (q : x = y) : if_icmp.holds .eq (lcmpW x y) 0 = true ∧ if_icmp.holds .ne (lcmpW x y) 0 = false := teq ((lw_eq x y).mpr q)
theorem own_lc_ne {x y : Int64} (q : ¬ x = y) : if_icmp.holds .eq (lcmpW x y) 0 = false ∧ if_icmp.holds .ne (lcmpW x y) 0 = true := feq (mt (lw_eq x y).mp q)
theorem own_lc_lt {x y : Int64} (q : x < y) : if_icmp.holds .lt (lcmpW x y) 0 = true ∧ if_icmp.holds .ge (lcmpW x y) 0 = false := by have := tlt ((lw_lt x y).mpr q); exact ⟨this.1, this.2.1⟩
theorem own_lc_nlt {x y : Int64} (q : ¬ x < y) : if_icmp.holds .lt (lcmpW x y) 0 = false ∧ if_icmp.holds .ge (lcmpW x y) 0 = true := by have := flt (mt (lw_lt x y).mp q); exact ⟨this.1, this.2.1⟩
theorem own_lc_gt {x y : Int64} (q : y < x) : if_icmp.holds .gt (lcmpW x y) 0 = true ∧ if_icmp.holds .le (lcmpW x y) 0 = false := by have := tlt ((lw_gt x y).mpr q); exact ⟨this.2.2.1, this.2.2.2⟩
theorem own_lc_ngt {x y : Int64} (q : ¬ y < x) : if_icmp.holds .gt (lcmpW x y) 0 = false ∧ if_icmp.holds .le (lcmpW x y) 0 = true := by have := flt (mt (lw_gt x y).mp q); exact ⟨this.2.2.1, this.2.2.2⟩
theorem own_ldc2 (X : own_At G p l e R s0 s EL P m args below meth c Z n0 own nm bytes maxL ret T h cells slots) {pc pc' : Nat} {Ls : Array Slot} {st : List Value} {i : Nat} {v : Int64} (w : (Cond.constantLong own i v).before a0 Z = true) (hd : decode bytes pc = .ok (.ldc2_w i, 3)) (hp : pc' = pc + 3) (k : G T (mkF m pc' Ls (.long v :: st))) : G T (mkF m pc Ls st) := by
  obtain ⟨hG, ⟨c1, c2, hZ, hown, -⟩, L, X, -⟩ := X
  subst hp
  exact hG _ _ _ _ (X.ldc2Long c1 hown (mvT hZ w) (g := mkF m pc Ls st) rfl (hb c2 hd)) k
theorem own_ldcI (X : own_At G p l e R s0 s EL P m args below meth c Z n0 own nm bytes maxL ret T h cells slots) {pc pc' : Nat} {Ls : Array Slot} {st : List Value} {i : Nat} {v : Int32} (w : (Cond.constant own i v).before a0 Z = true) (hd : decode bytes pc = .ok (.ldc i, 2)) (hp : pc' = pc + 2) (k : G T (mkF m pc' Ls (.int v :: st))) : G T (mkF m pc Ls st) := by
  obtain ⟨hG, ⟨c1, c2, hZ, hown, -⟩, L, X, -⟩ := X
  subst hp
  exact hG _ _ _ _ (X.ldcInt c1 hown (mvT hZ w) (g := mkF m pc Ls st) rfl (hb c2 hd)) k
theorem own_ldcwI (X : own_At G p l e R s0 s EL P m args below meth c Z n0 own nm bytes maxL ret T h cells slots) {pc pc' : Nat} {Ls : Array Slot} {st : List Value} {i : Nat} {v : Int32} (w : (Cond.constant own i v).before a0 Z = true) (hd : decode bytes pc = .ok (.ldc_w i, 3)) (hp : pc' = pc + 3) (k : G T (mkF m pc' Ls (.int v :: st))) : G T (mkF m pc Ls st) := by
  obtain ⟨hG, ⟨c1, c2, hZ, hown, -⟩, L, X, -⟩ := X
  subst hp
  exact hG _ _ _ _ (X.ldcwInt c1 hown (mvT hZ w) (g := mkF m pc Ls st) rfl (hb c2 hd)) k
theorem own_ldcS (X : own_At G p l e R s0 s EL P m args below meth c Z n0 own nm bytes maxL ret T h cells slots) {pc pc' : Nat} {Ls : Array Slot} {st : List Value} {i : Nat} {text : String} {a : Addr} (w : (Cond.stringRef own i text).before a0 Z = true) (F : Lit Z own i a) (hd : decode bytes pc = .ok (.ldc i, 2)) (hp : pc' = pc + 2) (k : G T (mkF m pc' Ls (.ref a :: st))) : G T (mkF m pc Ls st) := by
  obtain ⟨hG, ⟨c1, c2, hZ, hown, -⟩, L, X, -⟩ := X
  subst hp
  exact hG _ _ _ _ (ldcR X c1 hZ hown w F (g := mkF m pc Ls st) rfl (hb c2 hd)) k
theorem own_get (X : own_At G p l e R s0 s EL P m args below meth c Z n0 own nm bytes maxL ret T h cells slots) {pc pc' : Nat} {Ls : Array Slot} {st : List Value} {i : Nat} {R0 O n d host : String} {a : Addr} {v : Value} (w : (Cond.fieldLink own i R0 n d).before a0 Z = true ∨ (Cond.fieldLinkNest own i R0 n d host).before a0 Z = true) (via : Via Z R0 O n d) (F : Fld Z h a O n d v) (hd : decode bytes pc = .ok (.getfield i, 3)) (hp : pc' = pc + 3)
    (k : ∀ T', own_At G p l e R s0 s EL P m args below meth c Z n0 own nm bytes maxL ret T' h cells slots → G T' (mkF m pc' Ls (v :: st))) : G T (mkF m pc Ls (.ref a :: st)) := by
  obtain ⟨hG, ⟨c1, c2, hZ, hown, c5⟩, L, X, N, eT, O⟩ := X
  subst hp
  obtain ⟨T', X', e', st'⟩ := getF X c1 hZ hown w via eT F (g := mkF m pc Ls (.ref a :: st)) rfl rfl (hb c2 hd)
  exact hG _ _ _ _ st' (k _ ⟨hG, ⟨c1, c2, hZ, hown, c5⟩, L, X', N, e', O⟩)
theorem own_getS (X : own_At G p l e R s0 s EL P m args below meth c Z n0 own nm bytes maxL ret T h cells slots) {pc pc' : Nat} {Ls : Array Slot} {st : List Value} {i : Nat} {R0 O n d : String} {v : Value} (w : (Cond.fieldLink own i R0 n d).before a0 Z = true) (via : Via Z R0 O n d) (F : Sta Z h O n d v) (hd : decode bytes pc = .ok (.getstatic i, 3)) (hp : pc' = pc + 3)
    (k : ∀ T', own_At G p l e R s0 s EL P m args below meth c Z n0 own nm bytes maxL ret T' h cells slots → G T' (mkF m pc' Ls (v :: st))) : G T (mkF m pc Ls st) := by
  obtain ⟨hG, ⟨c1, c2, hZ, hown, c5⟩, L, X, N, eT, O⟩ := X
  subst hp
  obtain ⟨T', X', e', st'⟩ := getS (host := "") X c1 hZ hown w via eT F (g := mkF m pc Ls st) rfl (hb c2 hd)
  exact hG _ _ _ _ st' (k _ ⟨hG, ⟨c1, c2, hZ, hown, c5⟩, L, X', N, e', O⟩)
theorem own_put (X : own_At G p l e R s0 s EL P m args below meth c Z n0 own nm bytes maxL ret T h cells slots) {pc pc' : Nat} {Ls : Array Slot} {st : List Value} {i kk : Nat} {R0 O n d host C : String} {a : Addr} {v old : Value} {ty : FieldType} (w : (Cond.fieldLink own i R0 n d).before a0 Z = true ∨ (Cond.fieldLinkNest own i R0 n d host).before a0 Z = true) (via : Via Z R0 O n d) (F : Fld Z h a O n d old) (E : Exa Z h a C)
    (hL : (Cond.lays C O n d).before a0 Z = true ∨ ((Cond.laysFinal C O n d).before a0 Z = true ∧ own = O ∧ nm = "<init>")) (wi : (Cond.instantiable C kk).before a0 Z = true) (hty : parseFieldDescriptor d = some ty) (hn : narrow ty v = v) (hf : fits ty v = true) (ha : n0 ≤ a) (hsf : (C ≠ "java/lang/String" ∧ C ≠ "[B") ∨ a ∈ P) (hd : decode bytes pc = .ok (.putfield i, 3)) (hp : pc' = pc + 3)
    (k : ∀ T' h', own_At G p l e R s0 s EL P m args below meth c Z n0 own nm bytes maxL ret T' h' cells slots → Wr h h' a (Jvm.RoadKit.slotOf Z O n d) v → Keep h h' [a] → G T' (mkF m pc' Ls st)) : G T (mkF m pc Ls (v :: .ref a :: st)) := by
  obtain ⟨hG, ⟨c1, c2, hZ, hown, c5, c6, c7⟩, L, X, N, eT, O⟩ := X
  subst hp
  obtain ⟨T', h', X', e', W', st'⟩ := putF X c1 hZ hown w via eT F E (hL.imp id fun q => ⟨q.1, q.2.1, c6.trans q.2.2⟩) wi hty hn hf (g := mkF m pc Ls (v :: .ref a :: st)) rfl rfl (hb c2 hd)
  exact hG _ _ _ _ st' (k _ _ ⟨hG, ⟨c1, c2, hZ, hown, c5, c6, c7⟩, _, X', Fr.snoc X' N ha, e', O.wr W' ha (hsf.elim (fun q => Safe.exa hZ.alike E q.1 q.2) (fun q => (O.2.2.2.2 a q).1))⟩ W' (Keep.of_wr W'))
theorem own_new (X : own_At G p l e R s0 s EL P m args below meth c Z n0 own nm bytes maxL ret T h cells slots) {pc pc' cells' slots' : Nat} {Ls : Array Slot} {st : List Value} {i n : Nat} {C : String} (w : (Cond.classLink own i C).before a0 Z = true) (wi : (Cond.instantiable C n).before a0 Z = true) (wz : (Cond.initialized C).before a0 Z = true) (hd : decode bytes pc = .ok (.new i, 3)) (hp : pc' = pc + 3) (ec : cells' = cells + 1) (es : slots' = slots + n) (hc : cells' ≤ R.cells) (hl : slots' ≤ R.slots)
    (k : ∀ T' h' a, a = h.size → own_At G p l e R s0 s EL P m args below meth c Z n0 own nm bytes maxL ret T' h' cells' slots' → Keep h h' [] → Exa Z h' a C → (∀ {O nm d : String} {ty : FieldType}, Laid Z a0 C O nm d → parseFieldDescriptor d = some ty → Fld Z h' a O nm d (defaultValue ty)) → (∃ cell : Cell, h'[a]? = some cell ∧ cell.vm = .none ∧ cell.monitor = {}) → G T' (mkF m pc' Ls (.ref a :: st))) : G T (mkF m pc Ls st) := by
  obtain ⟨hG, ⟨c1, c2, hZ, hown, c5⟩, L, X, N, eT, O⟩ := X
  subst hp ec es
  obtain ⟨T', h', X', e', E', A', D', U', st'⟩ := newO X c1 hZ hown w wi wz eT (g := mkF m pc Ls st) rfl (hb c2 hd) hc hl
  exact hG _ _ _ _ st' (k _ _ _ rfl ⟨hG, ⟨c1, c2, hZ, hown, c5⟩, _, X', N, e', O.ext E'⟩ ((Keep.refl _ _).ext E') A' D' U')
theorem own_newK (X : own_At G p l e R s0 s EL P m args below meth c Z n0 own nm bytes maxL ret T h cells slots) {pc pc' cells' slots' : Nat} {Ls : Array Slot} {st : List Value} {i n : Nat} {C : String} (w : (Cond.classLink own i C).before a0 Z = true) (wi : (Cond.instantiable C n).before a0 Z = true) (wz : (Cond.initialized C).before a0 Z = true) (hd : decode bytes pc = .ok (.new i, 3)) (hp : pc' = pc + 3) (ec : cells' = cells + 1) (es : slots' = slots + n) (hc : cells' ≤ R.cells) (hl : slots' ≤ R.slots)
    (k : ∀ T' h' a, a = h.size → own_At G p l e R s0 s EL (a :: P) m args below meth c Z n0 own nm bytes maxL ret T' h' cells' slots' → Keep h h' [] → Exa Z h' a C → (∀ {O nm d : String} {ty : FieldType}, Laid Z a0 C O nm d → parseFieldDescriptor d = some ty → Fld Z h' a O nm d (defaultValue ty)) → (∃ cell : Cell, h'[a]? = some cell ∧ cell.vm = .none ∧ cell.monitor = {}) → G T' (mkF m pc' Ls (.ref a :: st))) : G T (mkF m pc Ls st) := by
  obtain ⟨hG, ⟨c1, c2, hZ, hown, c5⟩, L, X, N, eT, O⟩ := X
  subst hp ec es
  obtain ⟨T', h', X', e', E', A', D', U', st'⟩ := newO X c1 hZ hown w wi wz eT (g := mkF m pc Ls st) rfl (hb c2 hd) hc hl
  exact hG _ _ _ _ st' (k _ _ _ rfl ⟨hG, ⟨c1, c2, hZ, hown, c5⟩, _, X', N, e', O.made E' (Nat.le_refl _) A'.lt⟩ ((Keep.refl _ _).ext E') A' D' U')
theorem own_initO (X : own_At G p l e R s0 s EL P m args below meth c Z n0 own nm bytes maxL ret T h cells slots) {pc pc' : Nat} {Ls : Array Slot} {st : List Value} {i : Nat} {a : Addr} {W : Nat} (w1 : (Cond.methodLink own i Lib.objectInit).before a0 Z = true) (w2 : (Cond.instanceMethod Lib.objectInit).before a0 Z = true) (w3 : (Cond.code Lib.objectInit ⟨#[0xb1]⟩ 1 none).before a0 Z = true) (hsz : Ls.size = maxL) (hd : decode bytes pc = .ok (.invokespecial i, 3)) (hp : pc' = pc + 3)
    (hf : 1 ≤ R.frames) (hW : (st.map fun v => v.category).sum = W) (hl : W + 12 ≤ R.locals) (k : ∀ T', own_At G p l e R s0 s EL P m args below meth c Z n0 own nm bytes maxL ret T' h cells slots → G T' (mkF m pc' Ls st)) : G T (mkF m pc Ls (.ref a :: st)) := by
  obtain ⟨hG, ⟨c1, c2, hZ, hown, c5, c6⟩, L, X, N, eT, O⟩ := X
  subst hp
  obtain ⟨T', X', e', st'⟩ := initO X c1 hZ hown w1 w2 w3 eT (g := mkF m pc Ls (.ref a :: st)) rfl (hsz.trans c5.symm) rfl (hb c2 hd) hf (W := W) (by show 2 * 0 + _ ≤ _; rw [hW]; omega) hl
  exact hG _ _ _ _ st' (k _ ⟨hG, ⟨c1, c2, hZ, hown, c5, c6⟩, L, X', N, e', O⟩)
def own_Arr (Z : State) (h : Heap) (a : Addr) (k : ClassId) (ty : FieldType) (vs : List Value) : Prop := ∃ c : Cell, Arr Z h a c ty ∧ c.cls = k ∧ c.slots.toList = vs ∧ vs.length < 2 ^ 31 ∧ ∀ v ∈ vs, fits ty v = true
theorem own_Arr.lt {a : Addr} {k : ClassId} {ty : FieldType} {vs : List Value} (F : own_Arr Z h a k ty vs) : a < h.size := by obtain ⟨c, A, -⟩ := F; exact A.lt
theorem own_Arr.keep {h' : Heap} {a : Addr} {k : ClassId} {ty : FieldType} {vs : List Value} {ws : List Addr} (F : own_Arr Z h a k ty vs) (K : Keep h h' ws) (q : a ∉ ws) : own_Arr Z h' a k ty vs := by
  obtain ⟨c, A, r⟩ := F; exact ⟨c, ⟨K.2.1 a c A.1 q, A.2⟩, r⟩
theorem own_Arr.arv {a : Addr} {k : ClassId} {ty : FieldType} {vs : List Value} {d : Value} {N : Int32} (F : own_Arr Z h a k ty vs) (hN : N = Int32.ofNat vs.length) : Arv Z h a k ty N vs d := by
  obtain ⟨c, A, r1, r2, r3, r4⟩ := F
  have q : N.toInt = vs.length := by rw [hN]; exact len_toInt r3
  have hs : c.slots.size = vs.length := by rw [← r2]; simp
  refine ⟨c, A, r1, by rw [hs]; simp only [Int32.toNatClampNeg, q]; omega, by rw [Int32.lt_iff_toInt_lt, q]; simp, fun i hi => ?_, fun i hi => ?_⟩
  · rw [← Array.getElem?_toList, r2, List.getElem?_eq_getElem (by omega)]; simp [List.getD, List.getElem?_eq_getElem (show i < vs.length by omega)]
  · have hi' : i < vs.length := by omega
    simp only [List.getD, List.getElem?_eq_getElem hi', Option.getD_some]; exact r4 _ (List.getElem_mem hi')
theorem own_Arr.of_arv {a : Addr} {k : ClassId} {ty : FieldType} {vs : List Value} {d : Value} {N : Int32} (F : Arv Z h a k ty N vs d) (hN : N.toNatClampNeg = vs.length) : own_Arr Z h a k ty vs := by
  obtain ⟨c, A, r1, r2, r3, r4, r5⟩ := F
  have hs : c.slots.size = vs.length := by omega
  have e : c.slots.toList = vs := by
    apply List.ext_getElem?
    intro i
    by_cases hi : i < vs.length
    · rw [Array.getElem?_toList, r4 i (by omega)]; simp [List.getD, List.getElem?_eq_getElem hi]
    · rw [List.getElem?_eq_none (by simpa using (by omega : c.slots.size ≤ i)), List.getElem?_eq_none (by omega)]
  refine ⟨c, A, r1, e, by rw [← hN]; exact (back32 r3).2, fun v hv => ?_⟩
  obtain ⟨i, hi, rfl⟩ := List.getElem_of_mem hv
  have := r5 i (by omega)
  simpa [List.getD, List.getElem?_eq_getElem hi] using this
theorem own_idx {n i : Nat} (hi : i < n) (hn : n < 2 ^ 31) {j : Int32} (hj : j.toInt = i) : ¬ (j < 0 ∨ n ≤ j.toNatClampNeg) ∧ j.toNatClampNeg = i := by
  have e : j.toNatClampNeg = i := by simp only [Int32.toNatClampNeg, hj]; omega
  refine ⟨?_, e⟩
  rw [e, Int32.lt_iff_toInt_lt, hj]; simp; omega
theorem own_ld {a : Addr} {k : ClassId} {ty : FieldType} {vs : List Value} {j : Int32} {i : Nat} {v : Value} (F : own_Arr Z h a k ty vs) (hj : j.toInt = i) (hv : vs[i]? = some v) : ∃ c : Cell, Arr Z h a c ty ∧ ¬ (j < 0 ∨ c.slots.size ≤ j.toNatClampNeg) ∧ c.slots[j.toNatClampNeg]? = some v := by
  obtain ⟨c, A, r1, r2, r3, r4⟩ := F
  have hi : i < vs.length := (List.getElem?_eq_some_iff.mp hv).1
  have hs : c.slots.size = vs.length := by rw [← r2]; simp
  obtain ⟨q1, q2⟩ := own_idx hi r3 hj
  exact ⟨c, A, by rw [hs]; exact q1, by rw [q2, ← Array.getElem?_toList, r2]; exact hv⟩
theorem own_iaload (X : own_At G p l e R s0 s EL P m args below meth c Z n0 own nm bytes maxL ret T h cells slots) {pc pc' : Nat} {Ls : Array Slot} {st : List Value} {a : Addr} {kc : ClassId} {vs : List Value} {j : Int32} {i : Nat} {v : Value} (F : own_Arr Z h a kc .int vs) (hj : j.toInt = i) (hv : vs[i]? = some v) (hd : decode bytes pc = .ok (.iaload, 1)) (hp : pc' = pc + 1) (k : G T (mkF m pc' Ls (v :: st))) : G T (mkF m pc Ls (.int j :: .ref a :: st)) := by
  obtain ⟨hG, ⟨c1, c2, hZ, -⟩, L, X, N, eT, O⟩ := X
  subst hp
  obtain ⟨cl, A, q1, q2⟩ := own_ld F hj hv
  exact hG _ _ _ _ (fun t q => X.iaload c1 (by rw [eT]; exact A.1) (State.isArrayOf_alike hZ.alike A.2.1) A.2.2 q1 q2 (g := mkF m pc Ls (.int j :: .ref a :: st)) rfl rfl (hb c2 hd) _ q) k
theorem own_laload (X : own_At G p l e R s0 s EL P m args below meth c Z n0 own nm bytes maxL ret T h cells slots) {pc pc' : Nat} {Ls : Array Slot} {st : List Value} {a : Addr} {kc : ClassId} {vs : List Value} {j : Int32} {i : Nat} {v : Value} (F : own_Arr Z h a kc .long vs) (hj : j.toInt = i) (hv : vs[i]? = some v) (hd : decode bytes pc = .ok (.laload, 1)) (hp : pc' = pc + 1) (k : G T (mkF m pc' Ls (v :: st))) : G T (mkF m pc Ls (.int j :: .ref a :: st)) := by
  obtain ⟨hG, ⟨c1, c2, hZ, -⟩, L, X, N, eT, O⟩ := X
  subst hp
  obtain ⟨cl, A, q1, q2⟩ := own_ld F hj hv
  exact hG _ _ _ _ (fun t q => X.laload c1 (by rw [eT]; exact A.1) (State.isArrayOf_alike hZ.alike A.2.1) A.2.2 q1 q2 (g := mkF m pc Ls (.int j :: .ref a :: st)) rfl rfl (hb c2 hd) _ q) k
theorem own_caload (X : own_At G p l e R s0 s EL P m args below meth c Z n0 own nm bytes maxL ret T h cells slots) {pc pc' : Nat} {Ls : Array Slot} {st : List Value} {a : Addr} {kc : ClassId} {vs : List Value} {j : Int32} {i : Nat} {v : Value} (F : own_Arr Z h a kc .char vs) (hj : j.toInt = i) (hv : vs[i]? = some v) (hd : decode bytes pc = .ok (.caload, 1)) (hp : pc' = pc + 1) (k : G T (mkF m pc' Ls (v :: st))) : G T (mkF m pc Ls (.int j :: .ref a :: st)) := by
  obtain ⟨hG, ⟨c1, c2, hZ, -⟩, L, X, N, eT, O⟩ := X
  subst hp
  obtain ⟨cl, A, q1, q2⟩ := own_ld F hj hv
  exact hG _ _ _ _ (fun t q => X.caload c1 (by rw [eT]; exact A.1) (State.isArrayOf_alike hZ.alike A.2.1) A.2.2 q1 q2 (g := mkF m pc Ls (.int j :: .ref a :: st)) rfl rfl (hb c2 hd) _ q) k
theorem own_baload (X : own_At G p l e R s0 s EL P m args below meth c Z n0 own nm bytes maxL ret T h cells slots) {pc pc' : Nat} {Ls : Array Slot} {st : List Value} {a : Addr} {kc : ClassId} {vs : List Value} {j : Int32} {i : Nat} {v : Value} (F : own_Arr Z h a kc .byte vs) (hj : j.toInt = i) (hv : vs[i]? = some v) (hd : decode bytes pc = .ok (.baload, 1)) (hp : pc' = pc + 1) (k : G T (mkF m pc' Ls (v :: st))) : G T (mkF m pc Ls (.int j :: .ref a :: st)) := by
  obtain ⟨hG, ⟨c1, c2, hZ, -⟩, L, X, N, eT, O⟩ := X
  subst hp
  obtain ⟨cl, A, q1, q2⟩ := own_ld F hj hv
  exact hG _ _ _ _ (fun t q => X.baloadBytes c1 (by rw [eT]; exact A.1) (State.isArrayOf_alike hZ.alike A.2.1) A.2.2 q1 q2 (g := mkF m pc Ls (.int j :: .ref a :: st)) rfl rfl (hb c2 hd) _ q) k
theorem own_aaload (X : own_At G p l e R s0 s EL P m args below meth c Z n0 own nm bytes maxL ret T h cells slots) {pc pc' : Nat} {Ls : Array Slot} {st : List Value} {ty : FieldType} {a : Addr} {kc : ClassId} {vs : List Value} {j : Int32} {i : Nat} {v : Value} (F : own_Arr Z h a kc ty vs) (hty : ty.isReference = true) (hj : j.toInt = i) (hv : vs[i]? = some v) (hd : decode bytes pc = .ok (.aaload, 1)) (hp : pc' = pc + 1) (k : G T (mkF m pc' Ls (v :: st))) : G T (mkF m pc Ls (.int j :: .ref a :: st)) := by
  obtain ⟨hG, ⟨c1, c2, hZ, -⟩, L, X, N, eT, O⟩ := X
  subst hp
  obtain ⟨cl, A, q1, q2⟩ := own_ld F hj hv
  exact hG _ _ _ _ (fun t q => X.aaload c1 (by rw [eT]; exact A.1) (State.isArrayOf_alike hZ.alike A.2.1) hty A.2.2 q1 q2 (g := mkF m pc Ls (.int j :: .ref a :: st)) rfl rfl (hb c2 hd) _ q) k
theorem own_arraylength (X : own_At G p l e R s0 s EL P m args below meth c Z n0 own nm bytes maxL ret T h cells slots) {pc pc' : Nat} {Ls : Array Slot} {st : List Value} {ty : FieldType} {a : Addr} {kc : ClassId} {vs : List Value} {z : Int32} (F : own_Arr Z h a kc ty vs) (hz : Int32.ofNat vs.length = z) (hd : decode bytes pc = .ok (.arraylength, 1)) (hp : pc' = pc + 1) (k : G T (mkF m pc' Ls (.int z :: st))) : G T (mkF m pc Ls (.ref a :: st)) := by
  obtain ⟨hG, ⟨c1, c2, hZ, -⟩, L, X, N, eT, O⟩ := X
  subst hp
  obtain ⟨cl, A, r1, r2, r3, r4⟩ := F
  have hs : cl.slots.size = vs.length := by rw [← r2]; simp
  exact hG _ _ _ _ (fun t q => X.arraylength c1 (by rw [eT]; exact A.1) (State.isArrayOf_alike hZ.alike A.2.1) (g := mkF m pc Ls (.ref a :: st)) rfl rfl (hb c2 hd) _ (by rw [hs, show vs.length.toInt32 = z from hz]; exact q)) k
theorem own_Arr.set {h' : Heap} {a : Addr} {k : ClassId} {ty : FieldType} {vs : List Value} {i : Nat} {v : Value} (F : own_Arr Z h a k ty vs) (W : Wr h h' a i v) (hv : fits ty v = true) : own_Arr Z h' a k ty (vs.set i v) := by
  obtain ⟨c, A, r1, r2, r3, r4⟩ := F
  refine ⟨_, A.same W, r1, ?_, by simpa using r3, fun x hx => ?_⟩
  · simp [Cell.setSlot, r2]
  · rcases List.mem_or_eq_of_mem_set hx with q | q
    · exact r4 _ q
    · rw [q]; exact hv
theorem own_newA (cA : ClassId) (ty : FieldType) (n : Int32) : (newA cA ty n).slots.toList = List.replicate n.toNatClampNeg (defaultValue ty) := by simp [newA]
theorem own_defit (aty : ArrayType) : fits (newarray.typeOf aty) (defaultValue (newarray.typeOf aty)) = true := by cases aty <;> rfl
theorem own_newarray (X : own_At G p l e R s0 s EL P m args below meth c Z n0 own nm bytes maxL ret T h cells slots) {pc pc' cells' slots' : Nat} {Ls : Array Slot} {st : List Value} {aty : ArrayType} {ty : FieldType} {z : Int32} {n : Nat} {dv : Value} (w : (Cond.arrayClass ty).before a0 Z = true) (ht : newarray.typeOf aty = ty) (hdv : defaultValue ty = dv) (hz : z.toInt = n) (hn : n ≤ 60000000) (hd : decode bytes pc = .ok (.newarray aty, 2)) (hp : pc' = pc + 2) (ec : cells' = cells + 1) {cap : Nat} (hcap : n ≤ cap) (hbig : cap ≤ 60000000) (es : slots' = slots + cap) (hc : cells' ≤ R.cells) (hl : slots' ≤ R.slots)
    (k : ∀ T' h' a kc, a = h.size → own_At G p l e R s0 s EL P m args below meth c Z n0 own nm bytes maxL ret T' h' cells' slots' → Keep h h' [] → own_Arr Z h' a kc ty (List.replicate n dv) → G T' (mkF m pc' Ls (.ref a :: st))) : G T (mkF m pc Ls (.int z :: st)) := by
  obtain ⟨hG, ⟨c1, c2, hZ, c5⟩, L, X, N, eT, O⟩ := X
  subst hp ec es ht hdv
  have hz0 : ¬ z < 0 := by rw [Int32.lt_iff_toInt_lt, hz]; simp
  have hzn : z.toNatClampNeg = n := by simp only [Int32.toNatClampNeg, hz]; omega
  obtain ⟨T', h', cA, X', e', E', A', st'⟩ := newP X c1 hZ w eT (g := mkF m pc Ls (.int z :: st)) rfl (hb c2 hd) rfl hz0 (cap := cap) (by omega) (by omega) hc hl
  refine hG _ _ _ _ st' (k _ _ _ cA rfl ⟨hG, ⟨c1, c2, hZ, c5⟩, _, X', N, e', O.ext E'⟩ ((Keep.refl _ _).ext E') ⟨_, A', rfl, by rw [own_newA, hzn], by simp; omega, fun v hv => ?_⟩)
  rw [List.eq_of_mem_replicate hv]; exact own_defit aty
theorem own_newarrayK (X : own_At G p l e R s0 s EL P m args below meth c Z n0 own nm bytes maxL ret T h cells slots) {pc pc' cells' slots' : Nat} {Ls : Array Slot} {st : List Value} {aty : ArrayType} {ty : FieldType} {z : Int32} {n : Nat} {dv : Value} (w : (Cond.arrayClass ty).before a0 Z = true) (ht : newarray.typeOf aty = ty) (hdv : defaultValue ty = dv) (hz : z.toInt = n) (hn : n ≤ 60000000) (hd : decode bytes pc = .ok (.newarray aty, 2)) (hp : pc' = pc + 2) (ec : cells' = cells + 1) {cap : Nat} (hcap : n ≤ cap) (hbig : cap ≤ 60000000) (es : slots' = slots + cap) (hc : cells' ≤ R.cells) (hl : slots' ≤ R.slots)
    (k : ∀ T' h' a kc, a = h.size → own_At G p l e R s0 s EL (a :: P) m args below meth c Z n0 own nm bytes maxL ret T' h' cells' slots' → Keep h h' [] → own_Arr Z h' a kc ty (List.replicate n dv) → G T' (mkF m pc' Ls (.ref a :: st))) : G T (mkF m pc Ls (.int z :: st)) := by
  obtain ⟨hG, ⟨c1, c2, hZ, c5⟩, L, X, N, eT, O⟩ := X
  subst hp ec es ht hdv
  have hz0 : ¬ z < 0 := by rw [Int32.lt_iff_toInt_lt, hz]; simp
  have hzn : z.toNatClampNeg = n := by simp only [Int32.toNatClampNeg, hz]; omega
  obtain ⟨T', h', cA, X', e', E', A', st'⟩ := newP X c1 hZ w eT (g := mkF m pc Ls (.int z :: st)) rfl (hb c2 hd) rfl hz0 (cap := cap) (by omega) (by omega) hc hl
  refine hG _ _ _ _ st' (k _ _ _ cA rfl ⟨hG, ⟨c1, c2, hZ, c5⟩, _, X', N, e', O.made E' (Nat.le_refl _) A'.lt⟩ ((Keep.refl _ _).ext E') ⟨_, A', rfl, by rw [own_newA, hzn], by simp; omega, fun v hv => ?_⟩)
  rw [List.eq_of_mem_replicate hv]; exact own_defit aty
theorem own_iastore (X : own_At G p l e R s0 s EL P m args below meth c Z n0 own nm bytes maxL ret T h cells slots) {pc pc' : Nat} {Ls : Array Slot} {st : List Value} {a : Addr} {kc : ClassId} {vs : List Value} {j : Int32} {i : Nat} {x : Int32} (F : own_Arr Z h a kc .int vs) (hj : j.toInt = i) (hi : i < vs.length) (ha : n0 ≤ a) (hd : decode bytes pc = .ok (.iastore, 1)) (hp : pc' = pc + 1)
    (k : ∀ T' h', own_At G p l e R s0 s EL P m args below meth c Z n0 own nm bytes maxL ret T' h' cells slots → Keep h h' [a] → own_Arr Z h' a kc .int (vs.set i (.int x)) → G T' (mkF m pc' Ls st)) : G T (mkF m pc Ls (.int x :: .int j :: .ref a :: st)) := by
  obtain ⟨hG, ⟨c1, c2, hZ, c5⟩, L, X, N, eT, O⟩ := X
  subst hp 
  have F0 := F
  obtain ⟨cl, A, r1, r2, r3, r4⟩ := F
  have hs : cl.slots.size = vs.length := by rw [← r2]; simp
  obtain ⟨q1, q2⟩ := own_idx hi r3 hj
  obtain ⟨T', h', X', e', W', st'⟩ := stI X c1 hZ eT A (j := j) (by rw [hs]; exact q1) (g := mkF m pc Ls (.int x :: .int j :: .ref a :: st)) rfl rfl (hb c2 hd)
  have K' := Keep.of_wr W'
  have O' := O.wr W' ha (Safe.arr hZ.alike A (by decide))
  rw [q2] at W'
  exact hG _ _ _ _ st' (k _ _ ⟨hG, ⟨c1, c2, hZ, c5⟩, _, X', Fr.snoc X' N ha, e', O'⟩ K' (F0.set W' (rfl)))
theorem own_lastore (X : own_At G p l e R s0 s EL P m args below meth c Z n0 own nm bytes maxL ret T h cells slots) {pc pc' : Nat} {Ls : Array Slot} {st : List Value} {a : Addr} {kc : ClassId} {vs : List Value} {j : Int32} {i : Nat} {x : Int64} (F : own_Arr Z h a kc .long vs) (hj : j.toInt = i) (hi : i < vs.length) (ha : n0 ≤ a) (hd : decode bytes pc = .ok (.lastore, 1)) (hp : pc' = pc + 1)
    (k : ∀ T' h', own_At G p l e R s0 s EL P m args below meth c Z n0 own nm bytes maxL ret T' h' cells slots → Keep h h' [a] → own_Arr Z h' a kc .long (vs.set i (.long x)) → G T' (mkF m pc' Ls st)) : G T (mkF m pc Ls (.long x :: .int j :: .ref a :: st)) := by
  obtain ⟨hG, ⟨c1, c2, hZ, c5⟩, L, X, N, eT, O⟩ := X
  subst hp 
  have F0 := F
  obtain ⟨cl, A, r1, r2, r3, r4⟩ := F
  have hs : cl.slots.size = vs.length := by rw [← r2]; simp
  obtain ⟨q1, q2⟩ := own_idx hi r3 hj
  obtain ⟨T', h', X', e', W', st'⟩ := stJ X c1 hZ eT A (j := j) (by rw [hs]; exact q1) (g := mkF m pc Ls (.long x :: .int j :: .ref a :: st)) rfl rfl (hb c2 hd)
  have K' := Keep.of_wr W'
  have O' := O.wr W' ha (Safe.arr hZ.alike A (by decide))
  rw [q2] at W'
  exact hG _ _ _ _ st' (k _ _ ⟨hG, ⟨c1, c2, hZ, c5⟩, _, X', Fr.snoc X' N ha, e', O'⟩ K' (F0.set W' (rfl)))
theorem own_castore (X : own_At G p l e R s0 s EL P m args below meth c Z n0 own nm bytes maxL ret T h cells slots) {pc pc' : Nat} {Ls : Array Slot} {st : List Value} {a : Addr} {kc : ClassId} {vs : List Value} {j : Int32} {i : Nat} {x y : Int32} (F : own_Arr Z h a kc .char vs) (hj : j.toInt = i) (hi : i < vs.length) (hy : nar .char x = y) (ha : n0 ≤ a) (hd : decode bytes pc = .ok (.castore, 1)) (hp : pc' = pc + 1)
    (k : ∀ T' h', own_At G p l e R s0 s EL P m args below meth c Z n0 own nm bytes maxL ret T' h' cells slots → Keep h h' [a] → own_Arr Z h' a kc .char (vs.set i (.int y)) → G T' (mkF m pc' Ls st)) : G T (mkF m pc Ls (.int x :: .int j :: .ref a :: st)) := by
  obtain ⟨hG, ⟨c1, c2, hZ, c5⟩, L, X, N, eT, O⟩ := X
  subst hp hy
  have F0 := F
  obtain ⟨cl, A, r1, r2, r3, r4⟩ := F
  have hs : cl.slots.size = vs.length := by rw [← r2]; simp
  obtain ⟨q1, q2⟩ := own_idx hi r3 hj
  obtain ⟨T', h', X', e', W', st'⟩ := stC X c1 hZ eT A (j := j) (by rw [hs]; exact q1) (g := mkF m pc Ls (.int x :: .int j :: .ref a :: st)) rfl rfl (hb c2 hd)
  have K' := Keep.of_wr W'
  have O' := O.wr W' ha (Safe.arr hZ.alike A (by decide))
  rw [q2] at W'
  exact hG _ _ _ _ st' (k _ _ ⟨hG, ⟨c1, c2, hZ, c5⟩, _, X', Fr.snoc X' N ha, e', O'⟩ K' (F0.set W' (fits_nar_char _)))
theorem own_bastore (X : own_At G p l e R s0 s EL P m args below meth c Z n0 own nm bytes maxL ret T h cells slots) {pc pc' : Nat} {Ls : Array Slot} {st : List Value} {a : Addr} {kc : ClassId} {vs : List Value} {j : Int32} {i : Nat} {x y : Int32} (F : own_Arr Z h a kc .byte vs) (hj : j.toInt = i) (hi : i < vs.length) (hy : nar .byte x = y) (ha : n0 ≤ a) (hsf : a ∈ P) (hd : decode bytes pc = .ok (.bastore, 1)) (hp : pc' = pc + 1)
    (k : ∀ T' h', own_At G p l e R s0 s EL P m args below meth c Z n0 own nm bytes maxL ret T' h' cells slots → Keep h h' [a] → own_Arr Z h' a kc .byte (vs.set i (.int y)) → G T' (mkF m pc' Ls st)) : G T (mkF m pc Ls (.int x :: .int j :: .ref a :: st)) := by
  obtain ⟨hG, ⟨c1, c2, hZ, c5⟩, L, X, N, eT, O⟩ := X
  subst hp hy
  have F0 := F
  obtain ⟨cl, A, r1, r2, r3, r4⟩ := F
  have hs : cl.slots.size = vs.length := by rw [← r2]; simp
  obtain ⟨q1, q2⟩ := own_idx hi r3 hj
  obtain ⟨T', h', X', e', W', st'⟩ := stB X c1 hZ eT A (j := j) (by rw [hs]; exact q1) (g := mkF m pc Ls (.int x :: .int j :: .ref a :: st)) rfl rfl (hb c2 hd)
  have K' := Keep.of_wr W'
  have O' := O.wr W' ha (O.2.2.2.2 a hsf).1
  rw [q2] at W'
  exact hG _ _ _ _ st' (k _ _ ⟨hG, ⟨c1, c2, hZ, c5⟩, _, X', Fr.snoc X' N ha, e', O'⟩ K' (F0.set W' (fits_nar_byte _)))
theorem own_callS (X : own_At G p l e R s0 s EL P m args below meth c Z n0 own nm bytes maxL ret T h cells slots) {pc pc' cells' slots' : Nat} {Ls : Array Slot} {st argsL rest : List Value} {i kc ks W : Nat} {as' : Array Value} {QQ : Option Value → Heap → List Loc → Prop} {Q : Option Value → Heap → Prop} {y : MethodName} {bytes' : ByteArray} {maxL' : Nat} {ret' : Option FieldType} (w1 : (Cond.methodLink own i y).before a0 Z = true) (w2 : (Cond.static y).before a0 Z = true) (w3 : (Cond.initialized y.cls).before a0 Z = true) (w4 : (Cond.code y bytes' maxL' ret').before a0 Z = true) (hy : y.cls ≠ "java/lang/invoke/MethodHandle" ∧ y.cls ≠ "java/lang/invoke/VarHandle") (B : ∀ (hZ : Z.Warmed39 s.vm), Back l R p e below s args y 3 W (fun A a => a = as' ∧ A.U.heap = h ∧ A.cells + kc ≤ R.cells ∧ A.slots + ks ≤ R.slots) (fun A _ v B => ∃ L, QQ v B.U.heap L ∧ B.locs = A.locs ++ L ∧ B.cells = A.cells + kc ∧ B.slots = A.slots + ks)) (hQ : ∀ v h' L, QQ v h' L → Q v h' ∧ Fr n0 L ∧ ∃ ws, Keep h h' ws ∧ ∀ x ∈ ws, n0 ≤ x ∧ x ∈ P) (hsz : Ls.size = maxL) (hlen : ∀ sig, parseMethodDescriptor y.desc = some sig → argsL.length = sig.parameters.length) (hs : st = argsL.reverse ++ rest) (hW : (rest.map fun v => v.category).sum = W) (hd : decode bytes pc = .ok (.invokestatic i, 3)) (hp : pc' = pc + 3) (ha : argsL.toArray = as') (ec : cells' = cells + kc) (es : slots' = slots + ks) (hc : cells' ≤ R.cells) (hl : slots' ≤ R.slots)
    (k : ∀ v T' h', own_At G p l e R s0 s EL P m args below meth c Z n0 own nm bytes maxL ret T' h' cells' slots' → Q v h' → G T' (mkF m pc' Ls (v.toList ++ rest))) : G T (mkF m pc Ls st) := by
  obtain ⟨hG, ⟨c1, c2, hZ, hown, c5, c6⟩, L, X, N, eT, O⟩ := X
  subst hp ec es ha hs
  obtain ⟨v, vm₁, ⟨T', L', k', n'⟩, -, X', ⟨Lc, hq, l', y', z'⟩, st'⟩ := Jvm.LawKit.callS X c1 hown (mvT hZ w1) (mvT hZ w2) (mvT hZ w3) (mvT hZ w4) hy (B hZ) (g := mkF m pc Ls (argsL.reverse ++ rest)) rfl (hsz.trans c5.symm) hlen rfl (by show 2 * 0 + _ ≤ _; rw [hW]; omega) (hb c2 hd) (fun _ _ => ⟨rfl, eT, hc, hl⟩)
  dsimp only [Pt.U, Pt.locs, Pt.cells, Pt.slots] at X' l' y' z' st' hq
  subst l' y' z'
  obtain ⟨q1, q2, ws, q3, q4⟩ := hQ _ _ _ hq
  exact hG _ _ _ _ st' (k _ _ _ ⟨hG, ⟨c1, c2, hZ, hown, c5, c6⟩, _, X', Fr.app N q2, rfl, O.keepS q3 (fun x hx => (q4 x hx).1) (fun x hx => (O.2.2.2.2 x (q4 x hx).2).1)⟩ q1)
theorem own_callI (X : own_At G p l e R s0 s EL P m args below meth c Z n0 own nm bytes maxL ret T h cells slots) {pc pc' cells' slots' : Nat} {Ls : Array Slot} {st argsL rest : List Value} {i kc ks W : Nat} {as' : Array Value} {QQ : Option Value → Heap → List Loc → Prop} {Q : Option Value → Heap → Prop} {y : MethodName} {bytes' : ByteArray} {maxL' : Nat} {a : Addr} (w1 : (Cond.methodLink own i y).before a0 Z = true) (w2 : (Cond.instanceMethod y).before a0 Z = true) (w4 : (Cond.code y bytes' maxL' none).before a0 Z = true) (hy0 : y.name = "<init>") (hy : y.cls ≠ "java/lang/invoke/MethodHandle" ∧ y.cls ≠ "java/lang/invoke/VarHandle") (B : ∀ (hZ : Z.Warmed39 s.vm), Back l R p e below s args y 3 W (fun A a => a = as' ∧ A.U.heap = h ∧ A.cells + kc ≤ R.cells ∧ A.slots + ks ≤ R.slots) (fun A _ v B => ∃ L, QQ v B.U.heap L ∧ B.locs = A.locs ++ L ∧ B.cells = A.cells + kc ∧ B.slots = A.slots + ks)) (hQ : ∀ v h' L, QQ v h' L → Q v h' ∧ Fr n0 L ∧ ∃ ws, Keep h h' ws ∧ ∀ x ∈ ws, n0 ≤ x ∧ x ∈ P) (hsz : Ls.size = maxL) (hlen : ∀ sig, parseMethodDescriptor y.desc = some sig → argsL.length = sig.parameters.length) (hs : st = argsL.reverse ++ Value.ref a :: rest) (hW : (rest.map fun v => v.category).sum = W) (hd : decode bytes pc = .ok (.invokespecial i, 3)) (hp : pc' = pc + 3) (ha : (Value.ref a :: argsL).toArray = as') (ec : cells' = cells + kc) (es : slots' = slots + ks) (hc : cells' ≤ R.cells) (hl : slots' ≤ R.slots)
    (k : ∀ v T' h', own_At G p l e R s0 s EL P m args below meth c Z n0 own nm bytes maxL ret T' h' cells' slots' → Q v h' → G T' (mkF m pc' Ls (v.toList ++ rest))) : G T (mkF m pc Ls st) := by
  obtain ⟨hG, ⟨c1, c2, hZ, hown, c5, c6⟩, L, X, N, eT, O⟩ := X
  subst hp ec es ha hs
  obtain ⟨v, vm₁, ⟨T', L', k', n'⟩, -, X', ⟨Lc, hq, l', y', z'⟩, st'⟩ := Jvm.LawKit.callI X c1 hown hy0 (mvT hZ w1) (mvT hZ w2) (mvT hZ w4) hy (B hZ) (g := mkF m pc Ls (argsL.reverse ++ Value.ref a :: rest)) rfl (hsz.trans c5.symm) hlen rfl (by show 2 * 0 + _ ≤ _; rw [hW]; omega) (hb c2 hd) (fun _ _ => ⟨rfl, eT, hc, hl⟩)
  dsimp only [Pt.U, Pt.locs, Pt.cells, Pt.slots] at X' l' y' z' st' hq
  subst l' y' z'
  obtain ⟨q1, q2, ws, q3, q4⟩ := hQ _ _ _ hq
  exact hG _ _ _ _ st' (k _ _ _ ⟨hG, ⟨c1, c2, hZ, hown, c5, c6⟩, _, X', Fr.app N q2, rfl, O.keepS q3 (fun x hx => (q4 x hx).1) (fun x hx => (O.2.2.2.2 x (q4 x hx).2).1)⟩ q1)
theorem own_callV (X : own_At G p l e R s0 s EL P m args below meth c Z n0 own nm bytes maxL ret T h cells slots) {pc pc' cells' slots' : Nat} {Ls : Array Slot} {st argsL rest : List Value} {i kc ks W : Nat} {as' : Array Value} {QQ : Option Value → Heap → List Loc → Prop} {Q : Option Value → Heap → Prop} {y z : MethodName} {C : String} {a : Addr} (w1 : (Cond.methodLink own i y).before a0 Z = true) (w2 : (Cond.declares y).before a0 Z = true) (nf : ∀ s' : State, Z.Warmed39 s'.vm → NotFace s' y) (w3 : (Cond.selects C y z).before a0 Z = true) (w4 : (Cond.instanceMethod z).before a0 Z = true) (hy : y.cls ≠ "java/lang/invoke/MethodHandle" ∧ y.cls ≠ "java/lang/invoke/VarHandle") (E : Exa Z h a C) (B : ∀ (hZ : Z.Warmed39 s.vm), Back l R p e below s args z 3 W (fun A a => a = as' ∧ A.U.heap = h ∧ A.cells + kc ≤ R.cells ∧ A.slots + ks ≤ R.slots) (fun A _ v B => ∃ L, QQ v B.U.heap L ∧ B.locs = A.locs ++ L ∧ B.cells = A.cells + kc ∧ B.slots = A.slots + ks)) (hQ : ∀ v h' L, QQ v h' L → Q v h' ∧ Fr n0 L ∧ ∃ ws, Keep h h' ws ∧ ∀ x ∈ ws, n0 ≤ x ∧ x ∈ P) (hsz : Ls.size = maxL) (hlen : ∀ sig, parseMethodDescriptor y.desc = some sig → argsL.length = sig.parameters.length) (hs : st = argsL.reverse ++ Value.ref a :: rest) (hW : (rest.map fun v => v.category).sum = W) (hd : decode bytes pc = .ok (.invokevirtual i, 3)) (hp : pc' = pc + 3) (ha : (Value.ref a :: argsL).toArray = as') (ec : cells' = cells + kc) (es : slots' = slots + ks) (hc : cells' ≤ R.cells) (hl : slots' ≤ R.slots)
    (k : ∀ v T' h', own_At G p l e R s0 s EL P m args below meth c Z n0 own nm bytes maxL ret T' h' cells' slots' → Q v h' → G T' (mkF m pc' Ls (v.toList ++ rest))) : G T (mkF m pc Ls st) := by
  obtain ⟨hG, ⟨c1, c2, hZ, hown, c5, c6⟩, L, X, N, eT, O⟩ := X
  subst hp ec es ha hs
  obtain ⟨v, vm₁, ⟨T', L', k', n'⟩, -, X', ⟨Lc, hq, l', y', z'⟩, st'⟩ := (have ⟨_, _, q1, _, q3⟩ := isOf hZ eT E; X.virtualBack c1 hown (mvT hZ w1) (mvT hZ w2) (nf s hZ) (mvT hZ w3) (mvT hZ w4) hy (B hZ) q1 q3 (g := mkF m pc Ls (argsL.reverse ++ Value.ref a :: rest)) rfl (hsz.trans c5.symm) (Steps.refl _) hlen rfl (by show 2 * 0 + _ ≤ _; rw [hW]; omega) (hb c2 hd) (fun _ _ => ⟨rfl, eT, hc, hl⟩))
  dsimp only [Pt.U, Pt.locs, Pt.cells, Pt.slots] at X' l' y' z' st' hq
  subst l' y' z'
  obtain ⟨q1, q2, ws, q3, q4⟩ := hQ _ _ _ hq
  exact hG _ _ _ _ (fun t q => st'.trans q) (k _ _ _ ⟨hG, ⟨c1, c2, hZ, hown, c5, c6⟩, _, X', Fr.app N q2, rfl, O.keepS q3 (fun x hx => (q4 x hx).1) (fun x hx => (O.2.2.2.2 x (q4 x hx).2).1)⟩ q1)
theorem own_callF (X : own_At G p l e R s0 s EL P m args below meth c Z n0 own nm bytes maxL ret T h cells slots) {pc pc' cells' slots' : Nat} {Ls : Array Slot} {st argsL rest : List Value} {i kc ks W : Nat} {as' : Array Value} {QQ : Option Value → Heap → List Loc → Prop} {Q : Option Value → Heap → Prop} {y z : MethodName} {C : String} {a : Addr} {cnt : Nat} (w1 : (Cond.methodLink own i y).before a0 Z = true) (w2 : (Cond.declares y).before a0 Z = true) (wf : ∀ (s' : State) (a' : Array Value), Z.Warmed39 s'.vm → (Cond.interfaceMethod y.cls y.cls y.name y.desc).before a' s' = true) (w3 : (Cond.selects C y z).before a0 Z = true) (w4 : (Cond.instanceMethod z).before a0 Z = true) (w5 : (Cond.publicMethod z).before a0 Z = true) (w6 : (Cond.unhidden C y.name y.desc).before a0 Z = true) (w7 : (Cond.castable C y.cls).before a0 Z = true) (hy : y.cls ≠ "java/lang/invoke/MethodHandle" ∧ y.cls ≠ "java/lang/invoke/VarHandle") (E : Exa Z h a C) (B : ∀ (hZ : Z.Warmed39 s.vm), Back l R p e below s args z 5 W (fun A a => a = as' ∧ A.U.heap = h ∧ A.cells + kc ≤ R.cells ∧ A.slots + ks ≤ R.slots) (fun A _ v B => ∃ L, QQ v B.U.heap L ∧ B.locs = A.locs ++ L ∧ B.cells = A.cells + kc ∧ B.slots = A.slots + ks)) (hQ : ∀ v h' L, QQ v h' L → Q v h' ∧ Fr n0 L ∧ ∃ ws, Keep h h' ws ∧ ∀ x ∈ ws, n0 ≤ x ∧ x ∈ P) (hsz : Ls.size = maxL) (hlen : ∀ sig, parseMethodDescriptor y.desc = some sig → argsL.length = sig.parameters.length) (hs : st = argsL.reverse ++ Value.ref a :: rest) (hW : (rest.map fun v => v.category).sum = W) (hd : decode bytes pc = .ok (.invokeinterface i cnt, 5)) (hp : pc' = pc + 5) (ha : (Value.ref a :: argsL).toArray = as') (ec : cells' = cells + kc) (es : slots' = slots + ks) (hc : cells' ≤ R.cells) (hl : slots' ≤ R.slots)
    (k : ∀ v T' h', own_At G p l e R s0 s EL P m args below meth c Z n0 own nm bytes maxL ret T' h' cells' slots' → Q v h' → G T' (mkF m pc' Ls (v.toList ++ rest))) : G T (mkF m pc Ls st) := by
  obtain ⟨hG, ⟨c1, c2, hZ, hown, c5, c6⟩, L, X, N, eT, O⟩ := X
  subst hp ec es ha hs
  obtain ⟨v, vm₁, ⟨T', L', k', n'⟩, -, X', ⟨Lc, hq, l', y', z'⟩, st'⟩ := (have ⟨_, _, q1, q2, q3⟩ := isOf hZ eT E; X.interfaceBack c1 hown (mvT hZ w1) (mvT hZ w2) (wf s args hZ) (mvT hZ w3) (mvT hZ w4) (mvT hZ w5) (mvT hZ w6) (mvT hZ w7) hy (B hZ) q1 q2 q3 (g := mkF m pc Ls (argsL.reverse ++ Value.ref a :: rest)) rfl (hsz.trans c5.symm) (Steps.refl _) hlen rfl (by show 2 * 0 + _ ≤ _; rw [hW]; omega) (hb c2 hd) (fun _ _ => ⟨rfl, eT, hc, hl⟩))
  dsimp only [Pt.U, Pt.locs, Pt.cells, Pt.slots] at X' l' y' z' st' hq
  subst l' y' z'
  obtain ⟨q1, q2, ws, q3, q4⟩ := hQ _ _ _ hq
  exact hG _ _ _ _ (fun t q => st'.trans q) (k _ _ _ ⟨hG, ⟨c1, c2, hZ, hown, c5, c6⟩, _, X', Fr.app N q2, rfl, O.keepS q3 (fun x hx => (q4 x hx).1) (fun x hx => (O.2.2.2.2 x (q4 x hx).2).1)⟩ q1)
theorem own_back {y : MethodName} {bytes' : ByteArray} {maxL' : Nat} {ret' : Option FieldType} {rm : Room} {as' : Array Value} {Q : Option Value → Heap → Prop} {P' : List Addr} {len W : Nat} (hM : own_Met l Z EL P' ro n0 y bytes' maxL' ret' rm as' h Q) (hZ : Z.Warmed39 s.vm) (O : own_Ok s0 s EL P Z n0 h) (hP : ∀ x ∈ P', x ∈ P) (wc : (Jvm.Cond.code y bytes' maxL' ret').before a0 Z = true) (wz : (Jvm.Cond.initialized y.cls).before a0 Z = true) (hf : rm.frames + 1 ≤ R.frames) (hl : W + (maxL' + 11) + rm.locals ≤ R.locals) :
    BackS l R p e below s args y len W (fun A a => a = as' ∧ A.U.heap = h ∧ A.cells + rm.cells ≤ R.cells ∧ A.slots + rm.slots ≤ R.slots)
      (fun A _ v B => ∃ L, (Q v B.U.heap ∧ Fr n0 L ∧ Old Z n0 B.U.heap) ∧ B.locs = A.locs ++ L ∧ B.cells = A.cells + rm.cells ∧ B.slots = A.slots + rm.slots ∧ CHr Z EL s.vm h B.U.vm B.U.heap ∧ own_Rs Z EL ro v B.U) := by
  obtain ⟨-, -, ⟨a1, hE⟩, H, hS⟩ := O
  have at' : ∀ {m : MethodId} {meth : Method} {c : Code} {T : State} {locs : List Loc} {k n : Nat}, Stand p l e R s m args below meth c T locs k n → CHr Z EL s.vm h T.vm h := fun Y => by
    have q := CHv.later (h' := h) hZ (hW := (show (Wst Z s.vm h).Warmed39 _ from Y.warmed.wide)) hE ⟨Nat.le_refl _, fun _ _ q => q⟩ (Or.inl Y.warmed.interned_eq) H.1
    exact ⟨q.1, Nat.le_refl _, q.2⟩
  exact BackS.of_freeW (bytes := bytes') (maxL := maxL') (ret := ret') (E := fun _ first o t L k n => k = rm.cells ∧ n = rm.slots ∧ (∃ v, o = .returned v ∧ (Q v t.heap ∧ Fr n0 L ∧ Old Z n0 t.heap) ∧ own_Rs Z EL ro v t) ∧ CHr Z EL first.vm first.heap t.vm t.heap) (hM []) hf hl
    (fun m meth c A a Y hp => have hU : Z.Warmed39 A.U.vm := wtrans hZ Y.warmed
      ⟨by show (Cond.and _ .tt).before a A.U = true; rw [Cond.before_and, mv hU wc]; rfl, mv hU wc, mv hU wz, hp.2.2.1, hp.2.2.2⟩)
    (fun m meth c A a g mk Y hp => ⟨hp.1, wtrans hZ Y.warmed, hp.2.1, (at' Y).1, fun x hx => ⟨(at' Y).safe (hS x (hP x hx)).2 (hS x (hP x hx)).1, (hS x (hP x hx)).2⟩⟩) (fun _ _ _ _ _ _ _ _ _ => trivial)
    (fun _ _ _ _ ⟨v, L, h1, h2, h3, h4, h5⟩ => ⟨L, _, _, h5, rfl, rfl, ⟨v, h1, h2, h4⟩, h3⟩)
    (fun m meth c A a g mk v t L k n Y hp _ _ ⟨e1, e2, ⟨v', e3, e4, e6⟩, e5⟩ => by
      cases e3; subst e1 e2
      refine ⟨L, e4, rfl, rfl, rfl, (at' Y).trans ?_, e6⟩
      rw [← hp.2.1]; exact e5)
theorem own_Ok.called {U : State} (O : own_Ok s0 s EL P Z n0 h) (hS : s.Since U.vm U.heap.size) (g : h.size ≤ U.heap.size) (O' : Old Z n0 U.heap) (A : CHr Z EL s.vm h U.vm U.heap) : own_Ok s0 (s.setVm U.vm) EL P Z n0 U.heap := by
  obtain ⟨-, ⟨e1, k0, e2, e3⟩, e4, e5, e6⟩ := O
  refine ⟨O', ⟨by rw [e1]; rfl, _, e2.trans (vm₂ := U.vm) (by rw [← e1]; exact hS) (Nat.le_trans e3 g), Nat.le_refl _⟩, e4, e5.trans A, fun x hx => ⟨A.safe (e6 x hx).2 (e6 x hx).1, Nat.lt_of_lt_of_le (e6 x hx).2 g⟩⟩

theorem own_callSM (X : own_At G p l e R s0 s EL P m args below meth c Z n0 own nm bytes maxL ret T h cells slots) {pc pc' cells' slots' : Nat} {Ls : Array Slot} {st argsL rest : List Value} {i W : Nat} {as' : Array Value} {Q : Option Value → Heap → Prop} {rm : Room} {P' : List Addr} {y : MethodName} {bytes' : ByteArray} {maxL' : Nat} {ret' : Option FieldType} (w1 : (Cond.methodLink own i y).before a0 Z = true) (w2 : (Cond.static y).before a0 Z = true) (hy : y.cls ≠ "java/lang/invoke/MethodHandle" ∧ y.cls ≠ "java/lang/invoke/VarHandle") (M : own_Met l Z EL P' ro n0 y bytes' maxL' ret' rm as' h Q) (hPP : ∀ x ∈ P', x ∈ P) (wc : (Jvm.Cond.code y bytes' maxL' ret').before a0 Z = true) (wz : (Jvm.Cond.initialized y.cls).before a0 Z = true) (hf : rm.frames + 1 ≤ R.frames) (hlo : W + (maxL' + 11) + rm.locals ≤ R.locals) (hsz : Ls.size = maxL) (hlen : ∀ sig, parseMethodDescriptor y.desc = some sig → argsL.length = sig.parameters.length) (hs : st = argsL.reverse ++ rest) (hW : (rest.map fun v => v.category).sum = W) (hd : decode bytes pc = .ok (.invokestatic i, 3)) (hp : pc' = pc + 3) (ha : argsL.toArray = as') (ec : cells' = cells + rm.cells) (es : slots' = slots + rm.slots) (hc : cells' ≤ R.cells) (hl : slots' ≤ R.slots)
    (k : ∀ v T' h' s', own_At G p l e R s0 s' EL P m args below meth c Z n0 own nm bytes maxL ret T' h' cells' slots' → Q v h' → (ro = true → ∀ b, v = some (.ref b) → Safe Z EL s'.vm h' b ∧ b < h'.size) → G T' (mkF m pc' Ls (v.toList ++ rest))) : G T (mkF m pc Ls st) := by
  obtain ⟨hG, ⟨c1, c2, hZ, hown, c5, c6⟩, L, X, N, eT, O⟩ := X
  subst hp ec es ha hs
  obtain ⟨v, vm₁, ⟨T', L', k', n'⟩, -, X', hS, hg, ⟨Lc, hq, l', y', z', hA, hRs⟩, st'⟩ := callSS X c1 hown (mvT hZ w1) (mvT hZ w2) (mvT hZ wz) (mvT hZ wc) hy (own_back M hZ O hPP wc wz hf hlo) (g := mkF m pc Ls (argsL.reverse ++ rest)) rfl (hsz.trans c5.symm) hlen rfl (by show 2 * 0 + _ ≤ _; rw [hW]; omega) (hb c2 hd) (fun _ _ => ⟨rfl, eT, hc, hl⟩)
  dsimp only [Pt.U, Pt.locs, Pt.cells, Pt.slots] at X' l' y' z' st' hq hS hg hA hRs
  subst l' y' z'
  obtain ⟨q1, q2, q3⟩ := hq
  rw [eT] at hg
  exact hG _ _ _ _ (fun t q => st'.trans q) (k _ _ _ (s.setVm T'.vm) ⟨hG, ⟨c1, c2, State.Warmed39.trans (t := s) hZ hS.1, (hS.1.alike.findClass _ _).trans hown, c5, c6⟩, _, X', Fr.app N q2, rfl, O.called hS hg q3 hA⟩ q1 hRs)
theorem own_callIM (X : own_At G p l e R s0 s EL P m args below meth c Z n0 own nm bytes maxL ret T h cells slots) {pc pc' cells' slots' : Nat} {Ls : Array Slot} {st argsL rest : List Value} {i W : Nat} {as' : Array Value} {Q : Option Value → Heap → Prop} {rm : Room} {P' : List Addr} {y : MethodName} {bytes' : ByteArray} {maxL' : Nat} {a : Addr} (w1 : (Cond.methodLink own i y).before a0 Z = true) (w2 : (Cond.instanceMethod y).before a0 Z = true) (hy0 : y.name = "<init>") (hy : y.cls ≠ "java/lang/invoke/MethodHandle" ∧ y.cls ≠ "java/lang/invoke/VarHandle") (M : own_Met l Z EL P' ro n0 y bytes' maxL' none rm as' h Q) (hPP : ∀ x ∈ P', x ∈ P) (wc : (Jvm.Cond.code y bytes' maxL' none).before a0 Z = true) (wz : (Jvm.Cond.initialized y.cls).before a0 Z = true) (hf : rm.frames + 1 ≤ R.frames) (hlo : W + (maxL' + 11) + rm.locals ≤ R.locals) (hsz : Ls.size = maxL) (hlen : ∀ sig, parseMethodDescriptor y.desc = some sig → argsL.length = sig.parameters.length) (hs : st = argsL.reverse ++ Value.ref a :: rest) (hW : (rest.map fun v => v.category).sum = W) (hd : decode bytes pc = .ok (.invokespecial i, 3)) (hp : pc' = pc + 3) (ha : (Value.ref a :: argsL).toArray = as') (ec : cells' = cells + rm.cells) (es : slots' = slots + rm.slots) (hc : cells' ≤ R.cells) (hl : slots' ≤ R.slots)
    (k : ∀ v T' h' s', own_At G p l e R s0 s' EL P m args below meth c Z n0 own nm bytes maxL ret T' h' cells' slots' → Q v h' → (ro = true → ∀ b, v = some (.ref b) → Safe Z EL s'.vm h' b ∧ b < h'.size) → G T' (mkF m pc' Ls (v.toList ++ rest))) : G T (mkF m pc Ls st) := by
  obtain ⟨hG, ⟨c1, c2, hZ, hown, c5, c6⟩, L, X, N, eT, O⟩ := X
  subst hp ec es ha hs
  obtain ⟨v, vm₁, ⟨T', L', k', n'⟩, -, X', hS, hg, ⟨Lc, hq, l', y', z', hA, hRs⟩, st'⟩ := X.specialBackS c1 hy0 hown (mvT hZ w1) (mvT hZ w2) (mvT hZ wc) hy (own_back M hZ O hPP wc wz hf hlo) (g := mkF m pc Ls (argsL.reverse ++ Value.ref a :: rest)) rfl (hsz.trans c5.symm) (Steps.refl _) hlen rfl (by show 2 * 0 + _ ≤ _; rw [hW]; omega) (hb c2 hd) (fun _ _ => ⟨rfl, eT, hc, hl⟩)
  dsimp only [Pt.U, Pt.locs, Pt.cells, Pt.slots] at X' l' y' z' st' hq hS hg hA hRs
  subst l' y' z'
  obtain ⟨q1, q2, q3⟩ := hq
  rw [eT] at hg
  exact hG _ _ _ _ (fun t q => st'.trans q) (k _ _ _ (s.setVm T'.vm) ⟨hG, ⟨c1, c2, State.Warmed39.trans (t := s) hZ hS.1, (hS.1.alike.findClass _ _).trans hown, c5, c6⟩, _, X', Fr.app N q2, rfl, O.called hS hg q3 hA⟩ q1 hRs)
theorem own_callVM (X : own_At G p l e R s0 s EL P m args below meth c Z n0 own nm bytes maxL ret T h cells slots) {pc pc' cells' slots' : Nat} {Ls : Array Slot} {st argsL rest : List Value} {i W : Nat} {as' : Array Value} {Q : Option Value → Heap → Prop} {rm : Room} {P' : List Addr} {y z : MethodName} {C : String} {a : Addr} {bytes' : ByteArray} {maxL' : Nat} {ret' : Option FieldType} (w1 : (Cond.methodLink own i y).before a0 Z = true) (w2 : (Cond.declares y).before a0 Z = true) (nf : ∀ s' : State, Z.Warmed39 s'.vm → NotFace s' y) (w3 : (Cond.selects C y z).before a0 Z = true) (w4 : (Cond.instanceMethod z).before a0 Z = true) (hy : y.cls ≠ "java/lang/invoke/MethodHandle" ∧ y.cls ≠ "java/lang/invoke/VarHandle") (E : Exa Z h a C) (M : own_Met l Z EL P' ro n0 z bytes' maxL' ret' rm as' h Q) (hPP : ∀ x ∈ P', x ∈ P) (wc : (Jvm.Cond.code z bytes' maxL' ret').before a0 Z = true) (wz : (Jvm.Cond.initialized z.cls).before a0 Z = true) (hf : rm.frames + 1 ≤ R.frames) (hlo : W + (maxL' + 11) + rm.locals ≤ R.locals) (hsz : Ls.size = maxL) (hlen : ∀ sig, parseMethodDescriptor y.desc = some sig → argsL.length = sig.parameters.length) (hs : st = argsL.reverse ++ Value.ref a :: rest) (hW : (rest.map fun v => v.category).sum = W) (hd : decode bytes pc = .ok (.invokevirtual i, 3)) (hp : pc' = pc + 3) (ha : (Value.ref a :: argsL).toArray = as') (ec : cells' = cells + rm.cells) (es : slots' = slots + rm.slots) (hc : cells' ≤ R.cells) (hl : slots' ≤ R.slots)
    (k : ∀ v T' h' s', own_At G p l e R s0 s' EL P m args below meth c Z n0 own nm bytes maxL ret T' h' cells' slots' → Q v h' → (ro = true → ∀ b, v = some (.ref b) → Safe Z EL s'.vm h' b ∧ b < h'.size) → G T' (mkF m pc' Ls (v.toList ++ rest))) : G T (mkF m pc Ls st) := by
  obtain ⟨hG, ⟨c1, c2, hZ, hown, c5, c6⟩, L, X, N, eT, O⟩ := X
  subst hp ec es ha hs
  obtain ⟨v, vm₁, ⟨T', L', k', n'⟩, -, X', hS, hg, ⟨Lc, hq, l', y', z', hA, hRs⟩, st'⟩ := (have ⟨_, _, q1, _, q3⟩ := isOf hZ eT E; X.virtualBackS c1 hown (mvT hZ w1) (mvT hZ w2) (nf s hZ) (mvT hZ w3) (mvT hZ w4) hy (own_back M hZ O hPP wc wz hf hlo) q1 q3 (g := mkF m pc Ls (argsL.reverse ++ Value.ref a :: rest)) rfl (hsz.trans c5.symm) (Steps.refl _) hlen rfl (by show 2 * 0 + _ ≤ _; rw [hW]; omega) (hb c2 hd) (fun _ _ => ⟨rfl, eT, hc, hl⟩))
  dsimp only [Pt.U, Pt.locs, Pt.cells, Pt.slots] at X' l' y' z' st' hq hS hg hA hRs
  subst l' y' z'
  obtain ⟨q1, q2, q3⟩ := hq
  rw [eT] at hg
  exact hG _ _ _ _ (fun t q => st'.trans q) (k _ _ _ (s.setVm T'.vm) ⟨hG, ⟨c1, c2, State.Warmed39.trans (t := s) hZ hS.1, (hS.1.alike.findClass _ _).trans hown, c5, c6⟩, _, X', Fr.app N q2, rfl, O.called hS hg q3 hA⟩ q1 hRs)
theorem own_callFM (X : own_At G p l e R s0 s EL P m args below meth c Z n0 own nm bytes maxL ret T h cells slots) {pc pc' cells' slots' : Nat} {Ls : Array Slot} {st argsL rest : List Value} {i W : Nat} {as' : Array Value} {Q : Option Value → Heap → Prop} {rm : Room} {P' : List Addr} {y z : MethodName} {C : String} {a : Addr} {cnt : Nat} {bytes' : ByteArray} {maxL' : Nat} {ret' : Option FieldType} (w1 : (Cond.methodLink own i y).before a0 Z = true) (w2 : (Cond.declares y).before a0 Z = true) (wf : ∀ (s' : State) (a' : Array Value), Z.Warmed39 s'.vm → (Cond.interfaceMethod y.cls y.cls y.name y.desc).before a' s' = true) (w3 : (Cond.selects C y z).before a0 Z = true) (w4 : (Cond.instanceMethod z).before a0 Z = true) (w5 : (Cond.publicMethod z).before a0 Z = true) (w6 : (Cond.unhidden C y.name y.desc).before a0 Z = true) (w7 : (Cond.castable C y.cls).before a0 Z = true) (hy : y.cls ≠ "java/lang/invoke/MethodHandle" ∧ y.cls ≠ "java/lang/invoke/VarHandle") (E : Exa Z h a C) (M : own_Met l Z EL P' ro n0 z bytes' maxL' ret' rm as' h Q) (hPP : ∀ x ∈ P', x ∈ P) (wc : (Jvm.Cond.code z bytes' maxL' ret').before a0 Z = true) (wz : (Jvm.Cond.initialized z.cls).before a0 Z = true) (hf : rm.frames + 1 ≤ R.frames) (hlo : W + (maxL' + 11) + rm.locals ≤ R.locals) (hsz : Ls.size = maxL) (hlen : ∀ sig, parseMethodDescriptor y.desc = some sig → argsL.length = sig.parameters.length) (hs : st = argsL.reverse ++ Value.ref a :: rest) (hW : (rest.map fun v => v.category).sum = W) (hd : decode bytes pc = .ok (.invokeinterface i cnt, 5)) (hp : pc' = pc + 5) (ha : (Value.ref a :: argsL).toArray = as') (ec : cells' = cells + rm.cells) (es : slots' = slots + rm.slots) (hc : cells' ≤ R.cells) (hl : slots' ≤ R.slots)
    (k : ∀ v T' h' s', own_At G p l e R s0 s' EL P m args below meth c Z n0 own nm bytes maxL ret T' h' cells' slots' → Q v h' → (ro = true → ∀ b, v = some (.ref b) → Safe Z EL s'.vm h' b ∧ b < h'.size) → G T' (mkF m pc' Ls (v.toList ++ rest))) : G T (mkF m pc Ls st) := by
  obtain ⟨hG, ⟨c1, c2, hZ, hown, c5, c6⟩, L, X, N, eT, O⟩ := X
  subst hp ec es ha hs
  obtain ⟨v, vm₁, ⟨T', L', k', n'⟩, -, X', hS, hg, ⟨Lc, hq, l', y', z', hA, hRs⟩, st'⟩ := (have ⟨_, _, q1, q2, q3⟩ := isOf hZ eT E; X.interfaceBackS c1 hown (mvT hZ w1) (mvT hZ w2) (wf s args hZ) (mvT hZ w3) (mvT hZ w4) (mvT hZ w5) (mvT hZ w6) (mvT hZ w7) hy (own_back M hZ O hPP wc wz hf hlo) q1 q2 q3 (g := mkF m pc Ls (argsL.reverse ++ Value.ref a :: rest)) rfl (hsz.trans c5.symm) (Steps.refl _) hlen rfl (by show 2 * 0 + _ ≤ _; rw [hW]; omega) (hb c2 hd) (fun _ _ => ⟨rfl, eT, hc, hl⟩))
  dsimp only [Pt.U, Pt.locs, Pt.cells, Pt.slots] at X' l' y' z' st' hq hS hg hA hRs
  subst l' y' z'
  obtain ⟨q1, q2, q3⟩ := hq
  rw [eT] at hg
  exact hG _ _ _ _ (fun t q => st'.trans q) (k _ _ _ (s.setVm T'.vm) ⟨hG, ⟨c1, c2, State.Warmed39.trans (t := s) hZ hS.1, (hS.1.alike.findClass _ _).trans hown, c5, c6⟩, _, X', Fr.app N q2, rfl, O.called hS hg q3 hA⟩ q1 hRs)
theorem own_ldcO (X : own_At G p l e R s0 s EL P m args below meth c Z n0 own nm bytes maxL ret T h cells slots) {pc pc' cells' slots' : Nat} {Ls : Array Slot} {st : List Value} {i n : Nat} {text : String} (w : (Cond.stringLink own i text).before a0 Z = true) (wS : ∀ a ∈ Bundle.stringAtoms, a.before a0 Z = true) (hn : 4 * text.toList.length ≤ n) (hbig : n ≤ 536870912) (hd : decode bytes pc = .ok (.ldc i, 2)) (hp : pc' = pc + 2) (ec : cells' = cells + 2) (es : slots' = slots + (n + 4)) (hc : cells' ≤ R.cells) (hl : slots' ≤ R.slots)
    (k : ∀ T' h' s' a, own_At G p l e R s0 s' EL P m args below meth c Z n0 own nm bytes maxL ret T' h' cells' slots' → Keep h h' [] → G T' (mkF m pc' Ls (.ref a :: st))) : G T (mkF m pc Ls st) := by
  obtain ⟨hG, ⟨c1, c2, hZ, hown, c5⟩, L, X, N, eT, O⟩ := X
  subst hp ec es
  obtain ⟨O1, ⟨e1, k0, e2, e3⟩, ⟨a1, e4⟩, e5, e6⟩ := O
  obtain ⟨a, T', h', k1, X', e', E', hS, hk1, hW, hf, hC, -, st'⟩ := ldcOH (s := s0) (vm0 := s.vm) (a0 := a0) (EL := EL) (e1 ▸ X) c1 hZ hown w wS eT e2 e3 (fun p hp => by obtain ⟨tx, q1, q2⟩ := e4 p hp; exact ⟨tx, Eq.trans rfl q1, q2⟩) e5.1 (g := mkF m pc Ls st) rfl (hb c2 hd) hn hbig hc hl
  exact hG _ _ _ _ st' (k _ _ _ a ⟨hG, ⟨c1, c2, hW, hf, c5⟩, _, X', N, e', O1.ext E', ⟨rfl, k1, hS, hk1⟩, ⟨a1, e4⟩, e5.trans hC, fun x hx => ⟨hC.safe (e6 x hx).2 (e6 x hx).1, Nat.lt_of_lt_of_le (e6 x hx).2 E'.1⟩⟩ ((Keep.refl _ _).ext E'))
theorem own_ldcR (X : own_At G p l e R s0 s EL P m args below meth c Z n0 own nm bytes maxL ret T h cells slots) {pc pc' cells' slots' : Nat} {Ls : Array Slot} {st : List Value} {i n : Nat} {text : String} {vs : List Value} (w : (Cond.stringLink own i text).before a0 Z = true) (wS : ∀ a ∈ Bundle.stringAtoms, a.before a0 Z = true) (hmem : (own, i) ∈ EL) (ht : (∀ c ∈ text.toList, c.toNat < 256) ∧ text.toList.map (fun c => Value.int (Jvm.Lit.byteI c.toNat.toUInt16)) = vs) (hlv : vs.length < 2 ^ 31) (hn : 4 * text.toList.length ≤ n) (hbig : n ≤ 536870912) (hd : decode bytes pc = .ok (.ldc i, 2)) (hp : pc' = pc + 2) (ec : cells' = cells + 2) (es : slots' = slots + (n + 4)) (hc : cells' ≤ R.cells) (hl : slots' ≤ R.slots)
    (k : ∀ T' h' s' a t kb, own_At G p l e R s0 s' EL P m args below meth c Z n0 own nm bytes maxL ret T' h' cells' slots' → Keep h h' [] → Exa Z h' a "java/lang/String" → Fld Z h' a "java/lang/String" "coder" "B" (.int 0) → Fld Z h' a "java/lang/String" "value" "[B" (.ref t) → own_Arr Z h' t kb .byte vs → (∀ x ∈ P, x ≠ a ∧ x ≠ t) → G T' (mkF m pc' Ls (.ref a :: st))) : G T (mkF m pc Ls st) := by
  obtain ⟨hG, ⟨c1, c2, hZ, hown, c5⟩, L, X, N, eT, O⟩ := X
  subst hp ec es
  obtain ⟨O1, ⟨e1, k0, e2, e3⟩, ⟨a1, e4⟩, e5, e6⟩ := O
  have hz := len_toInt hlv
  have hz1 : ¬ Int32.ofNat vs.length < 0 := by rw [Int32.lt_iff_toInt_lt, hz]; simp
  have hz2 : (Int32.ofNat vs.length).toNatClampNeg = vs.length := by simp only [Int32.toNatClampNeg, hz]; omega
  obtain ⟨a, T', h', k1, t, kb, X', e', E', hS, hk1, hW, hf, hx1, hx2, hx3, hx4, hx5, hx6, hC, -, hne, st'⟩ := ldcCH (s := s0) (vm0 := s.vm) (a0 := a0) (EL := EL) (e1 ▸ X) c1 hZ hown w wS eT e2 e3 (fun p hp => by obtain ⟨tx, q1, q2⟩ := e4 p hp; exact ⟨tx, Eq.trans rfl q1, q2⟩) hmem e5.1 ht hz1 hz2 (g := mkF m pc Ls st) rfl (hb c2 hd) hn hbig hc hl
  have hsf : ∀ x ∈ P, Safe Z EL T'.vm h' x := fun x hx => hC.safe (e6 x hx).2 (e6 x hx).1
  exact hG _ _ _ _ st' (k _ _ _ a t kb ⟨hG, ⟨c1, c2, hW, hf, c5⟩, _, X', N, e', O1.ext E', ⟨rfl, k1, hS, hk1⟩, ⟨a1, e4⟩, e5.trans hC, fun x hx => ⟨hsf x hx, Nat.lt_of_lt_of_le (e6 x hx).2 E'.1⟩⟩ ((Keep.refl _ _).ext E') hx1 hx2 hx3 (own_Arr.of_arv hx4 hz2) (fun x hx => hne x (hsf x hx)))

theorem own_callPM (X : own_At G p l e R s0 s EL P m args below meth c Z n0 own nm bytes maxL ret T h cells slots) {pc pc' cells' slots' : Nat} {Ls : Array Slot} {st argsL rest : List Value} {i W : Nat} {as' : Array Value} {Q : Option Value → Heap → Prop} {rm : Room} {P' : List Addr} {y : MethodName} {a : Addr} {C : String} {ki : Nat} {bytes' : ByteArray} {maxL' : Nat} {ret' : Option FieldType} (w1 : (Cond.methodLink own i y).before a0 Z = true) (w2 : (Cond.instanceMethod y).before a0 Z = true) (w3 : (Cond.privateMethod y).before a0 Z = true) (wi : (Cond.instantiable y.cls ki).before a0 Z = true) (hy : y.cls ≠ "java/lang/invoke/MethodHandle" ∧ y.cls ≠ "java/lang/invoke/VarHandle") (E : Exa Z h a C) (M : own_Met l Z EL P' ro n0 y bytes' maxL' ret' rm as' h Q) (hPP : ∀ x ∈ P', x ∈ P) (wc : (Jvm.Cond.code y bytes' maxL' ret').before a0 Z = true) (wz : (Jvm.Cond.initialized y.cls).before a0 Z = true) (hf : rm.frames + 1 ≤ R.frames) (hlo : W + (maxL' + 11) + rm.locals ≤ R.locals) (hsz : Ls.size = maxL) (hlen : ∀ sig, parseMethodDescriptor y.desc = some sig → argsL.length = sig.parameters.length) (hs : st = argsL.reverse ++ Value.ref a :: rest) (hW : (rest.map fun v => v.category).sum = W) (hd : decode bytes pc = .ok (.invokevirtual i, 3)) (hp : pc' = pc + 3) (ha : (Value.ref a :: argsL).toArray = as') (ec : cells' = cells + rm.cells) (es : slots' = slots + rm.slots) (hc : cells' ≤ R.cells) (hl : slots' ≤ R.slots)
    (k : ∀ v T' h' s', own_At G p l e R s0 s' EL P m args below meth c Z n0 own nm bytes maxL ret T' h' cells' slots' → Q v h' → (ro = true → ∀ b, v = some (.ref b) → Safe Z EL s'.vm h' b ∧ b < h'.size) → G T' (mkF m pc' Ls (v.toList ++ rest))) : G T (mkF m pc Ls st) := by
  obtain ⟨hG, ⟨c1, c2, hZ, hown, c5, c6⟩, L, X, N, eT, O⟩ := X
  subst hp ec es ha hs
  obtain ⟨cell, hcell, hobj⟩ := E.cell
  obtain ⟨mk, methM, hnamed, hmethM, hstM, habM⟩ := Cond.instanceMethod_spec (mvT (args := args) hZ w2)
  obtain ⟨methM', cM, hmethM', -, -, -, -, -, -, hsigM⟩ := Cond.code_spec hnamed (mvT (args := args) hZ wc)
  cases hmethM.symm.trans hmethM'
  obtain ⟨ci, kP, hfI, hkP, -, hflag, -⟩ := Cond.instantiable_spec (mvT (args := args) hZ wi)
  cases (findClass_of_methodNamed hnamed).symm.trans hfI
  have hkPi : kP.isInterface = false := by
    cases hq : kP.isInterface with
    | false => rfl
    | true => rw [hq] at hflag; cases hflag
  have hselP : selectMethod e.platform s.vm cell.cls mk = .method mk := selectMethod_private hmethM (Cond.privateMethod_at (mvP (args := args) hZ w3) mk methM hnamed hmethM)
  obtain ⟨vm₁, X₁, hstep₁⟩ := X.invokevirtual c1 hown (mvT hZ w1) hnamed hmethM hstM hkP hkPi hy (a := a) (cell := cell) (by rw [eT]; exact hcell) hobj hselP hmethM habM hkP hkPi (g := mkF m pc Ls (argsL.reverse ++ Value.ref a :: rest)) rfl (argsL := argsL) (rest := rest) (hlen _ hsigM) rfl (hb c2 hd)
  obtain ⟨v, ⟨T', L', k', n'⟩, X', hS, hg, ⟨Lc, hq, l', y', z', hA, hRs⟩, hsteps⟩ := own_back M hZ O hPP wc wz hf hlo m meth c ⟨T.setVm vm₁, L, cells, slots⟩ { mkF m pc Ls (argsL.reverse ++ Value.ref a :: rest) with stack := rest } (.invokevirtual i) mk (.ref a :: argsL).toArray X₁ rfl (hsz.trans c5.symm) (hb c2 hd) (by show 2 * 0 + _ ≤ _; rw [hW]; omega) (X₁.named hnamed) ⟨rfl, eT, hc, hl⟩
  dsimp only [Pt.U, Pt.locs, Pt.cells, Pt.slots] at X' l' y' z' hsteps hq hS hg hA hRs
  subst l' y' z'
  obtain ⟨q1, q2, q3⟩ := hq
  rw [show (T.setVm vm₁).heap = h from eT] at hg
  exact hG _ _ _ _ (fun t q => hstep₁ _ fun acts => by rw [doInvoke_state]; exact hsteps.trans q) (k _ _ _ (s.setVm T'.vm) ⟨hG, ⟨c1, c2, State.Warmed39.trans (t := s) hZ hS.1, (hS.1.alike.findClass _ _).trans hown, c5, c6⟩, _, X', Fr.app N q2, rfl, O.called hS hg q3 hA⟩ q1 hRs)
theorem own_ldcF (X : own_At G p l e R s0 s EL P m args below meth c Z n0 own nm bytes maxL ret T h cells slots) {pc pc' : Nat} {Ls : Array Slot} {st : List Value} {i : Nat} {v : UInt32} (w : (Cond.constantFloat own i v).before a0 Z = true) (hd : decode bytes pc = .ok (.ldc i, 2)) (hp : pc' = pc + 2) (k : G T (mkF m pc' Ls (.float v :: st))) : G T (mkF m pc Ls st) := by
  obtain ⟨hG, ⟨c1, c2, hZ, hown, -⟩, L, X, -⟩ := X
  subst hp
  exact hG _ _ _ _ (X.ldcFloatC c1 hown (mvT hZ w) (g := mkF m pc Ls st) rfl (hb c2 hd)) k
theorem own_oldK (O : Old Z n0 h) : Keep Z.heap h [] := (Keep.refl _ _).ext O.2

theorem own_instY (X : own_At G p l e R s0 s EL P m args below meth c Z n0 own nm bytes maxL ret T h cells slots) {pc pc' : Nat} {Ls : Array Slot} {st : List Value} {i : Nat} {K : String} {a : Addr} (w : (Cond.classLink own i K).before a0 Z = true) (F : Ins Z h a K true) (hd : decode bytes pc = .ok (.instanceof i, 3)) (hp : pc' = pc + 3)
    (k : ∀ T', own_At G p l e R s0 s EL P m args below meth c Z n0 own nm bytes maxL ret T' h cells slots → G T' (mkF m pc' Ls (.int 1 :: st))) : G T (mkF m pc Ls (.ref a :: st)) := by
  obtain ⟨hG, ⟨c1, c2, hZ, hown, c5⟩, L, X, N, eT, O⟩ := X
  subst hp
  obtain ⟨T', X', e', st'⟩ := instY X c1 hZ hown w eT F (g := mkF m pc Ls (.ref a :: st)) rfl rfl (hb c2 hd)
  exact hG _ _ _ _ st' (k _ ⟨hG, ⟨c1, c2, hZ, hown, c5⟩, L, X', N, e', O⟩)
theorem own_castY (X : own_At G p l e R s0 s EL P m args below meth c Z n0 own nm bytes maxL ret T h cells slots) {pc pc' : Nat} {Ls : Array Slot} {st : List Value} {i : Nat} {K : String} {a : Addr} (w : (Cond.classLink own i K).before a0 Z = true) (F : Ins Z h a K true) (hd : decode bytes pc = .ok (.checkcast i, 3)) (hp : pc' = pc + 3)
    (k : ∀ T', own_At G p l e R s0 s EL P m args below meth c Z n0 own nm bytes maxL ret T' h cells slots → G T' (mkF m pc' Ls (.ref a :: st))) : G T (mkF m pc Ls (.ref a :: st)) := by
  obtain ⟨hG, ⟨c1, c2, hZ, hown, c5⟩, L, X, N, eT, O⟩ := X
  subst hp
  obtain ⟨T', X', e', st'⟩ := castY X c1 hZ hown w eT F (g := mkF m pc Ls (.ref a :: st)) rfl rfl (hb c2 hd)
  exact hG _ _ _ _ st' (k _ ⟨hG, ⟨c1, c2, hZ, hown, c5⟩, L, X', N, e', O⟩)
theorem own_instN (X : own_At G p l e R s0 s EL P m args below meth c Z n0 own nm bytes maxL ret T h cells slots) {pc pc' : Nat} {Ls : Array Slot} {st : List Value} {i : Nat} {K C : String} {a : Addr} (w : (Cond.classLink own i K).before a0 Z = true) (E : Exa Z h a C) (F : ∃ c t, Z.vm.findClass C = some c ∧ Z.vm.findClass K = some t ∧ Z.vm.assignable c t = false) (hd : decode bytes pc = .ok (.instanceof i, 3)) (hp : pc' = pc + 3)
    (k : ∀ T', own_At G p l e R s0 s EL P m args below meth c Z n0 own nm bytes maxL ret T' h cells slots → G T' (mkF m pc' Ls (.int 0 :: st))) : G T (mkF m pc Ls (.ref a :: st)) := by
  obtain ⟨hG, ⟨c1, c2, hZ, hown, c5⟩, L, X, N, eT, O⟩ := X
  subst hp
  obtain ⟨T', X', e', st'⟩ := instNo X c1 hZ hown w eT E F (g := mkF m pc Ls (.ref a :: st)) rfl rfl (hb c2 hd)
  exact hG _ _ _ _ st' (k _ ⟨hG, ⟨c1, c2, hZ, hown, c5⟩, L, X', N, e', O⟩)
theorem own_instNull (X : own_At G p l e R s0 s EL P m args below meth c Z n0 own nm bytes maxL ret T h cells slots) {pc pc' : Nat} {Ls : Array Slot} {st : List Value} {i : Nat} (hd : decode bytes pc = .ok (.instanceof i, 3)) (hp : pc' = pc + 3)
    (k : G T (mkF m pc' Ls (.int 0 :: st))) : G T (mkF m pc Ls (.null :: st)) := by
  obtain ⟨hG, ⟨c1, c2, hZ, hown, c5⟩, L, X, N, eT, O⟩ := X
  subst hp
  exact hG _ _ _ _ (X.instanceofNull c1 (g := mkF m pc Ls (.null :: st)) rfl rfl (hb c2 hd)) k
theorem own_castNull (X : own_At G p l e R s0 s EL P m args below meth c Z n0 own nm bytes maxL ret T h cells slots) {pc pc' : Nat} {Ls : Array Slot} {st : List Value} {i : Nat} (hd : decode bytes pc = .ok (.checkcast i, 3)) (hp : pc' = pc + 3)
    (k : G T (mkF m pc' Ls (.null :: st))) : G T (mkF m pc Ls (.null :: st)) := by
  obtain ⟨hG, ⟨c1, c2, hZ, hown, c5⟩, L, X, N, eT, O⟩ := X
  subst hp
  exact hG _ _ _ _ (X.checkcastNull c1 (g := mkF m pc Ls (.null :: st)) rfl rfl (hb c2 hd)) k
/-- an object of C, whose superclass S has none, is no K -/
theorem own_no {C S K : String} {n : Nat} (w : (Cond.superclass C S).before a0 Z = true) (wS : (Cond.noSuperclass S).before a0 Z = true) (wi : (Cond.instantiable K n).before a0 Z = true) (hn : C ≠ K) (hS : S ≠ K) : ∃ c t, Z.vm.findClass C = some c ∧ Z.vm.findClass K = some t ∧ Z.vm.assignable c t = false := by
  obtain ⟨t, k', g0, g2, g5, g7, -⟩ := Cond.instantiable_spec wi
  obtain ⟨c, h0⟩ := found_sup w
  obtain ⟨q, k, kp, h1, h2, h3, h4, h5, -, h7⟩ := Cond.superclass_spec h0 w
  obtain ⟨cS, kS, s1, s2, s3, -, -⟩ := Cond.noSuperclass_spec wS
  cases h1.symm.trans s1
  have ne := ids_ne h0 g0 hn
  have neS := ids_ne s1 g0 hS
  have n3 : ∀ fuel, Z.vm.isSubclassAux fuel c t = false := by
    intro fuel
    cases fuel with
    | zero => rfl
    | succ f =>
      cases f with
      | zero => simp [Vm.isSubclassAux, ne, h2, h4]
      | succ f => simp [Vm.isSubclassAux, ne, neS, h2, h4, s2, s3]
  have g7' : k'.isInterface = false := by
    cases hq : k'.isInterface with
    | false => rfl
    | true => rw [hq] at g7; cases g7
  refine ⟨c, t, h0, g0, ?_⟩
  show Z.vm.assignableAux (255 + 1) c t = false
  simp [Vm.assignableAux, ne, h2, g2, h5, g5, g7', Vm.isSubclass, n3]
end OwnKit

section OwnStr
variable {G : State → JFrame → Prop} {p : Program} {l : Launch} {e : Env} {R : Room} {s : State} {m : MethodId} {args : Array Value} {below : List Frame} {meth : Method} {c : Code} {Z : State} {n0 : Nat} {own nm : String} {bytes : ByteArray} {maxL : Nat} {ret : Option FieldType} {T : State} {h : Heap} {cells slots : Nat} {a0 : Array Value} {s0 : State} {EL : List (String × Nat)} {P : List Addr} {ro : Bool}
theorem own_a0 {P : Int32 → Prop} : ∀ x ∈ ([] : List Int32), P x := fun _ q => nomatch q
theorem own_aS {P : Int32 → Prop} {y : Int32} {L : List Int32} (q : P y) (r : ∀ x ∈ L, P x) : ∀ x ∈ y :: L, P x := fun x z => (List.mem_cons.mp z).elim (fun u => u ▸ q) (r x)
def own_CS (Z : State) : Prop := ∃ z : Int32, Sta Z Z.heap "java/lang/String" "COMPACT_STRINGS" "Z" (.int z) ∧ ¬ z = 0
def own_Str (Z : State) (h : Heap) (x t : Addr) (cs : List Int32) : Prop := Exa Z h x "java/lang/String" ∧ Fld Z h x "java/lang/String" "value" "[B" (.ref t) ∧ ∃ (kb : ClassId) (N2 : Int32) (vs : List Value) (cd : Int32), Fld Z h x "java/lang/String" "coder" "B" (.int cd) ∧ Arv Z h t kb .byte N2 vs (.int 0) ∧ StrChars.Road.CodA cs cd N2 vs ∧ (∀ c ∈ cs, ¬ c < 0 ∧ ¬ (65535 : Int32) < c) ∧ cs.length ≤ 4000
theorem own_Str.lt {x t : Addr} {cs : List Int32} (S : own_Str Z h x t cs) : x < h.size := S.1.lt
theorem own_Str.ltt {x t : Addr} {cs : List Int32} (S : own_Str Z h x t cs) : t < h.size := by obtain ⟨-, -, _, _, _, _, -, A, -⟩ := S; exact A.lt
theorem own_Str.keep {h' : Heap} {x t : Addr} {cs : List Int32} {ws : List Addr} (S : own_Str Z h x t cs) (K : Keep h h' ws) (q1 : x ∉ ws) (q2 : t ∉ ws) : own_Str Z h' x t cs := by
  obtain ⟨s1, s2, kb, N2, vs, cd, s3, s4, s5⟩ := S
  exact ⟨s1.keep K, s2.keep K q1, kb, N2, vs, cd, s3.keep K q1, s4.keep K q2, s5⟩
theorem own_nar255 (x : Int32) : nar .char (own_c16 (x &&& 255)) = x &&& 255 := by
  show (own_c16 (x &&& 255)).toUInt32.toUInt16.toUInt32.toInt32 = _
  unfold own_c16; rw [i2c_mask, i2c_mask]
theorem own_255 (x : Int32) : ¬ (x &&& 255) < 0 ∧ ¬ (255 : Int32) < (x &&& 255) := by
  have q := c_and x 255 (by decide)
  have e : (255 : Int32).toInt = 255 := by decide
  rw [Int32.lt_iff_toInt_lt, Int32.lt_iff_toInt_lt]
  rw [e] at q ⊢
  have e0 : (0 : Int32).toInt = 0 := by decide
  rw [e0]; omega
theorem own_up {cs : List Int32} (h : ∀ c ∈ cs, ¬ c < 0 ∧ ¬ (255 : Int32) < c) : ∀ c ∈ cs, ¬ c < 0 ∧ ¬ (65535 : Int32) < c := by
  intro c hc
  refine ⟨(h c hc).1, fun q => (h c hc).2 ?_⟩
  rw [Int32.lt_iff_toInt_lt] at q ⊢
  have e1 : (65535 : Int32).toInt = 65535 := by decide
  have e2 : (255 : Int32).toInt = 255 := by decide
  omega
theorem own_strinit (X : own_At G p l e R s0 s EL P m args below meth c Z n0 own nm bytes maxL ret T h cells slots) {pc pc' cells' slots' : Nat} {Ls : Array Slot} {rest : List Value} {i W n : Nat} {x b : Addr} {kC : ClassId} {cs : List Int32} {v0 c0 : Value} {bytes' : ByteArray} {maxL' : Nat} (hws : ∀ d ∈ StrChars.Road.words, d.before a0 Z = true) (CS : own_CS Z)
    (w1 : (Cond.methodLink own i ⟨"java/lang/String", "<init>", "([C)V"⟩).before a0 Z = true) (w2 : (Cond.instanceMethod ⟨"java/lang/String", "<init>", "([C)V"⟩).before a0 Z = true) (w4 : (Cond.code ⟨"java/lang/String", "<init>", "([C)V"⟩ bytes' maxL' none).before a0 Z = true) (wi : (Cond.instantiable "java/lang/String" 4).before a0 Z = true)
    (E : Exa Z h x "java/lang/String") (V : Fld Z h x "java/lang/String" "value" "[B" v0) (C : Fld Z h x "java/lang/String" "coder" "B" c0) (K : own_Arr Z h b kC .char (cs.map Value.int)) (hx : n0 ≤ x) (hxP : x ∈ P) (hn : cs.length = n) (l0 : 0 < n) (l2 : n ≤ 4000) (hp : ∀ c ∈ cs, ¬ c < 0 ∧ ¬ (255 : Int32) < c) (hfr : 4 ≤ R.frames) (hlo : W + 65 ≤ R.locals)
    (hlen : ∀ sig, parseMethodDescriptor "([C)V" = some sig → 1 = sig.parameters.length) (hsz : Ls.size = maxL) (hW : (rest.map fun v => v.category).sum = W) (hd : decode bytes pc = .ok (.invokespecial i, 3)) (hpc : pc' = pc + 3) (ec : cells' = cells + 1) (es : slots' = slots + n) (hc : cells' ≤ R.cells) (hl : slots' ≤ R.slots)
    (k : ∀ T' h' t, own_At G p l e R s0 s EL P m args below meth c Z n0 own nm bytes maxL ret T' h' cells' slots' → Keep h h' [x] → h.size ≤ t → own_Str Z h' x t cs → G T' (mkF m pc' Ls rest)) : G T (mkF m pc Ls (.ref b :: .ref x :: rest)) := by
  obtain ⟨z, S, hz⟩ := CS
  have hO := own_old X
  have hS := own_sta X S
  have h0 := own_n0 X
  refine own_callI (y := ⟨"java/lang/String", "<init>", "([C)V"⟩) (argsL := [.ref b]) (rest := rest) (a := x) (as' := #[.ref x, .ref b]) (kc := 1) (ks := n) (W := W) (Q := fun v h' => v = none ∧ Keep h h' [x] ∧ ∃ t, h.size ≤ t ∧ own_Str Z h' x t cs) X w1 w2 w4 rfl (by decide)
    (fun hZ => StrChars.Road.backV (W := W) hZ hws (kI := 4) wi (cs := cs) (bs := cs.map (fun c => c.toInt8.toInt32)) (n := n) hx h0 E V C (K.arv (d := .int 0) (N := Int32.ofNat n) (by rw [List.length_map, hn])) hS hz hn rfl l0 l2 hp rfl hfr hlo)
    (fun v h' L q => ?_) hsz hlen rfl hW hd hpc rfl ec es hc hl (fun v T' h' X' q => ?_)
  · obtain ⟨q1, q2, q3, q4, q5, t, kb, q6, q7, q8, q9, q10⟩ := q
    exact ⟨⟨q1, q3, t, q7, q4, q9, kb, _, _, 0, q5, q10, StrChars.Road.codOf hn (fun c hc => (hp c hc).2), own_up hp, by omega⟩, q2, [x], q3, allS ⟨hx, hxP⟩ all0⟩
  · obtain ⟨rfl, q1, t, q2, q3⟩ := q
    exact k T' h' t X' q1 q2 q3
end OwnStr
section OwnStr2
variable {G : State → JFrame → Prop} {p : Program} {l : Launch} {e : Env} {R : Room} {s : State} {m : MethodId} {args : Array Value} {below : List Frame} {meth : Method} {c : Code} {Z : State} {n0 : Nat} {own nm : String} {bytes : ByteArray} {maxL : Nat} {ret : Option FieldType} {T : State} {h : Heap} {cells slots : Nat} {a0 : Array Value} {s0 : State} {EL : List (String × Nat)} {P : List Addr} {ro : Bool}
def own_SF (Z : State) : Prop := ∃ v : Value, Sta Z Z.heap "jdk/internal/util/Preconditions" "SIOOBE_FORMATTER" "Ljava/util/function/BiFunction;" v ∧ v.isRef = true
theorem own_strlen (X : own_At G p l e R s0 s EL P m args below meth c Z n0 own nm bytes maxL ret T h cells slots) {pc pc' : Nat} {Ls : Array Slot} {rest : List Value} {i W : Nat} {x t : Addr} {cs : List Int32}  (hws : ∀ d ∈ StrChars.Road.wordsLen, d.before a0 Z = true) (CS : own_CS Z) 
    (w1 : (Cond.methodLink own i ⟨"java/lang/String", "length", "()I"⟩).before a0 Z = true) (w2 : (Cond.declares ⟨"java/lang/String", "length", "()I"⟩).before a0 Z = true) (w3 : (Cond.selects "java/lang/String" ⟨"java/lang/String", "length", "()I"⟩ ⟨"java/lang/String", "length", "()I"⟩).before a0 Z = true) (w4 : (Cond.instanceMethod ⟨"java/lang/String", "length", "()I"⟩).before a0 Z = true) (wi : (Cond.instantiable "java/lang/String" 4).before a0 Z = true)
    (S1 : own_Str Z h x t cs)  (hfr : 2 ≤ R.frames) (hlo : W + 25 ≤ R.locals)
    (hlen : ∀ sig, parseMethodDescriptor "()I" = some sig → 0 = sig.parameters.length) (hsz : Ls.size = maxL) (hW : (rest.map fun v => v.category).sum = W) (hd : decode bytes pc = .ok (.invokevirtual i, 3)) (hpc : pc' = pc + 3) (hc : cells ≤ R.cells) (hl : slots ≤ R.slots)
    (k : ∀ T', own_At G p l e R s0 s EL P m args below meth c Z n0 own nm bytes maxL ret T' h cells slots → G T' (mkF m pc' Ls ((.int (Int32.ofNat cs.length)) :: rest))) : G T (mkF m pc Ls (.ref x :: rest)) := by
  obtain ⟨z, S, hz⟩ := CS
  have hO := own_old X
  have hS := own_sta X S
  obtain ⟨s1, s2, kb, N2, vs, cd, s3, s4, s5, s6, s7⟩ := S1
  skip
  refine own_callV (y := ⟨"java/lang/String", "length", "()I"⟩) (z := ⟨"java/lang/String", "length", "()I"⟩) (argsL := []) (rest := rest) (a := x) (as' := #[.ref x]) (kc := 0) (ks := 0) (W := W) (QQ := fun v h' L => v = some (.int (Int32.ofNat cs.length)) ∧ L = [] ∧ h' = h) (Q := fun v h' => v = some (.int (Int32.ofNat cs.length)) ∧ h = h') (cells' := cells) (slots' := slots) X w1 w2 (fun s' hZ' => notFace_of_selects (args := #[]) (mvT hZ' w3)) w3 w4 (by decide) s1
    (fun hZ => StrChars.Road.lenW (W := W) hZ hws (kI := 4) wi s1 s2 s3 s4 s5 s6 hS hz s7 hfr hlo)
    (fun v h' L q => ?_) hsz hlen rfl hW hd hpc rfl rfl rfl hc hl (fun v T' h' X' q => ?_)
  · obtain ⟨q1, rfl, q3⟩ := q
    exact ⟨⟨q1, q3.symm⟩, Fr.nil n0, [], by rw [q3]; exact Keep.refl _ _, all0⟩
  · obtain ⟨rfl, rfl⟩ := q
    exact k T' X'
theorem own_strchar (X : own_At G p l e R s0 s EL P m args below meth c Z n0 own nm bytes maxL ret T h cells slots) {pc pc' : Nat} {Ls : Array Slot} {rest : List Value} {i W : Nat} {x t : Addr} {cs : List Int32} {j : Int32} {i' : Nat} {ch : Int32} (hws : ∀ d ∈ StrChars.Road.wordsChN, d.before a0 Z = true) (CS : own_CS Z) (SF : own_SF Z)
    (w1 : (Cond.methodLink own i ⟨"java/lang/String", "charAt", "(I)C"⟩).before a0 Z = true) (w2 : (Cond.declares ⟨"java/lang/String", "charAt", "(I)C"⟩).before a0 Z = true) (w3 : (Cond.selects "java/lang/String" ⟨"java/lang/String", "charAt", "(I)C"⟩ ⟨"java/lang/String", "charAt", "(I)C"⟩).before a0 Z = true) (w4 : (Cond.instanceMethod ⟨"java/lang/String", "charAt", "(I)C"⟩).before a0 Z = true) (wi : (Cond.instantiable "java/lang/String" 4).before a0 Z = true)
    (S1 : own_Str Z h x t cs) (hlat : ∀ c ∈ cs, ¬ 255 < c) (hi : cs[i']? = some ch) (hj : j = Int32.ofNat i') (hfr : 4 ≤ R.frames) (hlo : W + 53 ≤ R.locals)
    (hlen : ∀ sig, parseMethodDescriptor "(I)C" = some sig → 1 = sig.parameters.length) (hsz : Ls.size = maxL) (hW : (rest.map fun v => v.category).sum = W) (hd : decode bytes pc = .ok (.invokevirtual i, 3)) (hpc : pc' = pc + 3) (hc : cells ≤ R.cells) (hl : slots ≤ R.slots)
    (k : ∀ T', own_At G p l e R s0 s EL P m args below meth c Z n0 own nm bytes maxL ret T' h cells slots → G T' (mkF m pc' Ls ((.int ch) :: rest))) : G T (mkF m pc Ls (.int j :: .ref x :: rest)) := by
  obtain ⟨z, S, hz⟩ := CS
  have hO := own_old X
  have hS := own_sta X S
  obtain ⟨s1, s2, kb, N2, vs, cd, s3, s4, s5, s6, s7⟩ := S1
  obtain ⟨fm, SF, rf⟩ := SF
  have hF := own_sta X SF
  have hcd : cd = 0 := by rcases s5 with ⟨e, -⟩ | ⟨-, -, -, c, hc, hq⟩; exact e; exact absurd hq (hlat c hc)
  subst hcd
  refine own_callV (y := ⟨"java/lang/String", "charAt", "(I)C"⟩) (z := ⟨"java/lang/String", "charAt", "(I)C"⟩) (argsL := [.int j]) (rest := rest) (a := x) (as' := #[.ref x, .int j]) (kc := 0) (ks := 0) (W := W) (QQ := fun v h' L => v = some (.int (cs.getD i' 0)) ∧ L = [] ∧ h' = h) (Q := fun v h' => v = some (.int ch) ∧ h = h') (cells' := cells) (slots' := slots) X w1 w2 (fun s' hZ' => notFace_of_selects (args := #[]) (mvT hZ' w3)) w3 w4 (by decide) s1
    (fun hZ => StrChars.Road.chN (W := W) hZ hws (kI := 4) wi s1 s2 s3 s4 s5 s6 hS hz hF rf s7 (List.getElem?_eq_some_iff.mp hi).1 hj hfr hlo)
    (fun v h' L q => ?_) hsz hlen rfl hW hd hpc rfl rfl rfl hc hl (fun v T' h' X' q => ?_)
  · obtain ⟨q1, rfl, q3⟩ := q
    exact ⟨⟨by rw [q1]; simp [List.getD, hi], q3.symm⟩, Fr.nil n0, [], by rw [q3]; exact Keep.refl _ _, all0⟩
  · obtain ⟨rfl, rfl⟩ := q
    exact k T' X'
end OwnStr2
section OwnArr
variable {G : State → JFrame → Prop} {p : Program} {l : Launch} {e : Env} {R : Room} {s : State} {m : MethodId} {args : Array Value} {below : List Frame} {meth : Method} {c : Code} {Z : State} {n0 : Nat} {own nm : String} {bytes : ByteArray} {maxL : Nat} {ret : Option FieldType} {T : State} {h : Heap} {cells slots : Nat} {a0 : Array Value} {s0 : State} {EL : List (String × Nat)} {P : List Addr} {ro : Bool}
theorem own_newarrayE (X : own_At G p l e R s0 s EL P m args below meth c Z n0 own nm bytes maxL ret T h cells slots) {pc pc' cells' slots' : Nat} {Ls : Array Slot} {st : List Value} {aty : ArrayType} {ty : FieldType} {z : Int32} {n : Nat} {dv : Value} {ad : String} (w : (Cond.arrayClass ty).before a0 Z = true) (ht : newarray.typeOf aty = ty) (had : "[" ++ ty.toString = ad) (hdv : defaultValue ty = dv) (hz : z.toInt = n) (hn : n ≤ 60000000) (hd : decode bytes pc = .ok (.newarray aty, 2)) (hp : pc' = pc + 2) (ec : cells' = cells + 1) {cap : Nat} (hcap : n ≤ cap) (hbig : cap ≤ 60000000) (es : slots' = slots + cap) (hc : cells' ≤ R.cells) (hl : slots' ≤ R.slots)
    (k : ∀ T' h' a kc, a = h.size → own_At G p l e R s0 s EL P m args below meth c Z n0 own nm bytes maxL ret T' h' cells' slots' → Keep h h' [] → own_Arr Z h' a kc ty (List.replicate n dv) → Exa Z h' a ad → G T' (mkF m pc' Ls (.ref a :: st))) : G T (mkF m pc Ls (.int z :: st)) := by
  obtain ⟨hG, ⟨c1, c2, hZ, c5⟩, L, X, N, eT, O⟩ := X
  subst hp ec es ht hdv
  have hz0 : ¬ z < 0 := by rw [Int32.lt_iff_toInt_lt, hz]; simp
  have hzn : z.toNatClampNeg = n := by simp only [Int32.toNatClampNeg, hz]; omega
  obtain ⟨T', h', cA, X', e', E', A', F', st'⟩ := newPE X c1 hZ w eT (g := mkF m pc Ls (.int z :: st)) rfl (hb c2 hd) rfl hz0 (cap := cap) (by omega) (by omega) hc hl had
  refine hG _ _ _ _ st' (k _ _ _ cA rfl ⟨hG, ⟨c1, c2, hZ, c5⟩, _, X', N, e', O.ext E'⟩ ((Keep.refl _ _).ext E') ⟨_, A', rfl, by rw [own_newA, hzn], by simp; omega, fun v hv => ?_⟩ F')
  rw [List.eq_of_mem_replicate hv]; exact own_defit aty
theorem own_anewA (X : own_At G p l e R s0 s EL P m args below meth c Z n0 own nm bytes maxL ret T h cells slots) {pc pc' cells' slots' : Nat} {Ls : Array Slot} {st : List Value} {ty : FieldType} {C ad : String} {i : Nat} {z : Int32} {n : Nat} (hC : (FieldType.array ty).toString = C) (w1 : (Cond.classLink own i C).before a0 Z = true) (w2 : (Cond.arrayOver (.array ty)).before a0 Z = true) (had : "[" ++ C = ad) (hz : z.toInt = n) (hn : n ≤ 60000000) (hd : decode bytes pc = .ok (.anewarray i, 3)) (hp : pc' = pc + 3) (ec : cells' = cells + 1) {cap : Nat} (hcap : n ≤ cap) (hbig : cap ≤ 60000000) (es : slots' = slots + cap) (hc : cells' ≤ R.cells) (hl : slots' ≤ R.slots)
    (k : ∀ T' h' a kc, a = h.size → own_At G p l e R s0 s EL P m args below meth c Z n0 own nm bytes maxL ret T' h' cells' slots' → Keep h h' [] → own_Arr Z h' a kc (.array ty) (List.replicate n .null) → Exa Z h' a ad → OvrA Z kc ty C → G T' (mkF m pc' Ls (.ref a :: st))) : G T (mkF m pc Ls (.int z :: st)) := by
  obtain ⟨hG, ⟨c1, c2, hZ, hown, c5⟩, L, X, N, eT, O⟩ := X
  subst hp ec es
  have hz0 : ¬ z < 0 := by rw [Int32.lt_iff_toInt_lt, hz]; simp
  have hzn : z.toNatClampNeg = n := by simp only [Int32.toNatClampNeg, hz]; omega
  obtain ⟨T', h', cA, X', e', E', A', F', V', st'⟩ := newRA X c1 hZ hown hC w1 w2 eT (g := mkF m pc Ls (.int z :: st)) rfl (hb c2 hd) rfl hz0 (cap := cap) (by omega) (by omega) hc hl had
  refine hG _ _ _ _ st' (k _ _ _ cA rfl ⟨hG, ⟨c1, c2, hZ, hown, c5⟩, _, X', N, e', O.ext E'⟩ ((Keep.refl _ _).ext E') ⟨_, A', rfl, by rw [own_newA, hzn]; rfl, by simp; omega, fun v hv => ?_⟩ F' V')
  rw [List.eq_of_mem_replicate hv]; rfl
theorem own_anewR (X : own_At G p l e R s0 s EL P m args below meth c Z n0 own nm bytes maxL ret T h cells slots) {pc pc' cells' slots' : Nat} {Ls : Array Slot} {st : List Value} {C ad : String} {i : Nat} {z : Int32} {n : Nat} (w1 : (Cond.classLink own i C).before a0 Z = true) (w2 : (Cond.arrayOver (.object C)).before a0 Z = true) (had : "[" ++ (FieldType.object C).toString = ad) (hz : z.toInt = n) (hn : n ≤ 60000000) (hd : decode bytes pc = .ok (.anewarray i, 3)) (hp : pc' = pc + 3) (ec : cells' = cells + 1) {cap : Nat} (hcap : n ≤ cap) (hbig : cap ≤ 60000000) (es : slots' = slots + cap) (hc : cells' ≤ R.cells) (hl : slots' ≤ R.slots)
    (k : ∀ T' h' a kc, a = h.size → own_At G p l e R s0 s EL P m args below meth c Z n0 own nm bytes maxL ret T' h' cells' slots' → Keep h h' [] → own_Arr Z h' a kc (.object C) (List.replicate n .null) → Exa Z h' a ad → Ovr Z kc C → G T' (mkF m pc' Ls (.ref a :: st))) : G T (mkF m pc Ls (.int z :: st)) := by
  obtain ⟨hG, ⟨c1, c2, hZ, hown, c5⟩, L, X, N, eT, O⟩ := X
  subst hp ec es
  have hz0 : ¬ z < 0 := by rw [Int32.lt_iff_toInt_lt, hz]; simp
  have hzn : z.toNatClampNeg = n := by simp only [Int32.toNatClampNeg, hz]; omega
  obtain ⟨T', h', cA, X', e', E', A', F', V', st'⟩ := newRE X c1 hZ hown w1 w2 eT (g := mkF m pc Ls (.int z :: st)) rfl (hb c2 hd) rfl hz0 (cap := cap) (by omega) (by omega) hc hl had
  refine hG _ _ _ _ st' (k _ _ _ cA rfl ⟨hG, ⟨c1, c2, hZ, hown, c5⟩, _, X', N, e', O.ext E'⟩ ((Keep.refl _ _).ext E') ⟨_, A', rfl, by rw [own_newA, hzn]; rfl, by simp; omega, fun v hv => ?_⟩ F' V')
  rw [List.eq_of_mem_replicate hv]; rfl
theorem own_stoA {a y : Addr} {kc : ClassId} {t0 ty : FieldType} {vs : List Value} {C : String} (F : own_Arr Z h a kc t0 vs) (O : OvrA Z kc ty C) (I : Ins Z h y C true) : Sto Z h a (.ref y) := by
  obtain ⟨c, A, q, -⟩ := F; exact Sto.ofVA A q O I
theorem own_stoR {a y : Addr} {kc : ClassId} {t0 : FieldType} {vs : List Value} {C : String} (F : own_Arr Z h a kc t0 vs) (O : Ovr Z kc C) (I : Ins Z h y C true) : Sto Z h a (.ref y) := by
  obtain ⟨c, A, q, -⟩ := F; exact Sto.ofV A q O I
theorem own_aastore (X : own_At G p l e R s0 s EL P m args below meth c Z n0 own nm bytes maxL ret T h cells slots) {pc pc' : Nat} {Ls : Array Slot} {st : List Value} {a : Addr} {kc : ClassId} {ty : FieldType} {vs : List Value} {j : Int32} {i : Nat} {v : Value} (F : own_Arr Z h a kc ty vs) (hty : ty.isReference = true) (hfit : fits ty v = true) (S : Sto Z h a v) (hj : j.toInt = i) (hi : i < vs.length) (ha : n0 ≤ a) (hd : decode bytes pc = .ok (.aastore, 1)) (hp : pc' = pc + 1)
    (k : ∀ T' h', own_At G p l e R s0 s EL P m args below meth c Z n0 own nm bytes maxL ret T' h' cells slots → Keep h h' [a] → own_Arr Z h' a kc ty (vs.set i v) → G T' (mkF m pc' Ls st)) : G T (mkF m pc Ls (v :: .int j :: .ref a :: st)) := by
  obtain ⟨hG, ⟨c1, c2, hZ, c5⟩, L, X, N, eT, O⟩ := X
  subst hp
  have F0 := F
  obtain ⟨cl, A, r1, r2, r3, r4⟩ := F
  have hs : cl.slots.size = vs.length := by rw [← r2]; simp
  obtain ⟨q1, q2⟩ := own_idx hi r3 hj
  obtain ⟨T', h', X', e', W', st'⟩ := stR X c1 hZ eT A (j := j) (by rw [hs]; exact q1) hty S (g := mkF m pc Ls (v :: .int j :: .ref a :: st)) rfl rfl (hb c2 hd)
  have K' := Keep.of_wr W'
  have O' := O.wr W' ha (Safe.arr hZ.alike A (fun q => by subst q; cases hty))
  rw [q2] at W'
  exact hG _ _ _ _ st' (k _ _ ⟨hG, ⟨c1, c2, hZ, c5⟩, _, X', Fr.snoc X' N ha, e', O'⟩ K' (F0.set W' hfit))
theorem own_range {vs : List Value} {sp n : Nat} {dv : Value} (h : sp + n ≤ vs.length) : ((List.range n).map fun i => vs.getD (sp + i) dv) = (vs.drop sp).take n := by
  apply List.ext_getElem
  · simp; omega
  · intro i h1 h2
    simp only [List.length_map, List.length_range] at h1
    simp [List.getD, List.getElem?_eq_getElem (show sp + i < vs.length by omega)]
theorem own_arraycopy (X : own_At G p l e R s0 s EL P m args below meth c Z n0 own nm bytes maxL ret T h cells slots) {pc pc' : Nat} {Ls : Array Slot} {st : List Value} {a b : Addr} {kc kc' : ClassId} {ty ty' : FieldType} {vs vd : List Value} {js jd jn : Int32} {sp dp n i W : Nat}
    (w1 : (Cond.methodLink own i Jvm.Stand.acN).before a0 Z = true) (w2 : (Cond.native Jvm.Stand.acN).before a0 Z = true) (w3 : (Cond.static Jvm.Stand.acN).before a0 Z = true) (w4 : (Cond.initialized "java/lang/System").before a0 Z = true)
    (A : own_Arr Z h a kc ty vs) (B : own_Arr Z h b kc' ty' vd) (hty : (ty = ty' ∧ refKind ty = false) ∨ (refKind ty = true ∧ refKind ty' = true ∧ StoL Z h b ((vs.drop sp).take n))) (e1 : js.toInt = sp) (e2 : jd.toInt = dp) (e3 : jn.toInt = n) (l1 : sp + n ≤ vs.length) (l2 : dp + n ≤ vd.length) (ha : n0 ≤ b) (hnb : ty' ≠ .byte)
    (hsz : Ls.size = maxL) (hW : (st.map fun v => v.category).sum = W) (hd : decode bytes pc = .ok (.invokestatic i, 3)) (hp : pc' = pc + 3) (hf : 1 ≤ R.frames) (hlo : W + (nativeFrameWords "java/lang/System" "arraycopy" 5 + 11) ≤ R.locals)
    (k : ∀ T' h', own_At G p l e R s0 s EL P m args below meth c Z n0 own nm bytes maxL ret T' h' cells slots → Keep h h' [b] → own_Arr Z h' b kc' ty' (vd.take dp ++ (vs.drop sp).take n ++ vd.drop (dp + n)) → G T' (mkF m pc' Ls st)) : G T (mkF m pc Ls (.int jn :: .int jd :: .ref b :: .int js :: .ref a :: st)) := by
  obtain ⟨hG, ⟨c1, c2, hZ, hown, c5, c6⟩, L, X, N, eT, O⟩ := X
  subst hp
  have nn : ∀ {j : Int32} {q : Nat}, j.toInt = q → ¬ j < 0 ∧ j.toNatClampNeg = q := fun {j q} hj => ⟨by rw [Int32.lt_iff_toInt_lt, hj]; simp, by simp only [Int32.toNatClampNeg, hj]; omega⟩
  have la : vs.length < 2 ^ 31 := by obtain ⟨_, -, -, -, q, -⟩ := A; exact q
  have lb : vd.length < 2 ^ 31 := by obtain ⟨_, -, -, -, q, -⟩ := B; exact q
  have za : (Int32.ofNat vs.length).toNatClampNeg = vs.length := (nn (len_toInt la)).2
  have zb : (Int32.ofNat vd.length).toNatClampNeg = vd.length := (nn (len_toInt lb)).2
  obtain ⟨T', h', L', X', e', N', K', B', st'⟩ := cpA X c1 hZ hown w1 w2 w3 w4 eT (A.arv (d := .null) rfl) (B.arv (d := .null) rfl) (us := (vs.drop sp).take n) (hty.imp id fun q => q) (sp := js) (dp := jd) (nn := jn) (nn e1).1 (nn e2).1 (nn e3).1 (by rw [(nn e1).2, (nn e3).2, za]; exact l1) (by rw [(nn e2).2, (nn e3).2, zb]; exact l2) (by rw [(nn e1).2, (nn e3).2]; exact (own_range l1).symm) (by rw [(nn e2).2, (nn e3).2]; exact l2) N ha (g := mkF m pc Ls (.int jn :: .int jd :: .ref b :: .int js :: .ref a :: st)) rfl (hsz.trans c5.symm) rfl (hb c2 hd) hf (W := W) (by show 2 * 0 + _ ≤ _; rw [hW]; omega) hlo
  rw [(nn e2).2, (nn e3).2] at B'
  refine hG _ _ _ _ st' (k _ _ ⟨hG, ⟨c1, c2, hZ, hown, c5, c6⟩, _, X', N', e', O.keepS K' (allS ha all0) (allS (by obtain ⟨cb, Ab, -⟩ := B; exact Safe.arr hZ.alike Ab hnb) all0)⟩ K' (own_Arr.of_arv B' ?_))
  rw [zb]; simp; omega
theorem own_mapL {xs : List Int64} {i : Nat} (h : i < xs.length) : (xs.map Value.long)[i]? = some (.long (xs.getD i 0)) := by simp [List.getD, List.getElem?_eq_getElem h]
theorem own_mapI {xs : List Int32} {i : Nat} (h : i < xs.length) : (xs.map Value.int)[i]? = some (.int (xs.getD i 0)) := by simp [List.getD, List.getElem?_eq_getElem h]
theorem own_setL {xs : List Int64} {i : Nat} {x : Int64} : (xs.map Value.long).set i (.long x) = (xs.set i x).map Value.long := List.map_set.symm
theorem own_setI {xs : List Int32} {i : Nat} {x : Int32} : (xs.map Value.int).set i (.int x) = (xs.set i x).map Value.int := List.map_set.symm
theorem own_laloadM (X : own_At G p l e R s0 s EL P m args below meth c Z n0 own nm bytes maxL ret T h cells slots) {pc pc' : Nat} {Ls : Array Slot} {st : List Value} {a : Addr} {kc : ClassId} {xs : List Int64} {j : Int32} {i : Nat} {x : Int64} (F : own_Arr Z h a kc .long (xs.map Value.long)) (hj : j.toInt = i) (hi : i < xs.length) (hx : xs.getD i 0 = x) (hd : decode bytes pc = .ok (.laload, 1)) (hp : pc' = pc + 1) (k : G T (mkF m pc' Ls (.long x :: st))) : G T (mkF m pc Ls (.int j :: .ref a :: st)) :=
  own_laload X F hj (by rw [own_mapL hi, hx]) hd hp k
theorem own_ialoadM (X : own_At G p l e R s0 s EL P m args below meth c Z n0 own nm bytes maxL ret T h cells slots) {pc pc' : Nat} {Ls : Array Slot} {st : List Value} {a : Addr} {kc : ClassId} {xs : List Int32} {j : Int32} {i : Nat} {x : Int32} (F : own_Arr Z h a kc .int (xs.map Value.int)) (hj : j.toInt = i) (hi : i < xs.length) (hx : xs.getD i 0 = x) (hd : decode bytes pc = .ok (.iaload, 1)) (hp : pc' = pc + 1) (k : G T (mkF m pc' Ls (.int x :: st))) : G T (mkF m pc Ls (.int j :: .ref a :: st)) :=
  own_iaload X F hj (by rw [own_mapI hi, hx]) hd hp k
theorem own_lastoreM (X : own_At G p l e R s0 s EL P m args below meth c Z n0 own nm bytes maxL ret T h cells slots) {pc pc' : Nat} {Ls : Array Slot} {st : List Value} {a : Addr} {kc : ClassId} {xs : List Int64} {j : Int32} {i : Nat} {x : Int64} (F : own_Arr Z h a kc .long (xs.map Value.long)) (hj : j.toInt = i) (hi : i < xs.length) (ha : n0 ≤ a) (hd : decode bytes pc = .ok (.lastore, 1)) (hp : pc' = pc + 1)
    (k : ∀ T' h', own_At G p l e R s0 s EL P m args below meth c Z n0 own nm bytes maxL ret T' h' cells slots → Keep h h' [a] → own_Arr Z h' a kc .long ((xs.set i x).map Value.long) → G T' (mkF m pc' Ls st)) : G T (mkF m pc Ls (.long x :: .int j :: .ref a :: st)) :=
  own_lastore X F hj (by simpa using hi) ha hd hp (fun T' h' X' K' A' => k T' h' X' K' (own_setL ▸ A'))
theorem own_iastoreM (X : own_At G p l e R s0 s EL P m args below meth c Z n0 own nm bytes maxL ret T h cells slots) {pc pc' : Nat} {Ls : Array Slot} {st : List Value} {a : Addr} {kc : ClassId} {xs : List Int32} {j : Int32} {i : Nat} {x : Int32} (F : own_Arr Z h a kc .int (xs.map Value.int)) (hj : j.toInt = i) (hi : i < xs.length) (ha : n0 ≤ a) (hd : decode bytes pc = .ok (.iastore, 1)) (hp : pc' = pc + 1)
    (k : ∀ T' h', own_At G p l e R s0 s EL P m args below meth c Z n0 own nm bytes maxL ret T' h' cells slots → Keep h h' [a] → own_Arr Z h' a kc .int ((xs.set i x).map Value.int) → G T' (mkF m pc' Ls st)) : G T (mkF m pc Ls (.int x :: .int j :: .ref a :: st)) :=
  own_iastore X F hj (by simpa using hi) ha hd hp (fun T' h' X' K' A' => k T' h' X' K' (own_setI ▸ A'))
theorem own_neA {a b : Addr} {C : String} {k : Nat} {kc : ClassId} {ty : FieldType} {vs : List Value} (E : Exa Z h a C) (wi : (Cond.instantiable C k).before a0 Z = true) (F : own_Arr Z h b kc ty vs) : a ≠ b := by
  obtain ⟨c, A, -⟩ := F; exact ne_arr E wi A
theorem own_neT {a b : Addr} {kc kc' : ClassId} {ty ty' : FieldType} {vs vs' : List Value} (F : own_Arr Z h a kc ty vs) (F' : own_Arr Z h b kc' ty' vs') (hn : ty ≠ ty') : a ≠ b := fun e => by
  subst e
  obtain ⟨c, A, -⟩ := F
  obtain ⟨c', A', -⟩ := F'
  cases A.1.symm.trans A'.1
  obtain ⟨-, k, h1, comp, h2⟩ := A.2.1
  obtain ⟨-, k', g1, comp', g2⟩ := A'.2.1
  cases h1.symm.trans g1
  rw [h2] at g2; cases g2; exact hn rfl
theorem own_dup_x2 (X : own_At G p l e R s0 s EL P m args below meth c Z n0 own nm bytes maxL ret T h cells slots) {pc pc' : Nat} {Ls : Array Slot} {st : List Value} {x y z : Value} (hd : decode bytes pc = .ok (.dup_x2, 1)) (hp : pc' = pc + 1) (hc : x.category = 1) (hc2 : y.category = 1) (hc3 : z.category = 1) (k : G T (mkF m pc' Ls (x :: y :: z :: x :: st))) : G T (mkF m pc Ls (x :: y :: z :: st)) := by
  obtain ⟨hG, ⟨c1, c2, -⟩, L, X, -⟩ := X
  subst hp
  refine hG _ _ _ _ (fun t q => ?_) k
  jvm_step X.here [X.here.top, c1, hb c2 hd, dup_x2.wp_sem, hc, hc2, hc3]
  exact q
theorem own_dup2 (X : own_At G p l e R s0 s EL P m args below meth c Z n0 own nm bytes maxL ret T h cells slots) {pc pc' : Nat} {Ls : Array Slot} {st : List Value} {x y : Value} (hd : decode bytes pc = .ok (.dup2, 1)) (hp : pc' = pc + 1) (hc : x.category = 1) (hc2 : y.category = 1) (k : G T (mkF m pc' Ls (x :: y :: x :: y :: st))) : G T (mkF m pc Ls (x :: y :: st)) := by
  obtain ⟨hG, ⟨c1, c2, -⟩, L, X, -⟩ := X
  subst hp
  exact hG _ _ _ _ (fun t q => Jvm.Free.XT.dup2 X.here c1 rfl (hb c2 hd) rfl hc hc2 q) k
end OwnArr
def own_EL : List (String × Nat) := [("com/example/tributary/tributary/Location", 30), ("java/lang/String", 7)]
set_option maxRecDepth 65536 in
theorem own_in_atoms : ∀ d ∈ Bundle.stringAtoms, d ∈ tables_1 := by decide +kernel
theorem own_allN {P : String × Nat → Prop} : ∀ x ∈ ([] : List (String × Nat)), P x := fun _ q => nomatch q
theorem own_allP {P : String × Nat → Prop} {y : String × Nat} {L : List (String × Nat)} (q : P y) (r : ∀ x ∈ L, P x) : ∀ x ∈ y :: L, P x := fun x z => (List.mem_cons.mp z).elim (fun u => u ▸ q) (r x)
theorem own_held {s : State} {o : String} {i : Nat} (h : Jvm.Pilot.@@N@@.Jvm.D.constHeld s o i) : Jvm.Lit.constHeld s o i := h
theorem own_cw {s : State} {a a' : Array Value} (h : (Jvm.Cond.not (Jvm.Cond.eq (Jvm.Term.static "java/lang/String" "COMPACT_STRINGS" "Z") (Jvm.Term.int (0 : Int32)))).before a s = true) : Jvm.Lit.compactW.before a' s = true := h
theorem own_StrLit {Z : State} {h : Heap} {x t : Addr} {kb : ClassId} {vs : List Value} {cs : List Int32} (E : Exa Z h x "java/lang/String") (V : Fld Z h x "java/lang/String" "value" "[B" (.ref t)) (C : Fld Z h x "java/lang/String" "coder" "B" (.int 0)) (A : own_Arr Z h t kb .byte vs) (hv : (cs.map fun c => Value.int c.toInt8.toInt32) = vs) (hp : ∀ c ∈ cs, ¬ c < 0 ∧ ¬ (255 : Int32) < c) (hl : cs.length ≤ 4000) : own_Str Z h x t cs :=
  ⟨E, V, kb, _, _, 0, C, A.arv (d := .int 0) rfl, by subst hv; have := StrChars.Road.codOf (cs := cs) rfl (fun c hc => (hp c hc).2); simpa [List.map_map, Function.comp_def, StrChars.lo8] using this, own_up hp, hl⟩
set_option maxRecDepth 65536 in
theorem own_in_words : ∀ d ∈ StrChars.Road.words, d ∈ tables_1 := by decide +kernel
set_option maxRecDepth 65536 in
theorem own_in_wordsLen : ∀ d ∈ StrChars.Road.wordsLen, d ∈ tables_1 := by decide +kernel
set_option maxRecDepth 65536 in
theorem own_in_wordsChN : ∀ d ∈ StrChars.Road.wordsChN, d ∈ tables_1 := by decide +kernel
section OwnSB
variable {G : State → JFrame → Prop} {p : Program} {l : Launch} {e : Env} {R : Room} {s : State} {m : MethodId} {args : Array Value} {below : List Frame} {meth : Method} {c : Code} {Z : State} {n0 : Nat} {own nm : String} {bytes : ByteArray} {maxL : Nat} {ret : Option FieldType} {T : State} {h : Heap} {cells slots : Nat} {a0 : Array Value} {s0 : State} {EL : List (String × Nat)} {P : List Addr} {ro : Bool}
theorem own_callUM (X : own_At G p l e R s0 s EL P m args below meth c Z n0 own nm bytes maxL ret T h cells slots) {pc pc' cells' slots' : Nat} {Ls : Array Slot} {st argsL rest : List Value} {i W : Nat} {as' : Array Value} {Q : Option Value → Heap → Prop} {rm : Room} {P' : List Addr} {y : MethodName} {bytes' : ByteArray} {maxL' : Nat} {ret' : Option FieldType} {a : Addr} {K : String} (w1 : (Cond.methodLink own i y).before a0 Z = true) (w2 : (Cond.sameMethod y.cls y.cls y.name y.desc).before a0 Z = true) (w3 : (Cond.instanceMethod y).before a0 Z = true) (w4 : (Cond.superclass own y.cls).before a0 Z = true) (hn : y.name ≠ "<init>") (F : Ins Z h a K true) (M : own_Met l Z EL P' ro n0 y bytes' maxL' ret' rm as' h Q) (hPP : ∀ x ∈ P', x ∈ P) (wc : (Jvm.Cond.code y bytes' maxL' ret').before a0 Z = true) (wz : (Jvm.Cond.initialized y.cls).before a0 Z = true) (hf : rm.frames + 1 ≤ R.frames) (hlo : W + (maxL' + 11) + rm.locals ≤ R.locals) (hsz : Ls.size = maxL) (hlen : ∀ sig, parseMethodDescriptor y.desc = some sig → argsL.length = sig.parameters.length) (hs : st = argsL.reverse ++ Value.ref a :: rest) (hW : (rest.map fun v => v.category).sum = W) (hd : decode bytes pc = .ok (.invokespecial i, 3)) (hp : pc' = pc + 3) (ha : (Value.ref a :: argsL).toArray = as') (ec : cells' = cells + rm.cells) (es : slots' = slots + rm.slots) (hc : cells' ≤ R.cells) (hl : slots' ≤ R.slots)
    (k : ∀ v T' h' s', own_At G p l e R s0 s' EL P m args below meth c Z n0 own nm bytes maxL ret T' h' cells' slots' → Q v h' → (ro = true → ∀ b, v = some (.ref b) → Safe Z EL s'.vm h' b ∧ b < h'.size) → G T' (mkF m pc' Ls (v.toList ++ rest))) : G T (mkF m pc Ls st) := by
  obtain ⟨hG, ⟨c1, c2, hZ, hown, c5, c6⟩, L, X, N, eT, O⟩ := X
  subst hp ec es ha hs
  obtain ⟨v, vm₁, ⟨T', L', k', n'⟩, -, X', hS, hg, ⟨Lc, hq, l', y', z', hA, hRs⟩, st'⟩ := superBackS X c1 hZ hown w1 w2 w3 w4 hn (own_back M hZ O hPP wc wz hf hlo) eT F (g := mkF m pc Ls (argsL.reverse ++ Value.ref a :: rest)) rfl (hsz.trans c5.symm) wc hlen rfl (by show 2 * 0 + _ ≤ _; rw [hW]; omega) (hb c2 hd) (fun _ _ => ⟨rfl, eT, hc, hl⟩)
  dsimp only [Pt.U, Pt.locs, Pt.cells, Pt.slots] at X' l' y' z' st' hq hS hg hA hRs
  subst l' y' z'
  obtain ⟨q1, q2, q3⟩ := hq
  rw [eT] at hg
  exact hG _ _ _ _ (fun t q => st'.trans q) (k _ _ _ (s.setVm T'.vm) ⟨hG, ⟨c1, c2, State.Warmed39.trans (t := s) hZ hS.1, (hS.1.alike.findClass _ _).trans hown, c5, c6⟩, _, X', Fr.app N q2, rfl, O.called hS hg q3 hA⟩ q1 hRs)
theorem own_callPQ (X : own_At G p l e R s0 s EL P m args below meth c Z n0 own nm bytes maxL ret T h cells slots) {pc pc' cells' slots' : Nat} {Ls : Array Slot} {st argsL rest : List Value} {i W : Nat} {as' : Array Value} {Q : Option Value → Heap → Prop} {rm : Room} {P' : List Addr} {y : MethodName} {a : Addr} {C : String} {D : String} {bytes' : ByteArray} {maxL' : Nat} {ret' : Option FieldType} (w1 : (Cond.methodLink own i y).before a0 Z = true) (w2 : (Cond.instanceMethod y).before a0 Z = true) (w3 : (Cond.privateMethod y).before a0 Z = true) (wi : (Cond.selects D y y).before a0 Z = true) (hy : y.cls ≠ "java/lang/invoke/MethodHandle" ∧ y.cls ≠ "java/lang/invoke/VarHandle") (E : Exa Z h a C) (M : own_Met l Z EL P' ro n0 y bytes' maxL' ret' rm as' h Q) (hPP : ∀ x ∈ P', x ∈ P) (wc : (Jvm.Cond.code y bytes' maxL' ret').before a0 Z = true) (wz : (Jvm.Cond.initialized y.cls).before a0 Z = true) (hf : rm.frames + 1 ≤ R.frames) (hlo : W + (maxL' + 11) + rm.locals ≤ R.locals) (hsz : Ls.size = maxL) (hlen : ∀ sig, parseMethodDescriptor y.desc = some sig → argsL.length = sig.parameters.length) (hs : st = argsL.reverse ++ Value.ref a :: rest) (hW : (rest.map fun v => v.category).sum = W) (hd : decode bytes pc = .ok (.invokevirtual i, 3)) (hp : pc' = pc + 3) (ha : (Value.ref a :: argsL).toArray = as') (ec : cells' = cells + rm.cells) (es : slots' = slots + rm.slots) (hc : cells' ≤ R.cells) (hl : slots' ≤ R.slots)
    (k : ∀ v T' h' s', own_At G p l e R s0 s' EL P m args below meth c Z n0 own nm bytes maxL ret T' h' cells' slots' → Q v h' → (ro = true → ∀ b, v = some (.ref b) → Safe Z EL s'.vm h' b ∧ b < h'.size) → G T' (mkF m pc' Ls (v.toList ++ rest))) : G T (mkF m pc Ls st) := by
  obtain ⟨hG, ⟨c1, c2, hZ, hown, c5, c6⟩, L, X, N, eT, O⟩ := X
  subst hp ec es ha hs
  obtain ⟨cell, hcell, hobj⟩ := E.cell
  obtain ⟨mk, methM, hnamed, hmethM, hstM, habM⟩ := Cond.instanceMethod_spec (mvT (args := args) hZ w2)
  obtain ⟨methM', cM, hmethM', -, -, -, -, -, -, hsigM⟩ := Cond.code_spec hnamed (mvT (args := args) hZ wc)
  cases hmethM.symm.trans hmethM'
  obtain ⟨kP, hkP, hkPi⟩ := notFace_of_selects (mvT (args := args) hZ wi) mk hnamed
  have hselP : selectMethod e.platform s.vm cell.cls mk = .method mk := selectMethod_private hmethM (Cond.privateMethod_at (mvP (args := args) hZ w3) mk methM hnamed hmethM)
  obtain ⟨vm₁, X₁, hstep₁⟩ := X.invokevirtual c1 hown (mvT hZ w1) hnamed hmethM hstM hkP hkPi hy (a := a) (cell := cell) (by rw [eT]; exact hcell) hobj hselP hmethM habM hkP hkPi (g := mkF m pc Ls (argsL.reverse ++ Value.ref a :: rest)) rfl (argsL := argsL) (rest := rest) (hlen _ hsigM) rfl (hb c2 hd)
  obtain ⟨v, ⟨T', L', k', n'⟩, X', hS, hg, ⟨Lc, hq, l', y', z', hA, hRs⟩, hsteps⟩ := own_back M hZ O hPP wc wz hf hlo m meth c ⟨T.setVm vm₁, L, cells, slots⟩ { mkF m pc Ls (argsL.reverse ++ Value.ref a :: rest) with stack := rest } (.invokevirtual i) mk (.ref a :: argsL).toArray X₁ rfl (hsz.trans c5.symm) (hb c2 hd) (by show 2 * 0 + _ ≤ _; rw [hW]; omega) (X₁.named hnamed) ⟨rfl, eT, hc, hl⟩
  dsimp only [Pt.U, Pt.locs, Pt.cells, Pt.slots] at X' l' y' z' hsteps hq hS hg hA hRs
  subst l' y' z'
  obtain ⟨q1, q2, q3⟩ := hq
  rw [show (T.setVm vm₁).heap = h from eT] at hg
  exact hG _ _ _ _ (fun t q => hstep₁ _ fun acts => by rw [doInvoke_state]; exact hsteps.trans q) (k _ _ _ (s.setVm T'.vm) ⟨hG, ⟨c1, c2, State.Warmed39.trans (t := s) hZ hS.1, (hS.1.alike.findClass _ _).trans hown, c5, c6⟩, _, X', Fr.app N q2, rfl, O.called hS hg q3 hA⟩ q1 hRs)
theorem own_arraycopyP (X : own_At G p l e R s0 s EL P m args below meth c Z n0 own nm bytes maxL ret T h cells slots) {pc pc' : Nat} {Ls : Array Slot} {st : List Value} {a b : Addr} {kc kc' : ClassId} {ty ty' : FieldType} {vs vd : List Value} {js jd jn : Int32} {sp dp n i W : Nat}
    (w1 : (Cond.methodLink own i Jvm.Stand.acN).before a0 Z = true) (w2 : (Cond.native Jvm.Stand.acN).before a0 Z = true) (w3 : (Cond.static Jvm.Stand.acN).before a0 Z = true) (w4 : (Cond.initialized "java/lang/System").before a0 Z = true)
    (A : own_Arr Z h a kc ty vs) (B : own_Arr Z h b kc' ty' vd) (hty : (ty = ty' ∧ refKind ty = false) ∨ (refKind ty = true ∧ refKind ty' = true ∧ StoL Z h b ((vs.drop sp).take n))) (e1 : js.toInt = sp) (e2 : jd.toInt = dp) (e3 : jn.toInt = n) (l1 : sp + n ≤ vs.length) (l2 : dp + n ≤ vd.length) (ha : n0 ≤ b) (hnb : b ∈ P)
    (hsz : Ls.size = maxL) (hW : (st.map fun v => v.category).sum = W) (hd : decode bytes pc = .ok (.invokestatic i, 3)) (hp : pc' = pc + 3) (hf : 1 ≤ R.frames) (hlo : W + (nativeFrameWords "java/lang/System" "arraycopy" 5 + 11) ≤ R.locals)
    (k : ∀ T' h', own_At G p l e R s0 s EL P m args below meth c Z n0 own nm bytes maxL ret T' h' cells slots → Keep h h' [b] → own_Arr Z h' b kc' ty' (vd.take dp ++ (vs.drop sp).take n ++ vd.drop (dp + n)) → G T' (mkF m pc' Ls st)) : G T (mkF m pc Ls (.int jn :: .int jd :: .ref b :: .int js :: .ref a :: st)) := by
  obtain ⟨hG, ⟨c1, c2, hZ, hown, c5, c6⟩, L, X, N, eT, O⟩ := X
  subst hp
  have nn : ∀ {j : Int32} {q : Nat}, j.toInt = q → ¬ j < 0 ∧ j.toNatClampNeg = q := fun {j q} hj => ⟨by rw [Int32.lt_iff_toInt_lt, hj]; simp, by simp only [Int32.toNatClampNeg, hj]; omega⟩
  have la : vs.length < 2 ^ 31 := by obtain ⟨_, -, -, -, q, -⟩ := A; exact q
  have lb : vd.length < 2 ^ 31 := by obtain ⟨_, -, -, -, q, -⟩ := B; exact q
  have za : (Int32.ofNat vs.length).toNatClampNeg = vs.length := (nn (len_toInt la)).2
  have zb : (Int32.ofNat vd.length).toNatClampNeg = vd.length := (nn (len_toInt lb)).2
  obtain ⟨T', h', L', X', e', N', K', B', st'⟩ := cpA X c1 hZ hown w1 w2 w3 w4 eT (A.arv (d := .null) rfl) (B.arv (d := .null) rfl) (us := (vs.drop sp).take n) (hty.imp id fun q => q) (sp := js) (dp := jd) (nn := jn) (nn e1).1 (nn e2).1 (nn e3).1 (by rw [(nn e1).2, (nn e3).2, za]; exact l1) (by rw [(nn e2).2, (nn e3).2, zb]; exact l2) (by rw [(nn e1).2, (nn e3).2]; exact (own_range l1).symm) (by rw [(nn e2).2, (nn e3).2]; exact l2) N ha (g := mkF m pc Ls (.int jn :: .int jd :: .ref b :: .int js :: .ref a :: st)) rfl (hsz.trans c5.symm) rfl (hb c2 hd) hf (W := W) (by show 2 * 0 + _ ≤ _; rw [hW]; omega) hlo
  rw [(nn e2).2, (nn e3).2] at B'
  refine hG _ _ _ _ st' (k _ _ ⟨hG, ⟨c1, c2, hZ, hown, c5, c6⟩, _, X', N', e', O.keepS K' (allS ha all0) (allS (O.2.2.2.2 b hnb).1 all0)⟩ K' (own_Arr.of_arv B' ?_))
  rw [zb]; simp; omega
theorem own_newarrayF (X : own_At G p l e R s0 s EL P m args below meth c Z n0 own nm bytes maxL ret T h cells slots) {pc pc' cells' slots' : Nat} {Ls : Array Slot} {st : List Value} {aty : ArrayType} {ty : FieldType} {z : Int32} {n : Nat} {dv : Value} {ad : String} (w : (Cond.arrayClass ty).before a0 Z = true) (ht : newarray.typeOf aty = ty) (had : "[" ++ ty.toString = ad) (hdv : defaultValue ty = dv) (hz : z.toInt = n) (hn : n ≤ 60000000) (hd : decode bytes pc = .ok (.newarray aty, 2)) (hp : pc' = pc + 2) (ec : cells' = cells + 1) {cap : Nat} (hcap : n ≤ cap) (hbig : cap ≤ 60000000) (es : slots' = slots + cap) (hc : cells' ≤ R.cells) (hl : slots' ≤ R.slots)
    (k : ∀ T' h' a kc, a = h.size → own_At G p l e R s0 s EL (a :: P) m args below meth c Z n0 own nm bytes maxL ret T' h' cells' slots' → Keep h h' [] → own_Arr Z h' a kc ty (List.replicate n dv) → Exa Z h' a ad → G T' (mkF m pc' Ls (.ref a :: st))) : G T (mkF m pc Ls (.int z :: st)) := by
  obtain ⟨hG, ⟨c1, c2, hZ, c5⟩, L, X, N, eT, O⟩ := X
  subst hp ec es ht hdv
  have hz0 : ¬ z < 0 := by rw [Int32.lt_iff_toInt_lt, hz]; simp
  have hzn : z.toNatClampNeg = n := by simp only [Int32.toNatClampNeg, hz]; omega
  obtain ⟨T', h', cA, X', e', E', A', F', st'⟩ := newPE X c1 hZ w eT (g := mkF m pc Ls (.int z :: st)) rfl (hb c2 hd) rfl hz0 (cap := cap) (by omega) (by omega) hc hl had
  refine hG _ _ _ _ st' (k _ _ _ cA rfl ⟨hG, ⟨c1, c2, hZ, c5⟩, _, X', N, e', O.made E' (Nat.le_refl _) A'.lt⟩ ((Keep.refl _ _).ext E') ⟨_, A', rfl, by rw [own_newA, hzn], by simp; omega, fun v hv => ?_⟩ F')
  rw [List.eq_of_mem_replicate hv]; exact own_defit aty
theorem own_clone (X : own_At G p l e R s0 s EL P m args below meth c Z n0 own nm bytes maxL ret T h cells slots) {pc pc' cells' slots' i W cap : Nat} {Ls : Array Slot} {rest : List Value} {a : Addr} {kc : ClassId} {vs : List Value} {ad : String} {ty : FieldType}
    (w1 : (Cond.methodLink own i ⟨ad, "clone", "()Ljava/lang/Object;"⟩).before a0 Z = true) (w2 : (Cond.sameMethod ad "java/lang/Object" "clone" "()Ljava/lang/Object;").before a0 Z = true) (w3 : (Cond.native ⟨"java/lang/Object", "clone", "()Ljava/lang/Object;"⟩).before a0 Z = true) (w4 : (Cond.instanceMethod ⟨"java/lang/Object", "clone", "()Ljava/lang/Object;"⟩).before a0 Z = true) (w5 : (Cond.selects ad ⟨ad, "clone", "()Ljava/lang/Object;"⟩ ⟨"java/lang/Object", "clone", "()Ljava/lang/Object;"⟩).before a0 Z = true) (w6 : (Cond.castable ad "java/lang/Cloneable").before a0 Z = true)
    (A : own_Arr Z h a kc ty vs) (E : Exa Z h a ad) (hsz : Ls.size = maxL) (hW : (rest.map fun v => v.category).sum = W) (hd : decode bytes pc = .ok (.invokevirtual i, 3)) (hp : pc' = pc + 3) (hf : 1 ≤ R.frames) (hlo : W + 14 ≤ R.locals) (hcap : vs.length ≤ cap) (ec : cells' = cells + 1) (es : slots' = slots + cap) (hc : cells' ≤ R.cells) (hl : slots' ≤ R.slots)
    (k : ∀ T' h' d, d = h.size → own_At G p l e R s0 s EL (d :: P) m args below meth c Z n0 own nm bytes maxL ret T' h' cells' slots' → Keep h h' [] → own_Arr Z h' d kc ty vs → Exa Z h' d ad → G T' (mkF m pc' Ls (.ref d :: rest))) : G T (mkF m pc Ls (.ref a :: rest)) := by
  obtain ⟨hG, ⟨c1, c2, hZ, hown, c5, c6⟩, L, X, N, eT, O⟩ := X
  subst hp ec es
  obtain ⟨cl, A0, r1, r2, r3, r4⟩ := A
  have FC : FitC Z cl := fitC_of A0 fun j hj v hv => r4 v (by
    have q : cl.slots.toList[j]? = some v := by rw [Array.getElem?_toList]; exact hv
    rw [r2] at q; exact List.mem_of_getElem? q)
  have hs : cl.slots.size = vs.length := by rw [← r2]; simp
  obtain ⟨T', h', X', e', E', A', F', st'⟩ := cloneA X c1 hZ hown w1 w2 w3 w4 w5 w6 eT A0 E FC (g := mkF m pc Ls (.ref a :: rest)) rfl (hsz.trans c5.symm) rfl (hb c2 hd) hf (W := W) (by show 2 * 0 + _ ≤ _; rw [hW]; omega) hlo (cap := cap) (by rw [hs]; exact hcap) hc hl
  exact hG _ _ _ _ st' (k _ _ _ rfl ⟨hG, ⟨c1, c2, hZ, hown, c5, c6⟩, _, X', N, e', O.made E' (Nat.le_refl _) A'.lt⟩ ((Keep.refl _ _).ext E') ⟨_, A', r1, r2, r3, r4⟩ F')
theorem own_safeLen {vm : Vm} {x : Addr} {kc : ClassId} {vs : List Value} (hZ : Z.Warmed39 vm) (A : own_Arr Z h x kc .byte vs) (hT : ∀ p ∈ EL, ∃ text : String, (Cond.stringLink p.1 p.2 text).before a0 Z = true ∧ 4 * text.toList.length < vs.length) : Safe Z EL vm h x := fun B => by
  obtain ⟨cl, ⟨A1, ⟨-, kA, hkA, compA, hkindA⟩, -⟩, -, r2, -⟩ := A
  obtain ⟨kA', hkA', ekA⟩ := hZ.alike.2.2 _ _ hkA
  obtain ⟨y, hy, u, a, hb, q, -, F, rfl | rfl⟩ := B
  · cases (show h[q.sa]? = some q.sC from F.ha).symm.trans A1
    obtain ⟨cS, ⟨-, -, e⟩, ⟨kS, g1, g2, -⟩, -⟩ := F
    subst e
    cases (show vm.classes[q.sC.cls]? = some kS from g1).symm.trans hkA'
    rw [ekA] at g2
    cases hkindA.symm.trans g2
  · cases (show h[q.sd]? = some q.SA from F.hd).symm.trans A1
    obtain ⟨cS, -, -, -, h5⟩ := F
    obtain ⟨text, w, hl⟩ := hT y hy
    obtain ⟨c1, k1, cf, i, b1, b2, b3, b4, b5, -⟩ := hb
    obtain ⟨k2, cf2, i2, u2, e1, e2, e3, e4, -, e6, -⟩ := Cond.stringLink_spec (s := Wst Z vm h) b1 (mvS (s := { Z with heap := h }) (args := #[]) hZ w)
    cases b2.symm.trans e1
    cases b3.symm.trans e2
    cases b4.symm.trans e3
    cases b5.symm.trans e4
    have z : (stringBytes u).size ≤ 4 * text.toList.length := text_bytes_le e6
    rw [← h5] at z
    have : q.SA.slots.size = vs.length := by rw [← r2]; simp
    omega
theorem own_warm (X : own_At G p l e R s0 s EL P m args below meth c Z n0 own nm bytes maxL ret T h cells slots) : Z.Warmed39 s.vm := by obtain ⟨-, ⟨-, -, q, -⟩, -⟩ := X; exact q
theorem own_shr0 (x : Int32) : x >>> ((0 : Int32) &&& 31) = x := by simp
theorem own_shl0 (x : Int32) : x <<< ((0 : Int32) &&& 31) = x := by simp
theorem own_i32sub {a b : Nat} (h : b ≤ a) (ha : a < 2 ^ 31) : Int32.ofNat a - Int32.ofNat b = Int32.ofNat (a - b) := by
  apply Int32.toInt_inj.mp
  rw [Int32.toInt_sub, own_i32 ha, own_i32 (by omega), own_i32 (by omega), Int.bmod_def]
  omega
theorem own_i32add {a b : Nat} (h : a + b < 2 ^ 31) : Int32.ofNat a + Int32.ofNat b = Int32.ofNat (a + b) := by
  apply Int32.toInt_inj.mp
  rw [Int32.toInt_add, own_i32 (by omega), own_i32 (by omega), own_i32 h, Int.bmod_def]
  omega
theorem own_subpos {a b : Nat} (ha : a < 2 ^ 30) (hb : b < 2 ^ 30) : (0 : Int32) < Int32.ofNat a - Int32.ofNat b ↔ b < a := by
  rw [Int32.lt_iff_toInt_lt, Int32.toInt_sub, own_i32 (by omega), own_i32 (by omega), show (0 : Int32).toInt = 0 by decide, Int.bmod_def]
  omega
theorem own_declSame {y z : MethodName} {C : String} (h : (Cond.declares y).before a0 Z = true) (h2 : (Cond.selects C z z).before a0 Z = true) (hc : z.cls = y.cls) (hx : y.cls ≠ "java/lang/invoke/MethodHandle" ∧ y.cls ≠ "java/lang/invoke/VarHandle") : (Cond.sameMethod y.cls y.cls y.name y.desc).before a0 Z = true := by
  obtain ⟨m1, meth, q1, -⟩ := Cond.declares_spec h
  obtain ⟨c2, r2, m2, z1, z2, z3, -⟩ := Cond.selects_spec h2
  obtain ⟨kr, k1, k2⟩ := notFace_of_selects h2 _ z3
  have f1 := findClass_of_methodNamed q1
  have f2 := findClass_of_methodNamed z3
  rw [hc] at f2
  have e : m1.cls = m2.cls := Option.some.inj (f1.symm.trans f2)
  rw [← e] at k1
  simp only [Cond.before, Cond.holds, Cond.value, f1, State.methodFound?_of_named q1 hx, show Z.methodNamed? ⟨y.cls, y.name, y.desc⟩ = some m1 from q1, k1]
  simp [k2]
theorem own_nfs {s' : State} {y z : MethodName} {C : String} (h2 : (Cond.selects C z z).before #[] s' = true) (hc : z.cls = y.cls) : NotFace s' y := fun r0 h0 => by
  obtain ⟨c2, r2, m2, z1, z2, z3, -⟩ := Cond.selects_spec h2
  obtain ⟨kr, k1, k2⟩ := notFace_of_selects h2 _ z3
  have f1 := findClass_of_methodNamed h0
  have f2 := findClass_of_methodNamed z3
  rw [hc] at f2
  have e : r0.cls = m2.cls := Option.some.inj (f1.symm.trans f2)
  exact ⟨kr, by rw [e]; exact k1, k2⟩
theorem own_posN {x : Int32} (h : 0 < x) : ∃ v : Nat, 0 < v ∧ v < 2 ^ 31 ∧ x = Int32.ofNat v := by
  have q : (0 : Int32).toInt < x.toInt := Int32.lt_iff_toInt_lt.mp h
  rw [show (0 : Int32).toInt = 0 by decide] at q
  have b := x.toInt_lt
  refine ⟨x.toInt.toNat, by omega, by omega, ?_⟩
  apply Int32.toInt_inj.mp
  rw [own_i32 (by omega)]; omega
theorem own_i32div {a b : Nat} (ha : a < 2 ^ 31) (hb : b < 2 ^ 31) : Int32.ofNat a / Int32.ofNat b = Int32.ofNat (a / b) := by
  apply Int32.toInt_inj.mp
  have q : a / b ≤ a := Nat.div_le_self a b
  rw [Int32.toInt_div, own_i32 ha, own_i32 hb, own_i32 (by omega), Int.tdiv_eq_ediv_of_nonneg (by omega), ← Int.natCast_ediv]
  generalize a / b = z at q ⊢
  rw [Int.bmod_def]
  omega
theorem own_i32mod {a : Nat} (ha : a < 2 ^ 31) : Int32.ofNat a % 10 = Int32.ofNat (a % 10) := by
  apply Int32.toInt_inj.mp
  rw [Int32.toInt_mod, own_i32 ha, own_i32 (by omega), show (10 : Int32).toInt = 10 by decide, Int.tmod_eq_emod_of_nonneg (by omega)]
  omega
theorem own_dig16 {d : Nat} (h : d < 10) : own_c16 ((48 : Int32) + Int32.ofNat d) = Int32.ofNat (48 + d) := by
  have : d = 0 ∨ d = 1 ∨ d = 2 ∨ d = 3 ∨ d = 4 ∨ d = 5 ∨ d = 6 ∨ d = 7 ∨ d = 8 ∨ d = 9 := by omega
  rcases this with rfl | rfl | rfl | rfl | rfl | rfl | rfl | rfl | rfl | rfl <;> decide
theorem own_allT {P : Int32 → Prop} {ds gs : List Int32} {q : Int32} (h1 : ∀ c ∈ ds, P c) (h2 : P q) (h3 : ∀ c ∈ gs, P c) : ∀ c ∈ ([] ++ ds ++ [q]) ++ gs, P c := fun c z => by
  simp only [List.nil_append, List.mem_append, List.mem_singleton] at z
  rcases z with (z | rfl) | z
  · exact h1 c z
  · exact h2
  · exact h3 c z
theorem own_allU {P : Int32 → Prop} {ds gs : List Int32} {q : Int32} (h1 : ∀ c ∈ ds, P c) (h2 : P q) (h3 : ∀ c ∈ gs, P c) : ∀ c ∈ (ds ++ [q]) ++ gs, P c := fun c z => own_allT h1 h2 h3 c (by simpa using z)
def own_bs (cs : List Int32) : List Value := cs.map fun c => Value.int c.toInt8.toInt32
theorem own_bsl (cs : List Int32) : (own_bs cs).length = cs.length := by simp [own_bs]
theorem own_bsa (cs ds : List Int32) : own_bs (cs ++ ds) = own_bs cs ++ own_bs ds := by simp [own_bs]
def own_SL (Z : State) (h : Heap) (x : Addr) (cs : List Int32) : Prop := ∃ (t : Addr) (k : ClassId), Exa Z h x "java/lang/String" ∧ Fld Z h x "java/lang/String" "value" "[B" (.ref t) ∧ Fld Z h x "java/lang/String" "coder" "B" (.int 0) ∧ own_Arr Z h t k .byte (own_bs cs)
theorem own_SL.of_str {x t : Addr} {cs : List Int32} (S : own_Str Z h x t cs) (hl : ∀ c ∈ cs, ¬ (255 : Int32) < c) : own_SL Z h x cs := by
  obtain ⟨s1, s2, kb, N2, vs, cd, s3, s4, s5, s6, s7⟩ := S
  rcases s5 with ⟨rfl, rfl, rfl, _⟩ | ⟨_, _, _, c, hc, q⟩
  · have L : (Int32.ofNat cs.length).toNatClampNeg = cs.length := by simp only [Int32.toNatClampNeg, own_i32 (show cs.length < 2 ^ 31 by omega)]; omega
    exact ⟨t, kb, s1, s2, s3, own_Arr.of_arv s4 (by rw [L]; exact (List.length_map ..).symm)⟩
  · exact absurd q (hl c hc)
def own_SR (Z : State) (n0 : Nat) (h : Heap) (b a : Addr) (k : ClassId) (r : List Value) (cs : List Int32) (mm : Nat) : Prop := (Exa Z h b "java/lang/StringBuilder" ∧ Fld Z h b "java/lang/AbstractStringBuilder" "value" "[B" (.ref a) ∧ Fld Z h b "java/lang/AbstractStringBuilder" "coder" "B" (.int 0) ∧ Fld Z h b "java/lang/AbstractStringBuilder" "count" "I" (.int (Int32.ofNat cs.length))) ∧ own_Arr Z h a k .byte (own_bs cs ++ r) ∧ (cs.length + r.length = 16 ∨ cs.length + r.length = 34) ∧ mm ≤ cs.length + r.length ∧ n0 ≤ a ∧ n0 ≤ b ∧ Exa Z h a "[B"
def own_SB (Z : State) (n0 : Nat) (h : Heap) (b : Addr) (cs : List Int32) : Prop := ∃ (a : Addr) (k : ClassId) (r : List Value), own_SR Z n0 h b a k r cs 0
theorem own_SB.keep {h' : Heap} {b : Addr} {cs : List Int32} (S : own_SB Z n0 h b cs) (K : Keep h h' []) : own_SB Z n0 h' b cs := by
  obtain ⟨a, k, r, ⟨e1, e2, e3, e4⟩, e5, e6, e7, e8, e9, e10⟩ := S
  exact ⟨a, k, r, ⟨e1.keep K, e2.keep K nin0, e3.keep K nin0, e4.keep K nin0⟩, e5.keep K nin0, e6, e7, e8, e9, e10.keep K⟩
theorem own_SB.exa {b : Addr} {cs : List Int32} (S : own_SB Z n0 h b cs) : Exa Z h b "java/lang/StringBuilder" := by obtain ⟨a, k, r, S⟩ := S; exact S.1.1
def own_dg (v : Nat) : Nat → List Int32
  | 0 => []
  | m + 1 => Int32.ofNat (48 + v / 10 ^ m % 10) :: own_dg v m
theorem own_dgl (v : Nat) : ∀ m, (own_dg v m).length = m
  | 0 => rfl
  | m + 1 => by simp [own_dg, own_dgl v m]
theorem own_dgi (v : Nat) : ∀ m K, K < m → (own_dg v m)[m - 1 - K]? = some (Int32.ofNat (48 + v / 10 ^ K % 10)) := by
  intro m
  induction m with
  | zero => intro K h; omega
  | succ m ih =>
    intro K h
    by_cases q : K = m
    · subst q; simp [own_dg]
    · rw [show m + 1 - 1 - K = (m - 1 - K) + 1 from by omega]
      simpa [own_dg] using ih K (by omega)
theorem own_dig8 {d : Nat} (h : d < 10) : (Int32.ofNat (48 + d)).toInt8.toInt32 = Int32.ofNat (48 + d) := by
  have : d = 0 ∨ d = 1 ∨ d = 2 ∨ d = 3 ∨ d = 4 ∨ d = 5 ∨ d = 6 ∨ d = 7 ∨ d = 8 ∨ d = 9 := by omega
  rcases this with rfl | rfl | rfl | rfl | rfl | rfl | rfl | rfl | rfl | rfl <;> decide
theorem own_digb {d : Nat} (h : d < 10) : ¬ Int32.ofNat (48 + d) < 0 ∧ ¬ (255 : Int32) < Int32.ofNat (48 + d) := by
  have : d = 0 ∨ d = 1 ∨ d = 2 ∨ d = 3 ∨ d = 4 ∨ d = 5 ∨ d = 6 ∨ d = 7 ∨ d = 8 ∨ d = 9 := by omega
  rcases this with rfl | rfl | rfl | rfl | rfl | rfl | rfl | rfl | rfl | rfl <;> decide
theorem own_dgb (v : Nat) : ∀ m, ∀ c ∈ own_dg v m, ¬ c < 0 ∧ ¬ (255 : Int32) < c
  | 0, c, q => nomatch q
  | m + 1, c, q => by
    rcases List.mem_cons.mp q with rfl | q
    · exact own_digb (Nat.mod_lt _ (by decide))
    · exact own_dgb v m c q
theorem own_dgS (v m : Nat) {d : Nat} (h : d = v / 10 ^ m % 10) : own_bs (own_dg v (m + 1)) = .int (Int32.ofNat (48 + d)) :: own_bs (own_dg v m) := by
  subst h
  show Value.int _ :: own_bs (own_dg v m) = _
  rw [own_dig8 (Nat.mod_lt _ (by decide))]
theorem own_nar8 {d : Nat} (h : d < 10) : nar .byte (Int32.ofNat (48 + d)) = Int32.ofNat (48 + d) := own_dig8 h
theorem own_setT {vs R : List Value} {x : Value} {q : Nat} (hq : q < vs.length) : (vs.take (q + 1) ++ R).set q x = vs.take q ++ x :: R := by
  rw [← List.take_append_getElem hq, List.append_assoc, List.set_append_right _ _ (by simp; omega)]
  simp [Nat.min_eq_left (Nat.le_of_lt hq)]
theorem own_neg {v : Nat} (h : v < 2 ^ 31) : (-(Int32.ofNat v)).toInt = -(v : Int) := by
  rw [Int32.toInt_neg, own_i32 h, Int.bmod_def]; omega
theorem own_gtneg {v n : Nat} {P : Int32} (hP : P.toInt = -(n : Int)) (h : v < 2 ^ 31) : P < -(Int32.ofNat v) ↔ v < n := by
  rw [Int32.lt_iff_toInt_lt, own_neg h, hP]; omega
theorem own_ltneg {v n : Nat} {P : Int32} (hP : P.toInt = -(n : Int)) (h : v < 2 ^ 31) : -(Int32.ofNat v) < P ↔ n < v := by
  rw [Int32.lt_iff_toInt_lt, own_neg h, hP]; omega
theorem own_dv {v u : Nat} (h : v < 2 ^ 31) (hu : u = v / 100) : -(Int32.ofNat v) / 100 = -(Int32.ofNat u) := by
  apply Int32.toInt_inj.mp
  have q := Int32.toInt_div_of_ne_left (-(Int32.ofNat v)) 100
  rw [Int32.toInt_div, own_neg h, own_neg (by omega), show (100 : Int32).toInt = 100 by decide, Int.neg_tdiv, Int.tdiv_eq_ediv_of_nonneg (by omega), Int.bmod_def]
  omega
theorem own_rm {v u : Nat} (h : v < 2 ^ 31) (hu : u = v / 100) : -(Int32.ofNat u) * 100 - -(Int32.ofNat v) = Int32.ofNat (v % 100) := by
  apply Int32.toInt_inj.mp
  rw [Int32.toInt_sub, Int32.toInt_mul, own_neg h, own_neg (by omega), show (100 : Int32).toInt = 100 by decide, own_i32 (by omega), Int.bmod_def, Int.bmod_def]
  omega
theorem own_dec {q q' : Nat} (h : q' + 1 = q) (hq : q < 2 ^ 31) : Int32.ofNat q + (-1 : Int32) = Int32.ofNat q' := by
  apply Int32.toInt_inj.mp
  rw [Int32.toInt_add, own_i32 hq, own_i32 (by omega), show (-1 : Int32).toInt = -1 by decide, Int.bmod_def]
  omega
theorem own_nduq {v n m : Nat} (h1 : 10 ^ (n - 1) ≤ v) (h2 : v < 10 ^ n) (h3 : 10 ^ (m - 1) ≤ v) (h4 : v < 10 ^ m) (hn : 1 ≤ n) (hm : 1 ≤ m) : n = m := by
  rcases Nat.lt_trichotomy n m with q | q | q
  · have := Nat.pow_le_pow_right (show 0 < 10 by decide) (show n ≤ m - 1 by omega); omega
  · exact q
  · have := Nat.pow_le_pow_right (show 0 < 10 by decide) (show m ≤ n - 1 by omega); omega
theorem own_ndex {v : Nat} (h : 0 < v) (h2 : v < 2 ^ 31) : ∃ n, 1 ≤ n ∧ n ≤ 10 ∧ 10 ^ (n - 1) ≤ v ∧ v < 10 ^ n := by
  by_cases h1 : v < 10; · exact ⟨1, by decide, by decide, by show 1 ≤ v; omega, h1⟩
  by_cases h2 : v < 100; · exact ⟨2, by decide, by decide, by show 10 ≤ v; omega, h2⟩
  by_cases h3 : v < 1000; · exact ⟨3, by decide, by decide, by show 100 ≤ v; omega, h3⟩
  by_cases h4 : v < 10000; · exact ⟨4, by decide, by decide, by show 1000 ≤ v; omega, h4⟩
  by_cases h5 : v < 100000; · exact ⟨5, by decide, by decide, by show 10000 ≤ v; omega, h5⟩
  by_cases h6 : v < 1000000; · exact ⟨6, by decide, by decide, by show 100000 ≤ v; omega, h6⟩
  by_cases h7 : v < 10000000; · exact ⟨7, by decide, by decide, by show 1000000 ≤ v; omega, h7⟩
  by_cases h8 : v < 100000000; · exact ⟨8, by decide, by decide, by show 10000000 ≤ v; omega, h8⟩
  by_cases h9 : v < 1000000000; · exact ⟨9, by decide, by decide, by show 100000000 ≤ v; omega, h9⟩
  exact ⟨10, by decide, by decide, by show 1000000000 ≤ v; omega, by show v < 10000000000; omega⟩
def own_on : List Value := (List.range 100).map fun i => .int (Int32.ofNat (48 + i % 10))
def own_te : List Value := (List.range 100).map fun i => .int (Int32.ofNat (48 + i / 10))
theorem own_onv {i : Nat} (h : i < 100) : own_on[i]? = some (.int (Int32.ofNat (48 + i % 10))) := by rw [own_on, List.getElem?_map, List.getElem?_range h]; rfl
theorem own_tev {i : Nat} (h : i < 100) : own_te[i]? = some (.int (Int32.ofNat (48 + i / 10))) := by rw [own_te, List.getElem?_map, List.getElem?_range h]; rfl
def own_DG (Z : State) (dn dt : Addr) : Prop := Sta Z Z.heap "java/lang/Integer" "DigitOnes" "[B" (.ref dn) ∧ Sta Z Z.heap "java/lang/Integer" "DigitTens" "[B" (.ref dt) ∧ (∃ k, own_Arr Z Z.heap dn k .byte own_on) ∧ ∃ k, own_Arr Z Z.heap dt k .byte own_te
end OwnSB
theorem own_exa {args : Array Value} {s : State} {tm : Term} {K : String} (h : (Jvm.Cond.exactly tm K).before args s = true) : ∃ a, tm.eval args s none [] s = some (.ref a) ∧ Exa s s.heap a K := by
  obtain ⟨a, c, cell, k, h1, h2, h3, h4, h5, h6, h7⟩ := Cond.exactly_spec h
  exact ⟨a, h1, cell, k, h3, h6 ▸ h2, h6 ▸ h4, h5, h7⟩
theorem own_dgT {args : Array Value} {s : State} {tm e : Term} {f : Nat → Nat} (hi0 : ∀ idx, tm.eval args s none idx s = tm.eval args s none [] s) (w0 : (Jvm.Cond.arrayClass .byte).before args s = true) (w1 : (Jvm.Cond.exactly tm "[B").before args s = true) (w2 : (Jvm.Cond.eq (Jvm.Term.length tm) (Jvm.Term.int (100 : Int32))).before args s = true)
    (w3 : (Jvm.Cond.all tm (Jvm.Cond.eq (Jvm.Term.elem tm (Jvm.Term.index (0 : Nat))) e)).before args s = true) (h10 : ∀ i, f i < 10 ∨ 100 ≤ i) (hf : ∀ i, i < 100 → e.eval args s none [i] s = some (.int (Int32.ofNat (48 + f i)))) :
    ∃ (a : Addr) (k : ClassId), tm.eval args s none [] s = some (.ref a) ∧ own_Arr s s.heap a k .byte ((List.range 100).map fun i => .int (Int32.ofNat (48 + f i))) := by
  obtain ⟨a, ev, E⟩ := own_exa w1
  have ht : ∀ idx, tm.eval args s none idx s = some (.ref a) := fun idx => (hi0 idx).trans ev
  have hlen := Cond.eq_int w2 rfl
  obtain ⟨sd, SA, hev, harr, -⟩ := Term.length_spec hlen
  cases ev.symm.trans hev
  have h31 := Jvm.Free.SBG.length_lt hev harr hlen
  have hsz : SA.slots.size = 100 := by
    have e1 : (Jvm.Term.length tm).eval args s none [] s = some (.int (Int32.ofNat SA.slots.size)) := by simp [Term.eval] at hev ⊢; simp [hev, harr, h31]
    have h2 : Int32.ofNat SA.slots.size = Int32.ofNat 100 := by simpa using Option.some.inj (e1.symm.trans hlen)
    have := congrArg Int32.toInt h2
    rw [own_i32 h31, own_i32 (by decide)] at this; omega
  have hc : s.heap[a]? = some SA := by
    simp only [State.arrayAt?, Option.bind_eq_bind] at harr
    cases q : s.heap[a]? with
    | none => simp [q] at harr
    | some x => simp only [q, Option.bind_some] at harr; grind
  obtain ⟨cell, k, e1, e2, e3, e4, e5⟩ := E
  cases hc.symm.trans e1
  obtain ⟨c', k', comp, f1, f2, f3⟩ := Cond.arrayClass_spec w0
  have g1 : c' = SA.cls := Option.some.inj (f1.symm.trans e2)
  subst g1
  cases f2.symm.trans e3
  have hu : SA.vm ≠ .unknown := fun z => by
    simp [State.arrayAt?, hc, e3, z] at harr
  have hall := Cond.all_elim (ht []) harr (Cond.before_iff.mp w3)
  have key : ∀ i, i < 100 → SA.slots[i]? = some (.int (Int32.ofNat (48 + f i))) := fun i hi => by
    have h := hall i (by omega)
    have hi31 : (Int32.ofNat i).toInt = i := own_i32 (by omega)
    have ee : (Jvm.Term.elem tm (Jvm.Term.index (0 : Nat))).eval args s none [i] s = SA.slots[i]? := by
      have h0 : ¬ Int32.ofNat i < 0 := by rw [Int32.lt_iff_toInt_lt, hi31]; show ¬ (i : Int) < 0; omega
      have hn : (Int32.ofNat i).toNatClampNeg = i := by simp only [Int32.toNatClampNeg, hi31]; omega
      have h0' : ¬ Nat.toInt32 i < 0 := h0
      have hn' : (Nat.toInt32 i).toNatClampNeg = i := hn
      simp [Term.eval, ht, harr, h0', hn']
    have he := hf i hi
    exact ee.symm.trans (Cond.eq_int (by simp [Cond.holds, h]) he)
  refine ⟨a, _, ev, SA, ⟨hc, ⟨fun y z => by { rw [z] at e4; cases e4 }, k, e3, comp, f3⟩, hu⟩, rfl, ?_, by simp, fun v hv => ?_⟩
  · apply List.ext_getElem?
    intro i
    by_cases hi : i < 100
    · rw [Array.getElem?_toList, key i hi, List.getElem?_map, List.getElem?_range hi]; rfl
    · rw [List.getElem?_eq_none (by simp; omega), List.getElem?_eq_none (by simp; omega)]
  · obtain ⟨i, hi, rfl⟩ := List.mem_map.mp hv
    have hi' : i < 100 := List.mem_range.mp hi
    rw [← own_nar8 (d := f i) (by have := h10 i; omega)]
    exact fits_nar_byte _
theorem own_d48 : ∀ i, i < 100 → Nat.toInt32 i % 10 = Int32.ofNat (i % 10) := by decide +kernel
theorem own_d48t : ∀ i, i < 100 → Nat.toInt32 i / 10 = Int32.ofNat (i / 10) := by decide +kernel
theorem dd_jdk_68_method_2_0 : decode jdk_68_method_2_code 0 = .ok (.aload_n 0, 1) := by decide +kernel
theorem dd_jdk_68_method_2_1 : decode jdk_68_method_2_code 1 = .ok (.invokespecial 3, 3) := by decide +kernel
theorem dd_jdk_68_method_2_4 : decode jdk_68_method_2_code 4 = .ok (.getstatic 18, 3) := by decide +kernel
theorem dd_jdk_68_method_2_7 : decode jdk_68_method_2_code 7 = .ok (.ifCond .eq 18, 3) := by decide +kernel
theorem dd_jdk_68_method_2_10 : decode jdk_68_method_2_code 10 = .ok (.aload_n 0, 1) := by decide +kernel
theorem dd_jdk_68_method_2_11 : decode jdk_68_method_2_code 11 = .ok (.iload_n 1, 1) := by decide +kernel
theorem dd_jdk_68_method_2_12 : decode jdk_68_method_2_code 12 = .ok (.newarray .byte, 2) := by decide +kernel
theorem dd_jdk_68_method_2_14 : decode jdk_68_method_2_code 14 = .ok (.putfield 15, 3) := by decide +kernel
theorem dd_jdk_68_method_2_17 : decode jdk_68_method_2_code 17 = .ok (.aload_n 0, 1) := by decide +kernel
theorem dd_jdk_68_method_2_18 : decode jdk_68_method_2_code 18 = .ok (.iconst 0, 1) := by decide +kernel
theorem dd_jdk_68_method_2_19 : decode jdk_68_method_2_code 19 = .ok (.putfield 22, 3) := by decide +kernel
theorem dd_jdk_68_method_2_22 : decode jdk_68_method_2_code 22 = .ok (.goto 16, 3) := by decide +kernel
theorem dd_jdk_68_method_2_38 : decode jdk_68_method_2_code 38 = .ok (.return_, 1) := by decide +kernel
theorem pn_0 : plainName "java/lang/AbstractStringBuilder" = true := by first | (simp [plainName, overriddenIn]; done) | decide +kernel
theorem ef_own_asbi (m : MethodId) (x0 : Addr) (x1 : Int32) : entryFrame m #[(.ref x0), (.int x1)] 2 = mkF m 0 #[.val (.ref x0), .val (.int x1)] [] := by first | (simp [entryFrame, mkF, argsToLocals, Value.category]; done) | rfl
set_option maxRecDepth 65536 in
set_option maxHeartbeats 40000000 in
theorem own_asbi (l : Launch) (Z : State) (a0 : Array Value) (hw : ∀ d ∈ tables_1, d.before a0 Z = true) (EWf : own_EW Z own_EL) (n0 : Nat) (b : Addr) (N : Nat) (h0 : Heap) (O0 : Old Z n0 h0) (n_b : N ≤ b) (p_N0 : n0 ≤ N) (p_Nh : N ≤ h0.size) (p_E : Exa Z h0 b "java/lang/StringBuilder") (p_V : Fld Z h0 b "java/lang/AbstractStringBuilder" "value" "[B" .null) (p_C : Fld Z h0 b "java/lang/AbstractStringBuilder" "coder" "B" (.int 0)) (p_N : Fld Z h0 b "java/lang/AbstractStringBuilder" "count" "I" (.int 0)) (CS : own_CS Z) :
    own_Met l Z own_EL [] false n0 (⟨"java/lang/AbstractStringBuilder", "<init>", "(I)V"⟩ : MethodName) jdk_68_method_2_code 2 none ({ frames := 1, cells := 1, slots := 16, locals := 12 } : Room) #[(.ref b), (.int (16 : Int32))] h0 (fun v h => v = none ∧ Keep h0 h [b] ∧ own_SB Z N h b []) := by
  refine own_enter (own := "java/lang/AbstractStringBuilder") (nm := "<init>") (plainFor_of_name pn_0) rfl rfl O0 EWf ?_
  have W : ∀ (k : Nat) {d : Jvm.Cond}, tables_1[k]? = some d → d.before a0 Z = true := fun k d q => hw d (List.mem_of_getElem? q)
  intro G p e s m below meth c T0 hGe X0
  rw [ef_own_asbi m b ((16 : Int32))]
  refine own_aload_n (pc' := 1) X0 dd_jdk_68_method_2_0 rfl rfl rfl ?_
  refine own_initO (pc' := 4) (W := 0) X0 (W 66 rfl) (W 13 rfl) (W 14 rfl) rfl dd_jdk_68_method_2_1 rfl (by decide) rfl (by decide) ?_
  intro T1 X1
  obtain ⟨zc, hS, hz⟩ := CS
  refine own_getS (pc' := 7) X1 (W 67 rfl) Via.refl (own_sta X1 hS) dd_jdk_68_method_2_4 rfl ?_
  intro T2 X2
  refine own_ifN (pc' := 10) X2 dd_jdk_68_method_2_7 rfl ((feq hz).1) ?_
  refine own_aload_n (pc' := 11) X2 dd_jdk_68_method_2_10 rfl rfl rfl ?_
  refine own_iload_n (pc' := 12) X2 dd_jdk_68_method_2_11 rfl rfl ?_
  refine own_newarrayF (pc' := 14) (cells' := 1) (slots' := 16) (n := 16) (cap := 16) (dv := (.int 0)) X2 (W 20 rfl) rfl (ad := "[B") (by decide) rfl (by decide) (by decide) dd_jdk_68_method_2_12 rfl rfl (by decide) (by decide) rfl (by decide) (by decide) ?_
  intro T3 h3 a3 k3 g3 X3 K3 A3 E3
  have n_a3 : n0 ≤ a3 := by rw [g3]; exact own_n0 X2
  have A3' : own_Arr Z h3 a3 k3 .byte [(.int 0), (.int 0), (.int 0), (.int 0), (.int 0), (.int 0), (.int 0), (.int 0), (.int 0), (.int 0), (.int 0), (.int 0), (.int 0), (.int 0), (.int 0), (.int 0)] := A3
  have f4 := (p_V.keep K3 nin0)
  have f5 := (p_E.keep K3)
  refine own_put (pc' := 17) X3 (host := "") (Or.inl (W 68 rfl)) Via.refl f4 f5 (Or.inl (W 69 rfl)) (W 55 rfl) (ty := (.array .byte)) (by decide) rfl rfl (Nat.le_trans p_N0 n_b) (Or.inl ⟨by decide, by decide⟩) dd_jdk_68_method_2_14 rfl ?_
  intro T6 h6 X6 W6 K6
  have f6_ := f4.same W6
  refine own_aload_n (pc' := 18) X6 dd_jdk_68_method_2_17 rfl rfl rfl ?_
  refine own_iconst (pc' := 19) X6 dd_jdk_68_method_2_18 rfl (z := (0 : Int32)) (by decide) ?_
  have f7 := ((p_C.keep K3 nin0).other W6 (Or.inr (slot_ne (Or.inl (W 71 rfl)) (Or.inl (W 69 rfl)) (by decide) (t := .byte) (t' := (.array .byte)) (by decide) (by decide))))
  have f8 := (f5.keep K6)
  refine own_put (pc' := 22) X6 (host := "") (Or.inl (W 70 rfl)) Via.refl f7 f8 (Or.inl (W 71 rfl)) (W 55 rfl) (ty := .byte) (by decide) rfl rfl (Nat.le_trans p_N0 n_b) (Or.inl ⟨by decide, by decide⟩) dd_jdk_68_method_2_19 rfl ?_
  intro T9 h9 X9 W9 K9
  have f9_ := f7.same W9
  refine own_goto (pc' := 38) X9 dd_jdk_68_method_2_22 (by decide) (by decide) ?_
  have age_a3 : h0.size ≤ a3 := Nat.le_trans (Nat.le_refl _) (Nat.le_of_eq (Eq.symm g3))
  have f10 := (f8.keep K9)
  have f11 := (f6_.other W9 (Or.inr (slot_ne (Or.inl (W 69 rfl)) (Or.inl (W 71 rfl)) (by decide) (t := (.array .byte)) (t' := .byte) (by decide) (by decide))))
  have f12 := (((p_N.keep K3 nin0).other W6 (Or.inr (slot_ne (Or.inl (W 93 rfl)) (Or.inl (W 69 rfl)) (by decide) (t := .int) (t' := (.array .byte)) (by decide) (by decide)))).other W9 (Or.inr (slot_ne (Or.inl (W 93 rfl)) (Or.inl (W 71 rfl)) (by decide) (t := .int) (t' := .byte) (by decide) (by decide))))
  have ne_b_a3 : b ≠ a3 := own_ne p_E.lt (Nat.le_refl _) (Nat.le_of_eq (Eq.symm g3))
  have f13 := ((A3'.keep K6 (ninS (Ne.symm ne_b_a3) nin0)).keep K9 (ninS (Ne.symm ne_b_a3) nin0))
  have f14 := ((E3.keep K6).keep K9)
  exact own_retV X9 hGe rfl dd_jdk_68_method_2_38 (by decide) (by decide) ⟨rfl, ((((Keep.refl h0 [b]).trans K3 all0).trans K6 (allS (Or.inl (List.mem_of_getElem? (i := 0) rfl)) all0)).trans K9 (allS (Or.inl (List.mem_of_getElem? (i := 0) rfl)) all0)), ⟨a3, _, _, ⟨⟨f10, f11, f9_, f12⟩, f13, Or.inl rfl, Nat.zero_le _, (Nat.le_trans p_Nh age_a3), n_b, f14⟩⟩⟩
theorem dd_jdk_67_method_1_0 : decode jdk_67_method_1_code 0 = .ok (.aload_n 0, 1) := by decide +kernel
theorem dd_jdk_67_method_1_1 : decode jdk_67_method_1_code 1 = .ok (.bipush 16, 2) := by decide +kernel
theorem dd_jdk_67_method_1_3 : decode jdk_67_method_1_code 3 = .ok (.invokespecial 1, 3) := by decide +kernel
theorem pd_0 : parseMethodDescriptor "(I)V" = some ⟨[.int], none⟩ := by decide +kernel
theorem dd_jdk_67_method_1_6 : decode jdk_67_method_1_code 6 = .ok (.return_, 1) := by decide +kernel
theorem pn_1 : plainName "java/lang/StringBuilder" = true := by first | (simp [plainName, overriddenIn]; done) | decide +kernel
theorem ef_own_sbi (m : MethodId) (x0 : Addr) : entryFrame m #[(.ref x0)] 1 = mkF m 0 #[.val (.ref x0)] [] := by first | (simp [entryFrame, mkF, argsToLocals, Value.category]; done) | rfl
set_option maxRecDepth 65536 in
set_option maxHeartbeats 40000000 in
theorem own_sbi (l : Launch) (Z : State) (a0 : Array Value) (hw : ∀ d ∈ tables_1, d.before a0 Z = true) (EWf : own_EW Z own_EL) (n0 : Nat) (b : Addr) (N : Nat) (h0 : Heap) (O0 : Old Z n0 h0) (n_b : N ≤ b) (p_N0 : n0 ≤ N) (p_Nh : N ≤ h0.size) (p_E : Exa Z h0 b "java/lang/StringBuilder") (p_V : Fld Z h0 b "java/lang/AbstractStringBuilder" "value" "[B" .null) (p_C : Fld Z h0 b "java/lang/AbstractStringBuilder" "coder" "B" (.int 0)) (p_N : Fld Z h0 b "java/lang/AbstractStringBuilder" "count" "I" (.int 0)) (CS : own_CS Z) :
    own_Met l Z own_EL [] false n0 (⟨"java/lang/StringBuilder", "<init>", "()V"⟩ : MethodName) jdk_67_method_1_code 1 none ({ frames := 2, cells := 1, slots := 16, locals := 25 } : Room) #[(.ref b)] h0 (fun v h => v = none ∧ Keep h0 h [b] ∧ own_SB Z N h b []) := by
  refine own_enter (own := "java/lang/StringBuilder") (nm := "<init>") (plainFor_of_name pn_1) rfl rfl O0 EWf ?_
  have W : ∀ (k : Nat) {d : Jvm.Cond}, tables_1[k]? = some d → d.before a0 Z = true := fun k d q => hw d (List.mem_of_getElem? q)
  intro G p e s m below meth c T0 hGe X0
  rw [ef_own_sbi m b]
  refine own_aload_n (pc' := 1) X0 dd_jdk_67_method_1_0 rfl rfl rfl ?_
  refine own_bipush (pc' := 3) X0 dd_jdk_67_method_1_1 rfl (z := (16 : Int32)) (by decide) ?_
  refine own_callIM (pc' := 6) (cells' := 1) (slots' := 16) (argsL := [(.int (16 : Int32))]) (rest := []) (W := 0) (y := (⟨"java/lang/AbstractStringBuilder", "<init>", "(I)V"⟩ : MethodName)) (a := b) X0 (W 60 rfl) (W 61 rfl) rfl (by decide) (own_asbi l Z a0 hw EWf n0 b N h0 (own_old X0) n_b p_N0 p_Nh p_E p_V p_C p_N CS) all0 (W 65 rfl) (W 64 rfl) (by decide) (by decide) rfl (lenOf pd_0 rfl) rfl rfl dd_jdk_67_method_1_3 rfl rfl rfl rfl (by decide) (by decide) ?_
  intro v1 T1 h1 s1 X1 q1 r1
  obtain ⟨rfl, K1, S1⟩ := q1
  show G T1 (mkF m 6 #[.val (.ref b)] [])
  exact own_retV X1 hGe rfl dd_jdk_67_method_1_6 (by decide) (by decide) ⟨rfl, ((Keep.refl h0 [b]).trans K1 (allS (Or.inl (List.mem_of_getElem? (i := 0) rfl)) all0)), S1⟩
theorem dd_jdk_42_method_152_0 : decode jdk_42_method_152_code 0 = .ok (.getstatic 38, 3) := by decide +kernel
theorem dd_jdk_42_method_152_3 : decode jdk_42_method_152_code 3 = .ok (.ifCond .eq 10, 3) := by decide +kernel
theorem dd_jdk_42_method_152_6 : decode jdk_42_method_152_code 6 = .ok (.aload_n 0, 1) := by decide +kernel
theorem dd_jdk_42_method_152_7 : decode jdk_42_method_152_code 7 = .ok (.getfield 15, 3) := by decide +kernel
theorem dd_jdk_42_method_152_10 : decode jdk_42_method_152_code 10 = .ok (.goto 4, 3) := by decide +kernel
theorem dd_jdk_42_method_152_14 : decode jdk_42_method_152_code 14 = .ok (.ireturn, 1) := by decide +kernel
theorem pn_2 : plainName "java/lang/String" = true := by first | (simp [plainName, overriddenIn]; done) | decide +kernel
theorem ef_own_cod (m : MethodId) (x0 : Addr) : entryFrame m #[(.ref x0)] 1 = mkF m 0 #[.val (.ref x0)] [] := by first | (simp [entryFrame, mkF, argsToLocals, Value.category]; done) | rfl
set_option maxRecDepth 65536 in
set_option maxHeartbeats 40000000 in
theorem own_cod (l : Launch) (Z : State) (a0 : Array Value) (hw : ∀ d ∈ tables_1, d.before a0 Z = true) (EWf : own_EW Z own_EL) (n0 : Nat) (x : Addr) (h0 : Heap) (O0 : Old Z n0 h0) (p_Cx : Fld Z h0 x "java/lang/String" "coder" "B" (.int 0)) (CS : own_CS Z) :
    own_Met l Z own_EL [] false n0 (⟨"java/lang/String", "coder", "()B"⟩ : MethodName) jdk_42_method_152_code 1 (some .byte) ({ frames := 0, cells := 0, slots := 0, locals := 0 } : Room) #[(.ref x)] h0 (fun v h => v = some (.int 0) ∧ h0 = h) := by
  refine own_enter (own := "java/lang/String") (nm := "coder") (plainFor_of_name pn_2) rfl rfl O0 EWf ?_
  have W : ∀ (k : Nat) {d : Jvm.Cond}, tables_1[k]? = some d → d.before a0 Z = true := fun k d q => hw d (List.mem_of_getElem? q)
  intro G p e s m below meth c T0 hGe X0
  rw [ef_own_cod m x]
  obtain ⟨zc, hS, hz⟩ := CS
  refine own_getS (pc' := 3) X0 (W 15 rfl) Via.refl (own_sta X0 hS) dd_jdk_42_method_152_0 rfl ?_
  intro T1 X1
  refine own_ifN (pc' := 6) X1 dd_jdk_42_method_152_3 rfl ((feq hz).1) ?_
  refine own_aload_n (pc' := 7) X1 dd_jdk_42_method_152_6 rfl rfl rfl ?_
  refine own_get (pc' := 10) X1 (host := "") (Or.inl (W 27 rfl)) Via.refl p_Cx dd_jdk_42_method_152_7 rfl ?_
  intro T2 X2
  refine own_goto (pc' := 14) X2 dd_jdk_42_method_152_10 (by decide) (by decide) ?_
  exact own_ret X2 hGe (t := .byte) rfl rfl (Or.inl ⟨rfl, by simp, _, rfl⟩) dd_jdk_42_method_152_14 (by decide) (by decide) ⟨rfl, rfl⟩ nofun
theorem dd_jdk_42_method_54_0 : decode jdk_42_method_54_code 0 = .ok (.aload_n 0, 1) := by decide +kernel
theorem dd_jdk_42_method_54_1 : decode jdk_42_method_54_code 1 = .ok (.getfield 9, 3) := by decide +kernel
theorem dd_jdk_42_method_54_4 : decode jdk_42_method_54_code 4 = .ok (.arraylength, 1) := by decide +kernel
theorem dd_jdk_42_method_54_5 : decode jdk_42_method_54_code 5 = .ok (.aload_n 0, 1) := by decide +kernel
theorem dd_jdk_42_method_54_6 : decode jdk_42_method_54_code 6 = .ok (.invokevirtual 335, 3) := by decide +kernel
theorem pd_1 : parseMethodDescriptor "()B" = some ⟨[], some .byte⟩ := by decide +kernel
theorem dd_jdk_42_method_54_9 : decode jdk_42_method_54_code 9 = .ok (.ishr, 1) := by decide +kernel
theorem dd_jdk_42_method_54_10 : decode jdk_42_method_54_code 10 = .ok (.ireturn, 1) := by decide +kernel
theorem ef_own_sln (m : MethodId) (x0 : Addr) : entryFrame m #[(.ref x0)] 1 = mkF m 0 #[.val (.ref x0)] [] := by first | (simp [entryFrame, mkF, argsToLocals, Value.category]; done) | rfl
set_option maxRecDepth 65536 in
set_option maxHeartbeats 40000000 in
theorem own_sln (l : Launch) (Z : State) (a0 : Array Value) (hw : ∀ d ∈ tables_1, d.before a0 Z = true) (EWf : own_EW Z own_EL) (n0 : Nat) (x : Addr) (ds : List Int32) (h0 : Heap) (O0 : Old Z n0 h0) (p_S : own_SL Z h0 x ds) (CS : own_CS Z) :
    own_Met l Z own_EL [] false n0 (⟨"java/lang/String", "length", "()I"⟩ : MethodName) jdk_42_method_54_code 1 (some .int) ({ frames := 1, cells := 0, slots := 0, locals := 13 } : Room) #[(.ref x)] h0 (fun v h => v = some (.int (Int32.ofNat ds.length)) ∧ h0 = h) := by
  refine own_enter (own := "java/lang/String") (nm := "length") (plainFor_of_name pn_2) rfl rfl O0 EWf ?_
  have W : ∀ (k : Nat) {d : Jvm.Cond}, tables_1[k]? = some d → d.before a0 Z = true := fun k d q => hw d (List.mem_of_getElem? q)
  intro G p e s m below meth c T0 hGe X0
  rw [ef_own_sln m x]
  obtain ⟨t, kt, p_Ex, p_Vx, p_Cx, p_At⟩ := p_S
  have l_d := own_bsl ds
  refine own_aload_n (pc' := 1) X0 dd_jdk_42_method_54_0 rfl rfl rfl ?_
  refine own_get (pc' := 4) X0 (host := "") (Or.inl (W 29 rfl)) Via.refl p_Vx dd_jdk_42_method_54_1 rfl ?_
  intro T1 X1
  refine own_arraylength (pc' := 5) (z := (Int32.ofNat ds.length)) X1 p_At (by rw [l_d]) dd_jdk_42_method_54_4 rfl ?_
  refine own_aload_n (pc' := 6) X1 dd_jdk_42_method_54_5 rfl rfl rfl ?_
  refine own_callVM (pc' := 9) (cells' := 0) (slots' := 0) (argsL := []) (rest := [(.int (Int32.ofNat ds.length))]) (W := 1) (y := (⟨"java/lang/String", "coder", "()B"⟩ : MethodName)) (z := (⟨"java/lang/String", "coder", "()B"⟩ : MethodName)) (a := x) X1 (W 87 rfl) (W 88 rfl) (fun s' hZ' => notFace_of_selects (args := #[]) (mvT hZ' (W 90 rfl))) (W 90 rfl) (W 89 rfl) (by decide) p_Ex (own_cod l Z a0 hw EWf n0 x h0 (own_old X1) p_Cx CS) all0 (W 91 rfl) (W 3 rfl) (by decide) (by decide) rfl (lenOf pd_1 rfl) rfl rfl dd_jdk_42_method_54_6 rfl rfl rfl rfl (by decide) (by decide) ?_
  intro v2 T2 h2 s2 X2 q2 r2
  obtain ⟨rfl, rfl⟩ := q2
  show G T2 (mkF m 9 #[.val (.ref x)] [(.int (0 : Int32)), (.int (Int32.ofNat ds.length))])
  refine own_ishr (pc' := 10) X2 dd_jdk_42_method_54_9 rfl (r := (Int32.ofNat ds.length)) (own_shr0 _) ?_
  exact own_ret X2 hGe (t := .int) rfl rfl (Or.inl ⟨rfl, by simp, _, rfl⟩) dd_jdk_42_method_54_10 (by decide) (by decide) ⟨rfl, rfl⟩ nofun
theorem dd_jdk_29_method_65_0 : decode jdk_29_method_65_code 0 = .ok (.iload_n 0, 1) := by decide +kernel
theorem dd_jdk_29_method_65_1 : decode jdk_29_method_65_code 1 = .ok (.iload_n 1, 1) := by decide +kernel
theorem dd_jdk_29_method_65_2 : decode jdk_29_method_65_code 2 = .ok (.if_icmp .lt 7, 3) := by decide +kernel
theorem dd_jdk_29_method_65_9 : decode jdk_29_method_65_code 9 = .ok (.iload_n 1, 1) := by decide +kernel
theorem dd_jdk_29_method_65_10 : decode jdk_29_method_65_code 10 = .ok (.ireturn, 1) := by decide +kernel
theorem dd_jdk_29_method_65_5 : decode jdk_29_method_65_code 5 = .ok (.iload_n 0, 1) := by decide +kernel
theorem dd_jdk_29_method_65_6 : decode jdk_29_method_65_code 6 = .ok (.goto 4, 3) := by decide +kernel
theorem pf_3 : plainFor (⟨"java/lang/Math", "max", "(II)I"⟩ : MethodName) = true := by decide +kernel
theorem ef_own_mx18 (m : MethodId) (x0 : Int32) (x1 : Int32) : entryFrame m #[(.int x0), (.int x1)] 2 = mkF m 0 #[.val (.int x0), .val (.int x1)] [] := by first | (simp [entryFrame, mkF, argsToLocals, Value.category]; done) | rfl
set_option maxRecDepth 65536 in
set_option maxHeartbeats 40000000 in
theorem own_mx18 (l : Launch) (Z : State) (a0 : Array Value) (hw : ∀ d ∈ tables_1, d.before a0 Z = true) (EWf : own_EW Z own_EL) (n0 : Nat) (j : Nat) (h0 : Heap) (O0 : Old Z n0 h0) (p_j : j ≤ 18) :
    own_Met l Z own_EL [] false n0 (⟨"java/lang/Math", "max", "(II)I"⟩ : MethodName) jdk_29_method_65_code 2 (some .int) ({ frames := 0, cells := 0, slots := 0, locals := 0 } : Room) #[(.int (Int32.ofNat j)), (.int (18 : Int32))] h0 (fun v h => v = some (.int 18) ∧ h0 = h) := by
  refine own_enter (own := "java/lang/Math") (nm := "max") pf_3 rfl rfl O0 EWf ?_
  have W : ∀ (k : Nat) {d : Jvm.Cond}, tables_1[k]? = some d → d.before a0 Z = true := fun k d q => hw d (List.mem_of_getElem? q)
  intro G p e s m below meth c T0 hGe X0
  rw [ef_own_mx18 m ((Int32.ofNat j)) ((18 : Int32))]
  refine own_iload_n (pc' := 1) X0 dd_jdk_29_method_65_0 rfl rfl ?_
  refine own_iload_n (pc' := 2) X0 dd_jdk_29_method_65_1 rfl rfl ?_
  by_cases hj : j < 18
  · refine own_icmpY (pc' := 9) X0 dd_jdk_29_method_65_2 ((tlt (own_i32lt (n := 18) hj (by decide))).1) (by decide) (by decide) ?_
    refine own_iload_n (pc' := 10) X0 dd_jdk_29_method_65_9 rfl rfl ?_
    exact own_ret X0 hGe (t := .int) rfl rfl (Or.inl ⟨rfl, by simp, _, rfl⟩) dd_jdk_29_method_65_10 (by decide) (by decide) ⟨rfl, rfl⟩ nofun
  · refine own_icmpN (pc' := 5) X0 dd_jdk_29_method_65_2 rfl ((flt (own_i32le (n := 18) (by omega) (by omega))).1) ?_
    refine own_iload_n (pc' := 6) X0 dd_jdk_29_method_65_5 rfl rfl ?_
    refine own_goto (pc' := 10) X0 dd_jdk_29_method_65_6 (by decide) (by decide) ?_
    exact own_ret X0 hGe (t := .int) rfl rfl (Or.inl ⟨rfl, by simp, _, rfl⟩) dd_jdk_29_method_65_10 (by decide) (by decide) ⟨by rw [show j = 18 by omega]; rfl, rfl⟩ nofun
theorem dd_jdk_48_method_27_0 : decode jdk_48_method_27_code 0 = .ok (.iload_n 0, 1) := by decide +kernel
theorem dd_jdk_48_method_27_1 : decode jdk_48_method_27_code 1 = .ok (.iload_n 1, 1) := by decide +kernel
theorem dd_jdk_48_method_27_2 : decode jdk_48_method_27_code 2 = .ok (.iload_n 2, 1) := by decide +kernel
theorem dd_jdk_48_method_27_3 : decode jdk_48_method_27_code 3 = .ok (.invokestatic 194, 3) := by decide +kernel
theorem pd_2 : parseMethodDescriptor "(II)I" = some ⟨[.int, .int], some .int⟩ := by decide +kernel
theorem dd_jdk_48_method_27_6 : decode jdk_48_method_27_code 6 = .ok (.iadd, 1) := by decide +kernel
theorem dd_jdk_48_method_27_7 : decode jdk_48_method_27_code 7 = .ok (.istore_n 3, 1) := by decide +kernel
theorem dd_jdk_48_method_27_8 : decode jdk_48_method_27_code 8 = .ok (.iconst 0, 1) := by decide +kernel
theorem dd_jdk_48_method_27_9 : decode jdk_48_method_27_code 9 = .ok (.iload_n 3, 1) := by decide +kernel
theorem dd_jdk_48_method_27_10 : decode jdk_48_method_27_code 10 = .ok (.if_icmp .ge 11, 3) := by decide +kernel
theorem dd_jdk_48_method_27_13 : decode jdk_48_method_27_code 13 = .ok (.iload_n 3, 1) := by decide +kernel
theorem dd_jdk_48_method_27_14 : decode jdk_48_method_27_code 14 = .ok (.ldc 200, 2) := by decide +kernel
theorem dd_jdk_48_method_27_16 : decode jdk_48_method_27_code 16 = .ok (.if_icmp .gt 5, 3) := by decide +kernel
theorem dd_jdk_48_method_27_19 : decode jdk_48_method_27_code 19 = .ok (.iload_n 3, 1) := by decide +kernel
theorem dd_jdk_48_method_27_20 : decode jdk_48_method_27_code 20 = .ok (.ireturn, 1) := by decide +kernel
theorem pn_4 : plainName "jdk/internal/util/ArraysSupport" = true := by first | (simp [plainName, overriddenIn]; done) | decide +kernel
theorem ef_own_nlen (m : MethodId) (x0 : Int32) (x1 : Int32) (x2 : Int32) : entryFrame m #[(.int x0), (.int x1), (.int x2)] 4 = mkF m 0 #[.val (.int x0), .val (.int x1), .val (.int x2), .unset] [] := by first | (simp [entryFrame, mkF, argsToLocals, Value.category]; done) | rfl
set_option maxRecDepth 65536 in
set_option maxHeartbeats 40000000 in
theorem own_nlen (l : Launch) (Z : State) (a0 : Array Value) (hw : ∀ d ∈ tables_1, d.before a0 Z = true) (EWf : own_EW Z own_EL) (n0 : Nat) (j : Nat) (h0 : Heap) (O0 : Old Z n0 h0) (p_j : j ≤ 18) :
    own_Met l Z own_EL [] false n0 (⟨"jdk/internal/util/ArraysSupport", "newLength", "(III)I"⟩ : MethodName) jdk_48_method_27_code 4 (some .int) ({ frames := 1, cells := 0, slots := 0, locals := 14 } : Room) #[(.int (16 : Int32)), (.int (Int32.ofNat j)), (.int (18 : Int32))] h0 (fun v h => v = some (.int 34) ∧ h0 = h) := by
  refine own_enter (own := "jdk/internal/util/ArraysSupport") (nm := "newLength") (plainFor_of_name pn_4) rfl rfl O0 EWf ?_
  have W : ∀ (k : Nat) {d : Jvm.Cond}, tables_1[k]? = some d → d.before a0 Z = true := fun k d q => hw d (List.mem_of_getElem? q)
  intro G p e s m below meth c T0 hGe X0
  rw [ef_own_nlen m ((16 : Int32)) ((Int32.ofNat j)) ((18 : Int32))]
  refine own_iload_n (pc' := 1) X0 dd_jdk_48_method_27_0 rfl rfl ?_
  refine own_iload_n (pc' := 2) X0 dd_jdk_48_method_27_1 rfl rfl ?_
  refine own_iload_n (pc' := 3) X0 dd_jdk_48_method_27_2 rfl rfl ?_
  refine own_callSM (pc' := 6) (cells' := 0) (slots' := 0) (argsL := [(.int (Int32.ofNat j)), (.int (18 : Int32))]) (rest := [(.int (16 : Int32))]) (W := 1) (y := (⟨"java/lang/Math", "max", "(II)I"⟩ : MethodName)) X0 (W 234 rfl) (W 235 rfl) (by decide) (own_mx18 l Z a0 hw EWf n0 j h0 (own_old X0) p_j) all0 (W 236 rfl) (W 182 rfl) (by decide) (by decide) rfl (lenOf pd_2 rfl) rfl rfl dd_jdk_48_method_27_3 rfl rfl rfl rfl (by decide) (by decide) ?_
  intro v1 T1 h1 s1 X1 q1 r1
  obtain ⟨rfl, rfl⟩ := q1
  show G T1 (mkF m 6 #[.val (.int (16 : Int32)), .val (.int (Int32.ofNat j)), .val (.int (18 : Int32)), .unset] [(.int (18 : Int32)), (.int (16 : Int32))])
  refine own_iadd (pc' := 7) X1 dd_jdk_48_method_27_6 rfl (r := (34 : Int32)) (by decide) ?_
  refine own_istore_n (pc' := 8) X1 dd_jdk_48_method_27_7 rfl (Ls' := #[.val (.int (16 : Int32)), .val (.int (Int32.ofNat j)), .val (.int (18 : Int32)), .val (.int (34 : Int32))]) rfl ?_
  refine own_iconst (pc' := 9) X1 dd_jdk_48_method_27_8 rfl (z := (0 : Int32)) (by decide) ?_
  refine own_iload_n (pc' := 10) X1 dd_jdk_48_method_27_9 rfl rfl ?_
  refine own_icmpN (pc' := 13) X1 dd_jdk_48_method_27_10 rfl ((tlt (by decide)).2.1) ?_
  refine own_iload_n (pc' := 14) X1 dd_jdk_48_method_27_13 rfl rfl ?_
  refine own_ldcI (pc' := 16) X1 (v := (2147483639 : Int32)) (W 237 rfl) dd_jdk_48_method_27_14 rfl ?_
  refine own_icmpN (pc' := 19) X1 dd_jdk_48_method_27_16 rfl ((flt (by decide)).2.2.1) ?_
  refine own_iload_n (pc' := 20) X1 dd_jdk_48_method_27_19 rfl rfl ?_
  exact own_ret X1 hGe (t := .int) rfl rfl (Or.inl ⟨rfl, by simp, _, rfl⟩) dd_jdk_48_method_27_20 (by decide) (by decide) ⟨rfl, rfl⟩ nofun
theorem dd_jdk_68_method_10_0 : decode jdk_68_method_10_code 0 = .ok (.aload_n 0, 1) := by decide +kernel
theorem dd_jdk_68_method_10_1 : decode jdk_68_method_10_code 1 = .ok (.getfield 15, 3) := by decide +kernel
theorem dd_jdk_68_method_10_4 : decode jdk_68_method_10_code 4 = .ok (.arraylength, 1) := by decide +kernel
theorem dd_jdk_68_method_10_5 : decode jdk_68_method_10_code 5 = .ok (.istore_n 2, 1) := by decide +kernel
theorem dd_jdk_68_method_10_6 : decode jdk_68_method_10_code 6 = .ok (.iload_n 1, 1) := by decide +kernel
theorem dd_jdk_68_method_10_7 : decode jdk_68_method_10_code 7 = .ok (.aload_n 0, 1) := by decide +kernel
theorem dd_jdk_68_method_10_8 : decode jdk_68_method_10_code 8 = .ok (.getfield 22, 3) := by decide +kernel
theorem dd_jdk_68_method_10_11 : decode jdk_68_method_10_code 11 = .ok (.ishl, 1) := by decide +kernel
theorem dd_jdk_68_method_10_12 : decode jdk_68_method_10_code 12 = .ok (.istore_n 3, 1) := by decide +kernel
theorem dd_jdk_68_method_10_13 : decode jdk_68_method_10_code 13 = .ok (.iload_n 3, 1) := by decide +kernel
theorem dd_jdk_68_method_10_14 : decode jdk_68_method_10_code 14 = .ok (.iload_n 2, 1) := by decide +kernel
theorem dd_jdk_68_method_10_15 : decode jdk_68_method_10_code 15 = .ok (.isub, 1) := by decide +kernel
theorem dd_jdk_68_method_10_16 : decode jdk_68_method_10_code 16 = .ok (.istore 4, 2) := by decide +kernel
theorem dd_jdk_68_method_10_18 : decode jdk_68_method_10_code 18 = .ok (.iload_n 2, 1) := by decide +kernel
theorem dd_jdk_68_method_10_19 : decode jdk_68_method_10_code 19 = .ok (.iload 4, 2) := by decide +kernel
theorem dd_jdk_68_method_10_21 : decode jdk_68_method_10_code 21 = .ok (.iload_n 2, 1) := by decide +kernel
theorem dd_jdk_68_method_10_22 : decode jdk_68_method_10_code 22 = .ok (.iconst 2, 1) := by decide +kernel
theorem dd_jdk_68_method_10_23 : decode jdk_68_method_10_code 23 = .ok (.aload_n 0, 1) := by decide +kernel
theorem dd_jdk_68_method_10_24 : decode jdk_68_method_10_code 24 = .ok (.getfield 22, 3) := by decide +kernel
theorem dd_jdk_68_method_10_27 : decode jdk_68_method_10_code 27 = .ok (.ishl, 1) := by decide +kernel
theorem dd_jdk_68_method_10_28 : decode jdk_68_method_10_code 28 = .ok (.iadd, 1) := by decide +kernel
theorem dd_jdk_68_method_10_29 : decode jdk_68_method_10_code 29 = .ok (.invokestatic 114, 3) := by decide +kernel
theorem pd_3 : parseMethodDescriptor "(III)I" = some ⟨[.int, .int, .int], some .int⟩ := by decide +kernel
theorem dd_jdk_68_method_10_32 : decode jdk_68_method_10_code 32 = .ok (.istore 5, 2) := by decide +kernel
theorem dd_jdk_68_method_10_34 : decode jdk_68_method_10_code 34 = .ok (.iload 5, 2) := by decide +kernel
theorem dd_jdk_68_method_10_36 : decode jdk_68_method_10_code 36 = .ok (.ldc 39, 2) := by decide +kernel
theorem dd_jdk_68_method_10_38 : decode jdk_68_method_10_code 38 = .ok (.if_icmp .ne 13, 3) := by decide +kernel
theorem dd_jdk_68_method_10_51 : decode jdk_68_method_10_code 51 = .ok (.iload 5, 2) := by decide +kernel
theorem dd_jdk_68_method_10_53 : decode jdk_68_method_10_code 53 = .ok (.aload_n 0, 1) := by decide +kernel
theorem dd_jdk_68_method_10_54 : decode jdk_68_method_10_code 54 = .ok (.getfield 22, 3) := by decide +kernel
theorem dd_jdk_68_method_10_57 : decode jdk_68_method_10_code 57 = .ok (.ishr, 1) := by decide +kernel
theorem dd_jdk_68_method_10_58 : decode jdk_68_method_10_code 58 = .ok (.ireturn, 1) := by decide +kernel
theorem ef_own_ncap (m : MethodId) (x0 : Addr) (x1 : Int32) : entryFrame m #[(.ref x0), (.int x1)] 6 = mkF m 0 #[.val (.ref x0), .val (.int x1), .unset, .unset, .unset, .unset] [] := by first | (simp [entryFrame, mkF, argsToLocals, Value.category]; done) | rfl
set_option maxRecDepth 65536 in
set_option maxHeartbeats 40000000 in
theorem own_ncap (l : Launch) (Z : State) (a0 : Array Value) (hw : ∀ d ∈ tables_1, d.before a0 Z = true) (EWf : own_EW Z own_EL) (n0 : Nat) (b a : Addr) (k : ClassId) (vs : List Value) (mm : Nat) (h0 : Heap) (O0 : Old Z n0 h0) (p_V : Fld Z h0 b "java/lang/AbstractStringBuilder" "value" "[B" (.ref a)) (p_C : Fld Z h0 b "java/lang/AbstractStringBuilder" "coder" "B" (.int 0)) (p_A : own_Arr Z h0 a k .byte vs) (p_l : vs.length = 16) (p_m : 16 < mm) (p_34 : mm ≤ 34) :
    own_Met l Z own_EL [] false n0 (⟨"java/lang/AbstractStringBuilder", "newCapacity", "(I)I"⟩ : MethodName) jdk_68_method_10_code 6 (some .int) ({ frames := 2, cells := 0, slots := 0, locals := 29 } : Room) #[(.ref b), (.int (Int32.ofNat mm))] h0 (fun v h => v = some (.int 34) ∧ h0 = h) := by
  refine own_enter (own := "java/lang/AbstractStringBuilder") (nm := "newCapacity") (plainFor_of_name pn_0) rfl rfl O0 EWf ?_
  have W : ∀ (k : Nat) {d : Jvm.Cond}, tables_1[k]? = some d → d.before a0 Z = true := fun k d q => hw d (List.mem_of_getElem? q)
  intro G p e s m below meth c T0 hGe X0
  rw [ef_own_ncap m b ((Int32.ofNat mm))]
  refine own_aload_n (pc' := 1) X0 dd_jdk_68_method_10_0 rfl rfl rfl ?_
  refine own_get (pc' := 4) X0 (host := "") (Or.inl (W 68 rfl)) Via.refl p_V dd_jdk_68_method_10_1 rfl ?_
  intro T1 X1
  refine own_arraylength (pc' := 5) (z := (16 : Int32)) X1 p_A (by rw [p_l]; rfl) dd_jdk_68_method_10_4 rfl ?_
  refine own_istore_n (pc' := 6) X1 dd_jdk_68_method_10_5 rfl (Ls' := #[.val (.ref b), .val (.int (Int32.ofNat mm)), .val (.int (16 : Int32)), .unset, .unset, .unset]) rfl ?_
  refine own_iload_n (pc' := 7) X1 dd_jdk_68_method_10_6 rfl rfl ?_
  refine own_aload_n (pc' := 8) X1 dd_jdk_68_method_10_7 rfl rfl rfl ?_
  refine own_get (pc' := 11) X1 (host := "") (Or.inl (W 70 rfl)) Via.refl p_C dd_jdk_68_method_10_8 rfl ?_
  intro T2 X2
  refine own_ishl (pc' := 12) X2 dd_jdk_68_method_10_11 rfl (r := (Int32.ofNat mm)) (own_shl0 _) ?_
  refine own_istore_n (pc' := 13) X2 dd_jdk_68_method_10_12 rfl (Ls' := #[.val (.ref b), .val (.int (Int32.ofNat mm)), .val (.int (16 : Int32)), .val (.int (Int32.ofNat mm)), .unset, .unset]) rfl ?_
  refine own_iload_n (pc' := 14) X2 dd_jdk_68_method_10_13 rfl rfl ?_
  refine own_iload_n (pc' := 15) X2 dd_jdk_68_method_10_14 rfl rfl ?_
  refine own_isub (pc' := 16) X2 dd_jdk_68_method_10_15 rfl (r := (Int32.ofNat (mm - 16))) (own_i32sub (b := 16) (by omega) (by omega)) ?_
  refine own_istore (pc' := 18) X2 dd_jdk_68_method_10_16 rfl (Ls' := #[.val (.ref b), .val (.int (Int32.ofNat mm)), .val (.int (16 : Int32)), .val (.int (Int32.ofNat mm)), .val (.int (Int32.ofNat (mm - 16))), .unset]) rfl ?_
  refine own_iload_n (pc' := 19) X2 dd_jdk_68_method_10_18 rfl rfl ?_
  refine own_iload (pc' := 21) X2 dd_jdk_68_method_10_19 rfl rfl ?_
  refine own_iload_n (pc' := 22) X2 dd_jdk_68_method_10_21 rfl rfl ?_
  refine own_iconst (pc' := 23) X2 dd_jdk_68_method_10_22 rfl (z := (2 : Int32)) (by decide) ?_
  refine own_aload_n (pc' := 24) X2 dd_jdk_68_method_10_23 rfl rfl rfl ?_
  refine own_get (pc' := 27) X2 (host := "") (Or.inl (W 70 rfl)) Via.refl p_C dd_jdk_68_method_10_24 rfl ?_
  intro T3 X3
  refine own_ishl (pc' := 28) X3 dd_jdk_68_method_10_27 rfl (r := (2 : Int32)) (own_shl0 _) ?_
  refine own_iadd (pc' := 29) X3 dd_jdk_68_method_10_28 rfl (r := (18 : Int32)) (by decide) ?_
  refine own_callSM (pc' := 32) (cells' := 0) (slots' := 0) (argsL := [(.int (16 : Int32)), (.int (Int32.ofNat (mm - 16))), (.int (18 : Int32))]) (rest := []) (W := 0) (y := (⟨"jdk/internal/util/ArraysSupport", "newLength", "(III)I"⟩ : MethodName)) X3 (W 230 rfl) (W 231 rfl) (by decide) (own_nlen l Z a0 hw EWf n0 (mm - 16) h0 (own_old X3) (by omega)) all0 (W 233 rfl) (W 232 rfl) (by decide) (by decide) rfl (lenOf pd_3 rfl) rfl rfl dd_jdk_68_method_10_29 rfl rfl rfl rfl (by decide) (by decide) ?_
  intro v4 T4 h4 s4 X4 q4 r4
  obtain ⟨rfl, rfl⟩ := q4
  show G T4 (mkF m 32 #[.val (.ref b), .val (.int (Int32.ofNat mm)), .val (.int (16 : Int32)), .val (.int (Int32.ofNat mm)), .val (.int (Int32.ofNat (mm - 16))), .unset] [(.int (34 : Int32))])
  refine own_istore (pc' := 34) X4 dd_jdk_68_method_10_32 rfl (Ls' := #[.val (.ref b), .val (.int (Int32.ofNat mm)), .val (.int (16 : Int32)), .val (.int (Int32.ofNat mm)), .val (.int (Int32.ofNat (mm - 16))), .val (.int (34 : Int32))]) rfl ?_
  refine own_iload (pc' := 36) X4 dd_jdk_68_method_10_34 rfl rfl ?_
  refine own_ldcI (pc' := 38) X4 (v := (2147483647 : Int32)) (W 238 rfl) dd_jdk_68_method_10_36 rfl ?_
  refine own_icmpY (pc' := 51) X4 dd_jdk_68_method_10_38 ((feq (by decide)).2) (by decide) (by decide) ?_
  refine own_iload (pc' := 53) X4 dd_jdk_68_method_10_51 rfl rfl ?_
  refine own_aload_n (pc' := 54) X4 dd_jdk_68_method_10_53 rfl rfl rfl ?_
  refine own_get (pc' := 57) X4 (host := "") (Or.inl (W 70 rfl)) Via.refl p_C dd_jdk_68_method_10_54 rfl ?_
  intro T5 X5
  refine own_ishr (pc' := 58) X5 dd_jdk_68_method_10_57 rfl (r := (34 : Int32)) (own_shr0 _) ?_
  exact own_ret X5 hGe (t := .int) rfl rfl (Or.inl ⟨rfl, by simp, _, rfl⟩) dd_jdk_68_method_10_58 (by decide) (by decide) ⟨rfl, rfl⟩ nofun
theorem dd_jdk_29_method_69_0 : decode jdk_29_method_69_code 0 = .ok (.iload_n 0, 1) := by decide +kernel
theorem dd_jdk_29_method_69_1 : decode jdk_29_method_69_code 1 = .ok (.iload_n 1, 1) := by decide +kernel
theorem dd_jdk_29_method_69_2 : decode jdk_29_method_69_code 2 = .ok (.if_icmp .gt 7, 3) := by decide +kernel
theorem dd_jdk_29_method_69_9 : decode jdk_29_method_69_code 9 = .ok (.iload_n 1, 1) := by decide +kernel
theorem dd_jdk_29_method_69_10 : decode jdk_29_method_69_code 10 = .ok (.ireturn, 1) := by decide +kernel
theorem dd_jdk_29_method_69_5 : decode jdk_29_method_69_code 5 = .ok (.iload_n 0, 1) := by decide +kernel
theorem dd_jdk_29_method_69_6 : decode jdk_29_method_69_code 6 = .ok (.goto 4, 3) := by decide +kernel
theorem pf_5 : plainFor (⟨"java/lang/Math", "min", "(II)I"⟩ : MethodName) = true := by decide +kernel
theorem ef_own_mn (m : MethodId) (x0 : Int32) (x1 : Int32) : entryFrame m #[(.int x0), (.int x1)] 2 = mkF m 0 #[.val (.int x0), .val (.int x1)] [] := by first | (simp [entryFrame, mkF, argsToLocals, Value.category]; done) | rfl
set_option maxRecDepth 65536 in
set_option maxHeartbeats 40000000 in
theorem own_mn (l : Launch) (Z : State) (a0 : Array Value) (hw : ∀ d ∈ tables_1, d.before a0 Z = true) (EWf : own_EW Z own_EL) (n0 : Nat) (i j : Nat) (h0 : Heap) (O0 : Old Z n0 h0) (p_i : i < 2 ^ 31) (p_j : j < 2 ^ 31) :
    own_Met l Z own_EL [] false n0 (⟨"java/lang/Math", "min", "(II)I"⟩ : MethodName) jdk_29_method_69_code 2 (some .int) ({ frames := 0, cells := 0, slots := 0, locals := 0 } : Room) #[(.int (Int32.ofNat i)), (.int (Int32.ofNat j))] h0 (fun v h => v = some (.int (Int32.ofNat (min i j))) ∧ h0 = h) := by
  refine own_enter (own := "java/lang/Math") (nm := "min") pf_5 rfl rfl O0 EWf ?_
  have W : ∀ (k : Nat) {d : Jvm.Cond}, tables_1[k]? = some d → d.before a0 Z = true := fun k d q => hw d (List.mem_of_getElem? q)
  intro G p e s m below meth c T0 hGe X0
  rw [ef_own_mn m ((Int32.ofNat i)) ((Int32.ofNat j))]
  refine own_iload_n (pc' := 1) X0 dd_jdk_29_method_69_0 rfl rfl ?_
  refine own_iload_n (pc' := 2) X0 dd_jdk_29_method_69_1 rfl rfl ?_
  by_cases hj : j < i
  · refine own_icmpY (pc' := 9) X0 dd_jdk_29_method_69_2 ((tlt (own_i32lt hj p_i)).2.2.1) (by decide) (by decide) ?_
    refine own_iload_n (pc' := 10) X0 dd_jdk_29_method_69_9 rfl rfl ?_
    exact own_ret X0 hGe (t := .int) rfl rfl (Or.inl ⟨rfl, by simp, _, rfl⟩) dd_jdk_29_method_69_10 (by decide) (by decide) ⟨by rw [Nat.min_eq_right (by omega)], rfl⟩ nofun
  · refine own_icmpN (pc' := 5) X0 dd_jdk_29_method_69_2 rfl ((flt (own_i32le (by omega) p_j)).2.2.1) ?_
    refine own_iload_n (pc' := 6) X0 dd_jdk_29_method_69_5 rfl rfl ?_
    refine own_goto (pc' := 10) X0 dd_jdk_29_method_69_6 (by decide) (by decide) ?_
    exact own_ret X0 hGe (t := .int) rfl rfl (Or.inl ⟨rfl, by simp, _, rfl⟩) dd_jdk_29_method_69_10 (by decide) (by decide) ⟨by rw [Nat.min_eq_left (by omega)], rfl⟩ nofun
theorem dd_jdk_65_method_121_0 : decode jdk_65_method_121_code 0 = .ok (.iload_n 1, 1) := by decide +kernel
theorem dd_jdk_65_method_121_1 : decode jdk_65_method_121_code 1 = .ok (.aload_n 0, 1) := by decide +kernel
theorem dd_jdk_65_method_121_2 : decode jdk_65_method_121_code 2 = .ok (.arraylength, 1) := by decide +kernel
theorem dd_jdk_65_method_121_3 : decode jdk_65_method_121_code 3 = .ok (.if_icmp .ne 11, 3) := by decide +kernel
theorem dd_jdk_65_method_121_14 : decode jdk_65_method_121_code 14 = .ok (.iload_n 1, 1) := by decide +kernel
theorem dd_jdk_65_method_121_15 : decode jdk_65_method_121_code 15 = .ok (.newarray .byte, 2) := by decide +kernel
theorem dd_jdk_65_method_121_17 : decode jdk_65_method_121_code 17 = .ok (.astore_n 2, 1) := by decide +kernel
theorem dd_jdk_65_method_121_18 : decode jdk_65_method_121_code 18 = .ok (.aload_n 0, 1) := by decide +kernel
theorem dd_jdk_65_method_121_19 : decode jdk_65_method_121_code 19 = .ok (.iconst 0, 1) := by decide +kernel
theorem dd_jdk_65_method_121_20 : decode jdk_65_method_121_code 20 = .ok (.aload_n 2, 1) := by decide +kernel
theorem dd_jdk_65_method_121_21 : decode jdk_65_method_121_code 21 = .ok (.iconst 0, 1) := by decide +kernel
theorem dd_jdk_65_method_121_22 : decode jdk_65_method_121_code 22 = .ok (.aload_n 0, 1) := by decide +kernel
theorem dd_jdk_65_method_121_23 : decode jdk_65_method_121_code 23 = .ok (.arraylength, 1) := by decide +kernel
theorem dd_jdk_65_method_121_24 : decode jdk_65_method_121_code 24 = .ok (.iload_n 1, 1) := by decide +kernel
theorem dd_jdk_65_method_121_25 : decode jdk_65_method_121_code 25 = .ok (.invokestatic 304, 3) := by decide +kernel
theorem dd_jdk_65_method_121_28 : decode jdk_65_method_121_code 28 = .ok (.invokestatic 150, 3) := by decide +kernel
theorem dd_jdk_65_method_121_31 : decode jdk_65_method_121_code 31 = .ok (.aload_n 2, 1) := by decide +kernel
theorem dd_jdk_65_method_121_32 : decode jdk_65_method_121_code 32 = .ok (.areturn, 1) := by decide +kernel
theorem pn_6 : plainName "java/util/Arrays" = true := by first | (simp [plainName, overriddenIn]; done) | decide +kernel
theorem ef_own_cpb (m : MethodId) (x0 : Addr) (x1 : Int32) : entryFrame m #[(.ref x0), (.int x1)] 3 = mkF m 0 #[.val (.ref x0), .val (.int x1), .unset] [] := by first | (simp [entryFrame, mkF, argsToLocals, Value.category]; done) | rfl
set_option maxRecDepth 65536 in
set_option maxHeartbeats 40000000 in
theorem own_cpb (l : Launch) (Z : State) (a0 : Array Value) (hw : ∀ d ∈ tables_1, d.before a0 Z = true) (EWf : own_EW Z own_EL) (n0 : Nat) (a : Addr) (k : ClassId) (vs : List Value) (h0 : Heap) (O0 : Old Z n0 h0) (p_A : own_Arr Z h0 a k .byte vs) (p_l : vs.length = 16) :
    own_Met l Z own_EL [] true n0 (⟨"java/util/Arrays", "copyOf", "([BI)[B"⟩ : MethodName) jdk_65_method_121_code 3 (some (.array .byte)) ({ frames := 1, cells := 1, slots := 34, locals := 20 } : Room) #[(.ref a), (.int (34 : Int32))] h0 (fun v h => ∃ (d : Addr) (kd : ClassId), v = some (.ref d) ∧ Keep h0 h [] ∧ h0.size ≤ d ∧ own_Arr Z h d kd .byte (vs ++ List.replicate 18 (.int 0)) ∧ Exa Z h d "[B") := by
  refine own_enter (own := "java/util/Arrays") (nm := "copyOf") (plainFor_of_name pn_6) rfl rfl O0 EWf ?_
  have W : ∀ (k : Nat) {d : Jvm.Cond}, tables_1[k]? = some d → d.before a0 Z = true := fun k d q => hw d (List.mem_of_getElem? q)
  intro G p e s m below meth c T0 hGe X0
  rw [ef_own_cpb m a ((34 : Int32))]
  refine own_iload_n (pc' := 1) X0 dd_jdk_65_method_121_0 rfl rfl ?_
  refine own_aload_n (pc' := 2) X0 dd_jdk_65_method_121_1 rfl rfl rfl ?_
  refine own_arraylength (pc' := 3) (z := (16 : Int32)) X0 p_A (by rw [p_l]; rfl) dd_jdk_65_method_121_2 rfl ?_
  refine own_icmpY (pc' := 14) X0 dd_jdk_65_method_121_3 ((feq (by decide)).2) (by decide) (by decide) ?_
  refine own_iload_n (pc' := 15) X0 dd_jdk_65_method_121_14 rfl rfl ?_
  refine own_newarrayF (pc' := 17) (cells' := 1) (slots' := 34) (n := 34) (cap := 34) (dv := (.int 0)) X0 (W 20 rfl) rfl (ad := "[B") (by decide) rfl (by decide) (by decide) dd_jdk_65_method_121_15 rfl rfl (by decide) (by decide) rfl (by decide) (by decide) ?_
  intro T1 h1 a1 k1 g1 X1 K1 A1 E1
  have n_a1 : n0 ≤ a1 := by rw [g1]; exact own_n0 X0
  have A1' : own_Arr Z h1 a1 k1 .byte [(.int 0), (.int 0), (.int 0), (.int 0), (.int 0), (.int 0), (.int 0), (.int 0), (.int 0), (.int 0), (.int 0), (.int 0), (.int 0), (.int 0), (.int 0), (.int 0), (.int 0), (.int 0), (.int 0), (.int 0), (.int 0), (.int 0), (.int 0), (.int 0), (.int 0), (.int 0), (.int 0), (.int 0), (.int 0), (.int 0), (.int 0), (.int 0), (.int 0), (.int 0)] := A1
  refine own_astore_n (pc' := 18) X1 dd_jdk_65_method_121_17 rfl rfl (Ls' := #[.val (.ref a), .val (.int (34 : Int32)), .val (.ref a1)]) rfl ?_
  refine own_aload_n (pc' := 19) X1 dd_jdk_65_method_121_18 rfl rfl rfl ?_
  refine own_iconst (pc' := 20) X1 dd_jdk_65_method_121_19 rfl (z := (0 : Int32)) (by decide) ?_
  refine own_aload_n (pc' := 21) X1 dd_jdk_65_method_121_20 rfl rfl rfl ?_
  refine own_iconst (pc' := 22) X1 dd_jdk_65_method_121_21 rfl (z := (0 : Int32)) (by decide) ?_
  refine own_aload_n (pc' := 23) X1 dd_jdk_65_method_121_22 rfl rfl rfl ?_
  have f2 := (p_A.keep K1 nin0)
  refine own_arraylength (pc' := 24) (z := (16 : Int32)) X1 f2 (by rw [p_l]; rfl) dd_jdk_65_method_121_23 rfl ?_
  refine own_iload_n (pc' := 25) X1 dd_jdk_65_method_121_24 rfl rfl ?_
  refine own_callSM (pc' := 28) (cells' := 1) (slots' := 34) (argsL := [(.int (16 : Int32)), (.int (34 : Int32))]) (rest := [(.int (0 : Int32)), (.ref a1), (.int (0 : Int32)), (.ref a)]) (W := 4) (y := (⟨"java/lang/Math", "min", "(II)I"⟩ : MethodName)) X1 (W 180 rfl) (W 181 rfl) (by decide) (own_mn l Z a0 hw EWf n0 16 34 h1 (own_old X1) (by decide) (by decide)) all0 (W 183 rfl) (W 182 rfl) (by decide) (by decide) rfl (lenOf pd_2 rfl) rfl rfl dd_jdk_65_method_121_25 rfl rfl rfl rfl (by decide) (by decide) ?_
  intro v3 T3 h3 s3 X3 q3 r3
  obtain ⟨rfl, rfl⟩ := q3
  show G T3 (mkF m 28 #[.val (.ref a), .val (.int (34 : Int32)), .val (.ref a1)] [(.int (16 : Int32)), (.int (0 : Int32)), (.ref a1), (.int (0 : Int32)), (.ref a)])
  refine own_arraycopyP (pc' := 31) (W := 0) (sp := 0) (dp := 0) (n := 16) X3 (W 184 rfl) (W 118 rfl) (W 116 rfl) (W 117 rfl) f2 A1' (Or.inl ⟨rfl, rfl⟩) (by decide) (by decide) (by decide) (by omega) (by simp) n_a1 (List.mem_of_getElem? (i := 0) rfl) rfl rfl dd_jdk_65_method_121_28 rfl (by decide) (by decide) ?_
  intro T4 h4 X4 K4 A4
  have A4' : own_Arr Z h4 a1 k1 .byte (vs ++ List.replicate 18 (.int 0)) := by have q := A4; rw [show (vs.drop 0).take 16 = vs from by rw [List.drop_zero, List.take_of_length_le (by omega)]] at q; exact q
  refine own_aload_n (pc' := 32) X4 dd_jdk_65_method_121_31 rfl rfl rfl ?_
  have age_a1 : h0.size ≤ a1 := Nat.le_trans (Nat.le_refl _) (Nat.le_of_eq (Eq.symm g1))
  have f5 := (E1.keep K4)
  exact own_ret X4 hGe (t := (.array .byte)) rfl rfl (Or.inr (Or.inr (Or.inr (Or.inr ⟨rfl, rfl, rfl⟩)))) dd_jdk_65_method_121_32 (by decide) (by decide) ⟨a1, _, rfl, (((Keep.refl h0 []).trans K1 all0).trans K4 (allS (Or.inr age_a1) all0)), age_a1, A4', f5⟩ (fun _ b q => by cases q; exact (List.mem_of_getElem? (i := 0) rfl))
theorem dd_jdk_68_method_9_0 : decode jdk_68_method_9_code 0 = .ok (.aload_n 0, 1) := by decide +kernel
theorem dd_jdk_68_method_9_1 : decode jdk_68_method_9_code 1 = .ok (.getfield 15, 3) := by decide +kernel
theorem dd_jdk_68_method_9_4 : decode jdk_68_method_9_code 4 = .ok (.arraylength, 1) := by decide +kernel
theorem dd_jdk_68_method_9_5 : decode jdk_68_method_9_code 5 = .ok (.aload_n 0, 1) := by decide +kernel
theorem dd_jdk_68_method_9_6 : decode jdk_68_method_9_code 6 = .ok (.getfield 22, 3) := by decide +kernel
theorem dd_jdk_68_method_9_9 : decode jdk_68_method_9_code 9 = .ok (.ishr, 1) := by decide +kernel
theorem dd_jdk_68_method_9_10 : decode jdk_68_method_9_code 10 = .ok (.istore_n 2, 1) := by decide +kernel
theorem dd_jdk_68_method_9_11 : decode jdk_68_method_9_code 11 = .ok (.iload_n 1, 1) := by decide +kernel
theorem dd_jdk_68_method_9_12 : decode jdk_68_method_9_code 12 = .ok (.iload_n 2, 1) := by decide +kernel
theorem dd_jdk_68_method_9_13 : decode jdk_68_method_9_code 13 = .ok (.isub, 1) := by decide +kernel
theorem dd_jdk_68_method_9_14 : decode jdk_68_method_9_code 14 = .ok (.ifCond .le 24, 3) := by decide +kernel
theorem dd_jdk_68_method_9_17 : decode jdk_68_method_9_code 17 = .ok (.aload_n 0, 1) := by decide +kernel
theorem dd_jdk_68_method_9_18 : decode jdk_68_method_9_code 18 = .ok (.aload_n 0, 1) := by decide +kernel
theorem dd_jdk_68_method_9_19 : decode jdk_68_method_9_code 19 = .ok (.getfield 15, 3) := by decide +kernel
theorem dd_jdk_68_method_9_22 : decode jdk_68_method_9_code 22 = .ok (.aload_n 0, 1) := by decide +kernel
theorem dd_jdk_68_method_9_23 : decode jdk_68_method_9_code 23 = .ok (.iload_n 1, 1) := by decide +kernel
theorem dd_jdk_68_method_9_24 : decode jdk_68_method_9_code 24 = .ok (.invokevirtual 104, 3) := by decide +kernel
theorem pd_4 : parseMethodDescriptor "(I)I" = some ⟨[.int], some .int⟩ := by decide +kernel
theorem dd_jdk_68_method_9_27 : decode jdk_68_method_9_code 27 = .ok (.aload_n 0, 1) := by decide +kernel
theorem dd_jdk_68_method_9_28 : decode jdk_68_method_9_code 28 = .ok (.getfield 22, 3) := by decide +kernel
theorem dd_jdk_68_method_9_31 : decode jdk_68_method_9_code 31 = .ok (.ishl, 1) := by decide +kernel
theorem dd_jdk_68_method_9_32 : decode jdk_68_method_9_code 32 = .ok (.invokestatic 108, 3) := by decide +kernel
theorem pd_5 : parseMethodDescriptor "([BI)[B" = some ⟨[(.array .byte), .int], some (.array .byte)⟩ := by decide +kernel
theorem dd_jdk_68_method_9_35 : decode jdk_68_method_9_code 35 = .ok (.putfield 15, 3) := by decide +kernel
theorem dd_jdk_68_method_9_38 : decode jdk_68_method_9_code 38 = .ok (.return_, 1) := by decide +kernel
theorem ef_own_ens (m : MethodId) (x0 : Addr) (x1 : Int32) : entryFrame m #[(.ref x0), (.int x1)] 3 = mkF m 0 #[.val (.ref x0), .val (.int x1), .unset] [] := by first | (simp [entryFrame, mkF, argsToLocals, Value.category]; done) | rfl
set_option maxRecDepth 65536 in
set_option maxHeartbeats 40000000 in
theorem own_ens (l : Launch) (Z : State) (a0 : Array Value) (hw : ∀ d ∈ tables_1, d.before a0 Z = true) (EWf : own_EW Z own_EL) (n0 : Nat) (b a : Addr) (k : ClassId) (r : List Value) (cs : List Int32) (mm N : Nat) (h0 : Heap) (O0 : Old Z n0 h0) (p_S : own_SR Z N h0 b a k r cs 0) (p_34 : mm ≤ 34) (p_N0 : n0 ≤ N) (p_Nh : N ≤ h0.size) :
    own_Met l Z own_EL [] false n0 (⟨"java/lang/AbstractStringBuilder", "ensureCapacityInternal", "(I)V"⟩ : MethodName) jdk_68_method_9_code 3 none ({ frames := 3, cells := 1, slots := 34, locals := 48 } : Room) #[(.ref b), (.int (Int32.ofNat mm))] h0 (fun v h => v = none ∧ Keep h0 h [b] ∧ ∃ (a' : Addr) (k' : ClassId) (r' : List Value), (a = a' ∨ h0.size ≤ a') ∧ own_SR Z N h b a' k' r' cs mm) := by
  refine own_enter (own := "java/lang/AbstractStringBuilder") (nm := "ensureCapacityInternal") (plainFor_of_name pn_0) rfl rfl O0 EWf ?_
  have W : ∀ (k : Nat) {d : Jvm.Cond}, tables_1[k]? = some d → d.before a0 Z = true := fun k d q => hw d (List.mem_of_getElem? q)
  intro G p e s m below meth c T0 hGe X0
  rw [ef_own_ens m b ((Int32.ofNat mm))]
  obtain ⟨⟨p_E, p_V, p_C, p_N⟩, p_A, l_c, l_m, n_a, n_b, p_K⟩ := p_S
  have l_b := own_bsl cs
  have l_n : (own_bs cs ++ r).length = cs.length + r.length := by rw [List.length_append, own_bsl]
  refine own_aload_n (pc' := 1) X0 dd_jdk_68_method_9_0 rfl rfl rfl ?_
  refine own_get (pc' := 4) X0 (host := "") (Or.inl (W 68 rfl)) Via.refl p_V dd_jdk_68_method_9_1 rfl ?_
  intro T1 X1
  refine own_arraylength (pc' := 5) (z := (Int32.ofNat (cs.length + r.length))) X1 p_A (by rw [List.length_append, l_b]) dd_jdk_68_method_9_4 rfl ?_
  refine own_aload_n (pc' := 6) X1 dd_jdk_68_method_9_5 rfl rfl rfl ?_
  refine own_get (pc' := 9) X1 (host := "") (Or.inl (W 70 rfl)) Via.refl p_C dd_jdk_68_method_9_6 rfl ?_
  intro T2 X2
  refine own_ishr (pc' := 10) X2 dd_jdk_68_method_9_9 rfl (r := (Int32.ofNat (cs.length + r.length))) (own_shr0 _) ?_
  refine own_istore_n (pc' := 11) X2 dd_jdk_68_method_9_10 rfl (Ls' := #[.val (.ref b), .val (.int (Int32.ofNat mm)), .val (.int (Int32.ofNat (cs.length + r.length)))]) rfl ?_
  refine own_iload_n (pc' := 12) X2 dd_jdk_68_method_9_11 rfl rfl ?_
  refine own_iload_n (pc' := 13) X2 dd_jdk_68_method_9_12 rfl rfl ?_
  refine own_isub (pc' := 14) X2 dd_jdk_68_method_9_13 rfl (r := ((Int32.ofNat mm) - (Int32.ofNat (cs.length + r.length)))) rfl ?_
  by_cases hg : (cs.length + r.length) < mm
  · refine own_ifN (pc' := 17) X2 dd_jdk_68_method_9_14 rfl ((tlt ((own_subpos (by omega) (by omega)).mpr hg)).2.2.2) ?_
    have l_16 : (own_bs cs ++ r).length = 16 := by rw [List.length_append, l_b]; omega
    refine own_aload_n (pc' := 18) X2 dd_jdk_68_method_9_17 rfl rfl rfl ?_
    refine own_aload_n (pc' := 19) X2 dd_jdk_68_method_9_18 rfl rfl rfl ?_
    refine own_get (pc' := 22) X2 (host := "") (Or.inl (W 68 rfl)) Via.refl p_V dd_jdk_68_method_9_19 rfl ?_
    intro T3 X3
    refine own_aload_n (pc' := 23) X3 dd_jdk_68_method_9_22 rfl rfl rfl ?_
    refine own_iload_n (pc' := 24) X3 dd_jdk_68_method_9_23 rfl rfl ?_
    refine own_callPQ (pc' := 27) (cells' := 0) (slots' := 0) (argsL := [(.int (Int32.ofNat mm))]) (rest := [(.ref a), (.ref b)]) (W := 2) (y := (⟨"java/lang/AbstractStringBuilder", "newCapacity", "(I)I"⟩ : MethodName)) (a := b) X3 (W 225 rfl) (W 226 rfl) (W 227 rfl) (W 228 rfl) (by decide) p_E (own_ncap l Z a0 hw EWf n0 b a k (own_bs cs ++ r) mm h0 (own_old X3) p_V p_C p_A l_16 (by omega) p_34) all0 (W 229 rfl) (W 64 rfl) (by decide) (by decide) rfl (lenOf pd_4 rfl) rfl rfl dd_jdk_68_method_9_24 rfl rfl rfl rfl (by decide) (by decide) ?_
    intro v4 T4 h4 s4 X4 q4 r4
    obtain ⟨rfl, rfl⟩ := q4
    show G T4 (mkF m 27 #[.val (.ref b), .val (.int (Int32.ofNat mm)), .val (.int (Int32.ofNat (cs.length + r.length)))] [(.int (34 : Int32)), (.ref a), (.ref b)])
    refine own_aload_n (pc' := 28) X4 dd_jdk_68_method_9_27 rfl rfl rfl ?_
    refine own_get (pc' := 31) X4 (host := "") (Or.inl (W 70 rfl)) Via.refl p_C dd_jdk_68_method_9_28 rfl ?_
    intro T5 X5
    refine own_ishl (pc' := 32) X5 dd_jdk_68_method_9_31 rfl (r := (34 : Int32)) (own_shl0 _) ?_
    refine own_callSM (pc' := 35) (cells' := 1) (slots' := 34) (argsL := [(.ref a), (.int (34 : Int32))]) (rest := [(.ref b)]) (W := 1) (y := (⟨"java/util/Arrays", "copyOf", "([BI)[B"⟩ : MethodName)) X5 (W 239 rfl) (W 240 rfl) (by decide) (own_cpb l Z a0 hw EWf n0 a k (own_bs cs ++ r) h0 (own_old X5) p_A l_16) all0 (W 241 rfl) (W 172 rfl) (by decide) (by decide) rfl (lenOf pd_5 rfl) rfl rfl dd_jdk_68_method_9_32 rfl rfl rfl rfl (by decide) (by decide) ?_
    intro v6 T6 h6 s6 X6 q6 r6
    obtain ⟨d6, k6, rfl, K6, z6, A6, E6⟩ := q6
    have age_d6 : h0.size ≤ d6 := Nat.le_trans (Nat.le_refl _) z6
    have n_d6 : N ≤ d6 := Nat.le_trans p_Nh age_d6
    have X6' := own_addP X6 (r6 rfl d6 rfl)
    show G T6 (mkF m 35 #[.val (.ref b), .val (.int (Int32.ofNat mm)), .val (.int (Int32.ofNat (cs.length + r.length)))] [(.ref d6), (.ref b)])
    have f7 := (p_V.keep K6 nin0)
    have f8 := (p_E.keep K6)
    refine own_put (pc' := 38) X6' (host := "") (Or.inl (W 68 rfl)) Via.refl f7 f8 (Or.inl (W 69 rfl)) (W 55 rfl) (ty := (.array .byte)) (by decide) rfl rfl (Nat.le_trans p_N0 n_b) (Or.inl ⟨by decide, by decide⟩) dd_jdk_68_method_9_35 rfl ?_
    intro T9 h9 X9 W9 K9
    have f9_ := f7.same W9
    have ne_b_d6 : b ≠ d6 := own_ne p_E.lt (Nat.le_refl _) z6
    have f10 := (A6.keep K9 (ninS (Ne.symm ne_b_d6) nin0))
    have A' : own_Arr Z h9 d6 k6 .byte (own_bs cs ++ (r ++ List.replicate 18 (.int 0))) := by rw [← List.append_assoc]; exact f10
    have f11 := (f8.keep K9)
    have f12 := ((p_C.keep K6 nin0).other W9 (Or.inr (slot_ne (Or.inl (W 71 rfl)) (Or.inl (W 69 rfl)) (by decide) (t := .byte) (t' := (.array .byte)) (by decide) (by decide))))
    have f13 := ((p_N.keep K6 nin0).other W9 (Or.inr (slot_ne (Or.inl (W 93 rfl)) (Or.inl (W 69 rfl)) (by decide) (t := .int) (t' := (.array .byte)) (by decide) (by decide))))
    have f14 := (E6.keep K9)
    exact own_retV X9 hGe rfl dd_jdk_68_method_9_38 (by decide) (by decide) ⟨rfl, (((Keep.refl h0 [b]).trans K6 all0).trans K9 (allS (Or.inl (List.mem_of_getElem? (i := 0) rfl)) all0)), d6, _, _, Or.inr age_d6, ⟨⟨f11, f9_, f12, f13⟩, A', (by simp; omega), (by simp; omega), n_d6, n_b, f14⟩⟩
  · refine own_ifY (pc' := 38) X2 dd_jdk_68_method_9_14 ((flt (fun q => hg ((own_subpos (by omega) (by omega)).mp q))).2.2.2) (by decide) (by decide) ?_
    exact own_retV X2 hGe rfl dd_jdk_68_method_9_38 (by decide) (by decide) ⟨rfl, (Keep.refl h0 [b]), a, k, r, Or.inl rfl, ⟨⟨p_E, p_V, p_C, p_N⟩, p_A, l_c, (by omega), n_a, n_b, p_K⟩⟩
theorem dd_jdk_68_method_71_0 : decode jdk_68_method_71_code 0 = .ok (.getstatic 18, 3) := by decide +kernel
theorem dd_jdk_68_method_71_3 : decode jdk_68_method_71_code 3 = .ok (.ifCond .eq 18, 3) := by decide +kernel
theorem dd_jdk_68_method_71_6 : decode jdk_68_method_71_code 6 = .ok (.aload_n 0, 1) := by decide +kernel
theorem dd_jdk_68_method_71_7 : decode jdk_68_method_71_code 7 = .ok (.getfield 22, 3) := by decide +kernel
theorem dd_jdk_68_method_71_10 : decode jdk_68_method_71_code 10 = .ok (.aload_n 1, 1) := by decide +kernel
theorem dd_jdk_68_method_71_11 : decode jdk_68_method_71_code 11 = .ok (.invokevirtual 40, 3) := by decide +kernel
theorem dd_jdk_68_method_71_14 : decode jdk_68_method_71_code 14 = .ok (.if_icmp .eq 7, 3) := by decide +kernel
theorem dd_jdk_68_method_71_21 : decode jdk_68_method_71_code 21 = .ok (.return_, 1) := by decide +kernel
theorem ef_own_inf (m : MethodId) (x0 : Addr) (x1 : Addr) : entryFrame m #[(.ref x0), (.ref x1)] 2 = mkF m 0 #[.val (.ref x0), .val (.ref x1)] [] := by first | (simp [entryFrame, mkF, argsToLocals, Value.category]; done) | rfl
set_option maxRecDepth 65536 in
set_option maxHeartbeats 40000000 in
theorem own_inf (l : Launch) (Z : State) (a0 : Array Value) (hw : ∀ d ∈ tables_1, d.before a0 Z = true) (EWf : own_EW Z own_EL) (n0 : Nat) (b x : Addr) (h0 : Heap) (O0 : Old Z n0 h0) (p_C : Fld Z h0 b "java/lang/AbstractStringBuilder" "coder" "B" (.int 0)) (p_Ex : Exa Z h0 x "java/lang/String") (p_Cx : Fld Z h0 x "java/lang/String" "coder" "B" (.int 0)) (CS : own_CS Z) :
    own_Met l Z own_EL [] false n0 (⟨"java/lang/AbstractStringBuilder", "inflateIfNeededFor", "(Ljava/lang/String;)V"⟩ : MethodName) jdk_68_method_71_code 2 none ({ frames := 1, cells := 0, slots := 0, locals := 13 } : Room) #[(.ref b), (.ref x)] h0 (fun v h => v = none ∧ h0 = h) := by
  refine own_enter (own := "java/lang/AbstractStringBuilder") (nm := "inflateIfNeededFor") (plainFor_of_name pn_0) rfl rfl O0 EWf ?_
  have W : ∀ (k : Nat) {d : Jvm.Cond}, tables_1[k]? = some d → d.before a0 Z = true := fun k d q => hw d (List.mem_of_getElem? q)
  intro G p e s m below meth c T0 hGe X0
  rw [ef_own_inf m b x]
  have CS' := CS
  obtain ⟨zc, hS, hz⟩ := CS
  refine own_getS (pc' := 3) X0 (W 67 rfl) Via.refl (own_sta X0 hS) dd_jdk_68_method_71_0 rfl ?_
  intro T1 X1
  refine own_ifN (pc' := 6) X1 dd_jdk_68_method_71_3 rfl ((feq hz).1) ?_
  refine own_aload_n (pc' := 7) X1 dd_jdk_68_method_71_6 rfl rfl rfl ?_
  refine own_get (pc' := 10) X1 (host := "") (Or.inl (W 70 rfl)) Via.refl p_C dd_jdk_68_method_71_7 rfl ?_
  intro T2 X2
  refine own_aload_n (pc' := 11) X2 dd_jdk_68_method_71_10 rfl rfl rfl ?_
  refine own_callVM (pc' := 14) (cells' := 0) (slots' := 0) (argsL := []) (rest := [(.int (0 : Int32))]) (W := 1) (y := (⟨"java/lang/String", "coder", "()B"⟩ : MethodName)) (z := (⟨"java/lang/String", "coder", "()B"⟩ : MethodName)) (a := x) X2 (W 109 rfl) (W 88 rfl) (fun s' hZ' => notFace_of_selects (args := #[]) (mvT hZ' (W 90 rfl))) (W 90 rfl) (W 89 rfl) (by decide) p_Ex (own_cod l Z a0 hw EWf n0 x h0 (own_old X2) p_Cx CS') all0 (W 91 rfl) (W 3 rfl) (by decide) (by decide) rfl (lenOf pd_1 rfl) rfl rfl dd_jdk_68_method_71_11 rfl rfl rfl rfl (by decide) (by decide) ?_
  intro v3 T3 h3 s3 X3 q3 r3
  obtain ⟨rfl, rfl⟩ := q3
  show G T3 (mkF m 14 #[.val (.ref b), .val (.ref x)] [(.int (0 : Int32)), (.int (0 : Int32))])
  refine own_icmpY (pc' := 21) X3 dd_jdk_68_method_71_14 ((teq rfl).1) (by decide) (by decide) ?_
  exact own_retV X3 hGe rfl dd_jdk_68_method_71_21 (by decide) (by decide) ⟨rfl, rfl⟩
theorem dd_jdk_42_method_147_0 : decode jdk_42_method_147_code 0 = .ok (.aload_n 0, 1) := by decide +kernel
theorem dd_jdk_42_method_147_1 : decode jdk_42_method_147_code 1 = .ok (.invokevirtual 335, 3) := by decide +kernel
theorem dd_jdk_42_method_147_4 : decode jdk_42_method_147_code 4 = .ok (.iload_n 3, 1) := by decide +kernel
theorem dd_jdk_42_method_147_5 : decode jdk_42_method_147_code 5 = .ok (.if_icmp .ne 23, 3) := by decide +kernel
theorem dd_jdk_42_method_147_8 : decode jdk_42_method_147_code 8 = .ok (.aload_n 0, 1) := by decide +kernel
theorem dd_jdk_42_method_147_9 : decode jdk_42_method_147_code 9 = .ok (.getfield 9, 3) := by decide +kernel
theorem dd_jdk_42_method_147_12 : decode jdk_42_method_147_code 12 = .ok (.iconst 0, 1) := by decide +kernel
theorem dd_jdk_42_method_147_13 : decode jdk_42_method_147_code 13 = .ok (.aload_n 1, 1) := by decide +kernel
theorem dd_jdk_42_method_147_14 : decode jdk_42_method_147_code 14 = .ok (.iload_n 2, 1) := by decide +kernel
theorem dd_jdk_42_method_147_15 : decode jdk_42_method_147_code 15 = .ok (.iload_n 3, 1) := by decide +kernel
theorem dd_jdk_42_method_147_16 : decode jdk_42_method_147_code 16 = .ok (.ishl, 1) := by decide +kernel
theorem dd_jdk_42_method_147_17 : decode jdk_42_method_147_code 17 = .ok (.aload_n 0, 1) := by decide +kernel
theorem dd_jdk_42_method_147_18 : decode jdk_42_method_147_code 18 = .ok (.getfield 9, 3) := by decide +kernel
theorem dd_jdk_42_method_147_21 : decode jdk_42_method_147_code 21 = .ok (.arraylength, 1) := by decide +kernel
theorem dd_jdk_42_method_147_22 : decode jdk_42_method_147_code 22 = .ok (.invokestatic 212, 3) := by decide +kernel
theorem dd_jdk_42_method_147_25 : decode jdk_42_method_147_code 25 = .ok (.goto 18, 3) := by decide +kernel
theorem dd_jdk_42_method_147_43 : decode jdk_42_method_147_code 43 = .ok (.return_, 1) := by decide +kernel
theorem ef_own_gby (m : MethodId) (x0 : Addr) (x1 : Addr) (x2 : Int32) (x3 : Int32) : entryFrame m #[(.ref x0), (.ref x1), (.int x2), (.int x3)] 4 = mkF m 0 #[.val (.ref x0), .val (.ref x1), .val (.int x2), .val (.int x3)] [] := by first | (simp [entryFrame, mkF, argsToLocals, Value.category]; done) | rfl
set_option maxRecDepth 65536 in
set_option maxHeartbeats 40000000 in
theorem own_gby (l : Launch) (Z : State) (a0 : Array Value) (hw : ∀ d ∈ tables_1, d.before a0 Z = true) (EWf : own_EW Z own_EL) (n0 : Nat) (x a : Addr) (k : ClassId) (vs : List Value) (n : Nat) (ds : List Int32) (h0 : Heap) (O0 : Old Z n0 h0) (p_S : own_SL Z h0 x ds) (p_A : own_Arr Z h0 a k .byte vs) (n_a : n0 ≤ a) (p_l : n + ds.length ≤ vs.length) (p_16 : 16 ≤ vs.length) (p_34 : vs.length ≤ 34) (CS : own_CS Z) :
    own_Met l Z own_EL [] false n0 (⟨"java/lang/String", "getBytes", "([BIB)V"⟩ : MethodName) jdk_42_method_147_code 4 none ({ frames := 1, cells := 0, slots := 0, locals := 20 } : Room) #[(.ref x), (.ref a), (.int (Int32.ofNat n)), (.int (0 : Int32))] h0 (fun v h => v = none ∧ Keep h0 h [a] ∧ own_Arr Z h a k .byte (vs.take n ++ own_bs ds ++ vs.drop (n + ds.length))) := by
  refine own_enter (own := "java/lang/String") (nm := "getBytes") (plainFor_of_name pn_2) rfl rfl O0 EWf ?_
  have W : ∀ (k : Nat) {d : Jvm.Cond}, tables_1[k]? = some d → d.before a0 Z = true := fun k d q => hw d (List.mem_of_getElem? q)
  intro G p e s m below meth c T0 hGe X0
  rw [ef_own_gby m x a ((Int32.ofNat n)) ((0 : Int32))]
  obtain ⟨t, kt, p_Ex, p_Vx, p_Cx, p_At⟩ := p_S
  have l_d := own_bsl ds
  refine own_aload_n (pc' := 1) X0 dd_jdk_42_method_147_0 rfl rfl rfl ?_
  refine own_callVM (pc' := 4) (cells' := 0) (slots' := 0) (argsL := []) (rest := []) (W := 0) (y := (⟨"java/lang/String", "coder", "()B"⟩ : MethodName)) (z := (⟨"java/lang/String", "coder", "()B"⟩ : MethodName)) (a := x) X0 (W 87 rfl) (W 88 rfl) (fun s' hZ' => notFace_of_selects (args := #[]) (mvT hZ' (W 90 rfl))) (W 90 rfl) (W 89 rfl) (by decide) p_Ex (own_cod l Z a0 hw EWf n0 x h0 (own_old X0) p_Cx CS) all0 (W 91 rfl) (W 3 rfl) (by decide) (by decide) rfl (lenOf pd_1 rfl) rfl rfl dd_jdk_42_method_147_1 rfl rfl rfl rfl (by decide) (by decide) ?_
  intro v1 T1 h1 s1 X1 q1 r1
  obtain ⟨rfl, rfl⟩ := q1
  show G T1 (mkF m 4 #[.val (.ref x), .val (.ref a), .val (.int (Int32.ofNat n)), .val (.int (0 : Int32))] [(.int (0 : Int32))])
  refine own_iload_n (pc' := 5) X1 dd_jdk_42_method_147_4 rfl rfl ?_
  refine own_icmpN (pc' := 8) X1 dd_jdk_42_method_147_5 rfl ((teq rfl).2) ?_
  refine own_aload_n (pc' := 9) X1 dd_jdk_42_method_147_8 rfl rfl rfl ?_
  refine own_get (pc' := 12) X1 (host := "") (Or.inl (W 29 rfl)) Via.refl p_Vx dd_jdk_42_method_147_9 rfl ?_
  intro T2 X2
  refine own_iconst (pc' := 13) X2 dd_jdk_42_method_147_12 rfl (z := (0 : Int32)) (by decide) ?_
  refine own_aload_n (pc' := 14) X2 dd_jdk_42_method_147_13 rfl rfl rfl ?_
  refine own_iload_n (pc' := 15) X2 dd_jdk_42_method_147_14 rfl rfl ?_
  refine own_iload_n (pc' := 16) X2 dd_jdk_42_method_147_15 rfl rfl ?_
  refine own_ishl (pc' := 17) X2 dd_jdk_42_method_147_16 rfl (r := (Int32.ofNat n)) (own_shl0 _) ?_
  refine own_aload_n (pc' := 18) X2 dd_jdk_42_method_147_17 rfl rfl rfl ?_
  refine own_get (pc' := 21) X2 (host := "") (Or.inl (W 29 rfl)) Via.refl p_Vx dd_jdk_42_method_147_18 rfl ?_
  intro T3 X3
  refine own_arraylength (pc' := 22) (z := (Int32.ofNat ds.length)) X3 p_At (by rw [l_d]) dd_jdk_42_method_147_21 rfl ?_
  have X4p := own_addP X3 (x := a) ⟨own_safeLen (own_warm X3) p_A (own_allP ⟨":", W 119 rfl, (by have := p_16; simp at this ⊢; omega)⟩ (own_allP ⟨"", W 224 rfl, (by have := p_16; simp at this ⊢; omega)⟩ own_allN)), p_A.lt⟩
  refine own_arraycopyP (pc' := 25) (W := 0) (sp := 0) (dp := n) (n := ds.length) X4p (W 115 rfl) (W 118 rfl) (W 116 rfl) (W 117 rfl) p_At p_A (Or.inl ⟨rfl, rfl⟩) (by decide) (own_i32 (by omega)) (own_i32 (by omega)) (by rw [l_d]; omega) p_l n_a (List.mem_of_getElem? (i := 0) rfl) rfl rfl dd_jdk_42_method_147_22 rfl (by decide) (by decide) ?_
  intro T5 h5 X5 K5 A5
  have A5' : own_Arr Z h5 a k .byte (vs.take n ++ own_bs ds ++ vs.drop (n + ds.length)) := by have q := A5; rw [show ((own_bs ds).drop 0).take ds.length = own_bs ds from by rw [List.drop_zero, List.take_of_length_le (by omega)]] at q; exact q
  refine own_goto (pc' := 43) X5 dd_jdk_42_method_147_25 (by decide) (by decide) ?_
  exact own_retV X5 hGe rfl dd_jdk_42_method_147_43 (by decide) (by decide) ⟨rfl, ((Keep.refl h0 [a]).trans K5 (allS (Or.inl (List.mem_of_getElem? (i := 0) rfl)) all0)), A5'⟩
theorem dd_jdk_68_method_73_0 : decode jdk_68_method_73_code 0 = .ok (.aload_n 0, 1) := by decide +kernel
theorem dd_jdk_68_method_73_1 : decode jdk_68_method_73_code 1 = .ok (.aload_n 2, 1) := by decide +kernel
theorem dd_jdk_68_method_73_2 : decode jdk_68_method_73_code 2 = .ok (.invokevirtual 397, 3) := by decide +kernel
theorem pd_6 : parseMethodDescriptor "(Ljava/lang/String;)V" = some ⟨[(.object "java/lang/String")], none⟩ := by decide +kernel
theorem dd_jdk_68_method_73_5 : decode jdk_68_method_73_code 5 = .ok (.aload_n 2, 1) := by decide +kernel
theorem dd_jdk_68_method_73_6 : decode jdk_68_method_73_code 6 = .ok (.aload_n 0, 1) := by decide +kernel
theorem dd_jdk_68_method_73_7 : decode jdk_68_method_73_code 7 = .ok (.getfield 15, 3) := by decide +kernel
theorem dd_jdk_68_method_73_10 : decode jdk_68_method_73_code 10 = .ok (.iload_n 1, 1) := by decide +kernel
theorem dd_jdk_68_method_73_11 : decode jdk_68_method_73_code 11 = .ok (.aload_n 0, 1) := by decide +kernel
theorem dd_jdk_68_method_73_12 : decode jdk_68_method_73_code 12 = .ok (.getfield 22, 3) := by decide +kernel
theorem dd_jdk_68_method_73_15 : decode jdk_68_method_73_code 15 = .ok (.invokevirtual 399, 3) := by decide +kernel
theorem pd_7 : parseMethodDescriptor "([BIB)V" = some ⟨[(.array .byte), .int, .byte], none⟩ := by decide +kernel
theorem dd_jdk_68_method_73_18 : decode jdk_68_method_73_code 18 = .ok (.return_, 1) := by decide +kernel
theorem ef_own_pst (m : MethodId) (x0 : Addr) (x1 : Int32) (x2 : Addr) : entryFrame m #[(.ref x0), (.int x1), (.ref x2)] 3 = mkF m 0 #[.val (.ref x0), .val (.int x1), .val (.ref x2)] [] := by first | (simp [entryFrame, mkF, argsToLocals, Value.category]; done) | rfl
set_option maxRecDepth 65536 in
set_option maxHeartbeats 40000000 in
theorem own_pst (l : Launch) (Z : State) (a0 : Array Value) (hw : ∀ d ∈ tables_1, d.before a0 Z = true) (EWf : own_EW Z own_EL) (n0 : Nat) (b a x : Addr) (k : ClassId) (r : List Value) (cs ds : List Int32) (N : Nat) (h0 : Heap) (O0 : Old Z n0 h0) (p_R : own_SR Z N h0 b a k r cs (cs.length + ds.length)) (p_S : own_SL Z h0 x ds) (CS : own_CS Z) (p_N0 : n0 ≤ N) :
    own_Met l Z own_EL [] false n0 (⟨"java/lang/AbstractStringBuilder", "putStringAt", "(ILjava/lang/String;)V"⟩ : MethodName) jdk_68_method_73_code 3 none ({ frames := 2, cells := 0, slots := 0, locals := 35 } : Room) #[(.ref b), (.int (Int32.ofNat cs.length)), (.ref x)] h0 (fun v h => v = none ∧ Keep h0 h [a] ∧ own_Arr Z h a k .byte (own_bs cs ++ (own_bs ds ++ r.drop ds.length))) := by
  refine own_enter (own := "java/lang/AbstractStringBuilder") (nm := "putStringAt") (plainFor_of_name pn_0) rfl rfl O0 EWf ?_
  have W : ∀ (k : Nat) {d : Jvm.Cond}, tables_1[k]? = some d → d.before a0 Z = true := fun k d q => hw d (List.mem_of_getElem? q)
  intro G p e s m below meth c T0 hGe X0
  rw [ef_own_pst m b ((Int32.ofNat cs.length)) x]
  obtain ⟨⟨p_E, p_V, p_C, p_N⟩, p_A, l_c, l_m, n_a, n_b, p_K⟩ := p_R
  have l_b := own_bsl cs
  have l_n : (own_bs cs ++ r).length = cs.length + r.length := by rw [List.length_append, own_bsl]
  have p_S' := p_S
  obtain ⟨t, kt, p_Ex, p_Vx, p_Cx, p_At⟩ := p_S
  have l_d := own_bsl ds
  refine own_aload_n (pc' := 1) X0 dd_jdk_68_method_73_0 rfl rfl rfl ?_
  refine own_aload_n (pc' := 2) X0 dd_jdk_68_method_73_1 rfl rfl rfl ?_
  refine own_callPQ (pc' := 5) (cells' := 0) (slots' := 0) (argsL := [(.ref x)]) (rest := []) (W := 0) (y := (⟨"java/lang/AbstractStringBuilder", "inflateIfNeededFor", "(Ljava/lang/String;)V"⟩ : MethodName)) (a := b) X0 (W 104 rfl) (W 105 rfl) (W 106 rfl) (W 107 rfl) (by decide) p_E (own_inf l Z a0 hw EWf n0 b x h0 (own_old X0) p_C p_Ex p_Cx CS) all0 (W 108 rfl) (W 64 rfl) (by decide) (by decide) rfl (lenOf pd_6 rfl) rfl rfl dd_jdk_68_method_73_2 rfl rfl rfl rfl (by decide) (by decide) ?_
  intro v1 T1 h1 s1 X1 q1 r1
  obtain ⟨rfl, rfl⟩ := q1
  show G T1 (mkF m 5 #[.val (.ref b), .val (.int (Int32.ofNat cs.length)), .val (.ref x)] [])
  refine own_aload_n (pc' := 6) X1 dd_jdk_68_method_73_5 rfl rfl rfl ?_
  refine own_aload_n (pc' := 7) X1 dd_jdk_68_method_73_6 rfl rfl rfl ?_
  refine own_get (pc' := 10) X1 (host := "") (Or.inl (W 68 rfl)) Via.refl p_V dd_jdk_68_method_73_7 rfl ?_
  intro T2 X2
  refine own_iload_n (pc' := 11) X2 dd_jdk_68_method_73_10 rfl rfl ?_
  refine own_aload_n (pc' := 12) X2 dd_jdk_68_method_73_11 rfl rfl rfl ?_
  refine own_get (pc' := 15) X2 (host := "") (Or.inl (W 70 rfl)) Via.refl p_C dd_jdk_68_method_73_12 rfl ?_
  intro T3 X3
  refine own_callVM (pc' := 18) (cells' := 0) (slots' := 0) (argsL := [(.ref a), (.int (Int32.ofNat cs.length)), (.int (0 : Int32))]) (rest := []) (W := 0) (y := (⟨"java/lang/String", "getBytes", "([BIB)V"⟩ : MethodName)) (z := (⟨"java/lang/String", "getBytes", "([BIB)V"⟩ : MethodName)) (a := x) X3 (W 110 rfl) (W 111 rfl) (fun s' hZ' => notFace_of_selects (args := #[]) (mvT hZ' (W 113 rfl))) (W 113 rfl) (W 112 rfl) (by decide) p_Ex (own_gby l Z a0 hw EWf n0 x a k (own_bs cs ++ r) cs.length ds h0 (own_old X3) p_S' p_A (Nat.le_trans p_N0 n_a) (by omega) (by omega) (by omega) CS) all0 (W 114 rfl) (W 3 rfl) (by decide) (by decide) rfl (lenOf pd_7 rfl) rfl rfl dd_jdk_68_method_73_15 rfl rfl rfl rfl (by decide) (by decide) ?_
  intro v4 T4 h4 s4 X4 q4 r4
  obtain ⟨rfl, K4, A4⟩ := q4
  have A4' : own_Arr Z h4 a k .byte (own_bs cs ++ (own_bs ds ++ r.drop ds.length)) := by have q := A4; rw [List.take_left' l_b, List.append_assoc, show cs.length + ds.length = (own_bs cs).length + ds.length from by rw [l_b], List.drop_append, List.drop_eq_nil_of_le (by omega), List.nil_append, Nat.add_sub_cancel_left] at q; exact q
  show G T4 (mkF m 18 #[.val (.ref b), .val (.int (Int32.ofNat cs.length)), .val (.ref x)] [])
  exact own_retV X4 hGe rfl dd_jdk_68_method_73_18 (by decide) (by decide) ⟨rfl, ((Keep.refl h0 [a]).trans K4 (allS (Or.inl (List.mem_of_getElem? (i := 0) rfl)) all0)), A4'⟩
theorem dd_jdk_68_method_22_0 : decode jdk_68_method_22_code 0 = .ok (.aload_n 1, 1) := by decide +kernel
theorem dd_jdk_68_method_22_1 : decode jdk_68_method_22_code 1 = .ok (.ifnonnull 8, 3) := by decide +kernel
theorem dd_jdk_68_method_22_9 : decode jdk_68_method_22_code 9 = .ok (.aload_n 1, 1) := by decide +kernel
theorem dd_jdk_68_method_22_10 : decode jdk_68_method_22_code 10 = .ok (.invokevirtual 32, 3) := by decide +kernel
theorem pd_8 : parseMethodDescriptor "()I" = some ⟨[], some .int⟩ := by decide +kernel
theorem dd_jdk_68_method_22_13 : decode jdk_68_method_22_code 13 = .ok (.istore_n 2, 1) := by decide +kernel
theorem dd_jdk_68_method_22_14 : decode jdk_68_method_22_code 14 = .ok (.aload_n 0, 1) := by decide +kernel
theorem dd_jdk_68_method_22_15 : decode jdk_68_method_22_code 15 = .ok (.aload_n 0, 1) := by decide +kernel
theorem dd_jdk_68_method_22_16 : decode jdk_68_method_22_code 16 = .ok (.getfield 79, 3) := by decide +kernel
theorem dd_jdk_68_method_22_19 : decode jdk_68_method_22_code 19 = .ok (.iload_n 2, 1) := by decide +kernel
theorem dd_jdk_68_method_22_20 : decode jdk_68_method_22_code 20 = .ok (.iadd, 1) := by decide +kernel
theorem dd_jdk_68_method_22_21 : decode jdk_68_method_22_code 21 = .ok (.invokevirtual 100, 3) := by decide +kernel
theorem dd_jdk_68_method_22_24 : decode jdk_68_method_22_code 24 = .ok (.aload_n 0, 1) := by decide +kernel
theorem dd_jdk_68_method_22_25 : decode jdk_68_method_22_code 25 = .ok (.aload_n 0, 1) := by decide +kernel
theorem dd_jdk_68_method_22_26 : decode jdk_68_method_22_code 26 = .ok (.getfield 79, 3) := by decide +kernel
theorem dd_jdk_68_method_22_29 : decode jdk_68_method_22_code 29 = .ok (.aload_n 1, 1) := by decide +kernel
theorem dd_jdk_68_method_22_30 : decode jdk_68_method_22_code 30 = .ok (.invokevirtual 208, 3) := by decide +kernel
theorem pd_9 : parseMethodDescriptor "(ILjava/lang/String;)V" = some ⟨[.int, (.object "java/lang/String")], none⟩ := by decide +kernel
theorem dd_jdk_68_method_22_33 : decode jdk_68_method_22_code 33 = .ok (.aload_n 0, 1) := by decide +kernel
theorem dd_jdk_68_method_22_34 : decode jdk_68_method_22_code 34 = .ok (.dup, 1) := by decide +kernel
theorem dd_jdk_68_method_22_35 : decode jdk_68_method_22_code 35 = .ok (.getfield 79, 3) := by decide +kernel
theorem dd_jdk_68_method_22_38 : decode jdk_68_method_22_code 38 = .ok (.iload_n 2, 1) := by decide +kernel
theorem dd_jdk_68_method_22_39 : decode jdk_68_method_22_code 39 = .ok (.iadd, 1) := by decide +kernel
theorem dd_jdk_68_method_22_40 : decode jdk_68_method_22_code 40 = .ok (.putfield 79, 3) := by decide +kernel
theorem dd_jdk_68_method_22_43 : decode jdk_68_method_22_code 43 = .ok (.aload_n 0, 1) := by decide +kernel
theorem dd_jdk_68_method_22_44 : decode jdk_68_method_22_code 44 = .ok (.areturn, 1) := by decide +kernel
theorem ef_own_aps (m : MethodId) (x0 : Addr) (x1 : Addr) : entryFrame m #[(.ref x0), (.ref x1)] 3 = mkF m 0 #[.val (.ref x0), .val (.ref x1), .unset] [] := by first | (simp [entryFrame, mkF, argsToLocals, Value.category]; done) | rfl
set_option maxRecDepth 65536 in
set_option maxHeartbeats 40000000 in
theorem own_aps (l : Launch) (Z : State) (a0 : Array Value) (hw : ∀ d ∈ tables_1, d.before a0 Z = true) (EWf : own_EW Z own_EL) (n0 : Nat) (b x : Addr) (cs ds : List Int32) (N : Nat) (h0 : Heap) (O0 : Old Z n0 h0) (p_B : own_SB Z N h0 b cs) (p_S : own_SL Z h0 x ds) (p_34 : cs.length + ds.length ≤ 34) (p_N0 : n0 ≤ N) (p_Nh : N ≤ h0.size) (CS : own_CS Z) :
    own_Met l Z own_EL [] false n0 (⟨"java/lang/AbstractStringBuilder", "append", "(Ljava/lang/String;)Ljava/lang/AbstractStringBuilder;"⟩ : MethodName) jdk_68_method_22_code 3 (some (.object "java/lang/AbstractStringBuilder")) ({ frames := 4, cells := 1, slots := 34, locals := 62 } : Room) #[(.ref b), (.ref x)] h0 (fun v' h => v' = some (.ref b) ∧ ∃ a : Addr, N ≤ a ∧ Exa Z h0 a "[B" ∧ Keep h0 h [b, a] ∧ own_SB Z N h b (cs ++ ds)) := by
  refine own_enter (own := "java/lang/AbstractStringBuilder") (nm := "append") (plainFor_of_name pn_0) rfl rfl O0 EWf ?_
  have W : ∀ (k : Nat) {d : Jvm.Cond}, tables_1[k]? = some d → d.before a0 Z = true := fun k d q => hw d (List.mem_of_getElem? q)
  intro G p e s m below meth c T0 hGe X0
  rw [ef_own_aps m b x]
  obtain ⟨a, k, r, p_R⟩ := p_B
  obtain ⟨⟨p_E, p_V, p_C, p_N⟩, p_A, l_c, l_m, n_a, n_b, p_K⟩ := p_R
  have l_b := own_bsl cs
  have l_n : (own_bs cs ++ r).length = cs.length + r.length := by rw [List.length_append, own_bsl]
  have p_Sx : Exa Z h0 x "java/lang/String" := by obtain ⟨_, _, q, _⟩ := p_S; exact q
  refine own_aload_n (pc' := 1) X0 dd_jdk_68_method_22_0 rfl rfl rfl ?_
  refine own_ifnonnullY (pc' := 9) X0 dd_jdk_68_method_22_1 (by decide) (by decide) ?_
  refine own_aload_n (pc' := 10) X0 dd_jdk_68_method_22_9 rfl rfl rfl ?_
  refine own_callVM (pc' := 13) (cells' := 0) (slots' := 0) (argsL := []) (rest := []) (W := 0) (y := (⟨"java/lang/String", "length", "()I"⟩ : MethodName)) (z := (⟨"java/lang/String", "length", "()I"⟩ : MethodName)) (a := x) X0 (W 82 rfl) (W 83 rfl) (fun s' hZ' => notFace_of_selects (args := #[]) (mvT hZ' (W 85 rfl))) (W 85 rfl) (W 84 rfl) (by decide) p_Sx (own_sln l Z a0 hw EWf n0 x ds h0 (own_old X0) p_S CS) all0 (W 86 rfl) (W 3 rfl) (by decide) (by decide) rfl (lenOf pd_8 rfl) rfl rfl dd_jdk_68_method_22_10 rfl rfl rfl rfl (by decide) (by decide) ?_
  intro v1 T1 h1 s1 X1 q1 r1
  obtain ⟨rfl, rfl⟩ := q1
  show G T1 (mkF m 13 #[.val (.ref b), .val (.ref x), .unset] [(.int (Int32.ofNat ds.length))])
  refine own_istore_n (pc' := 14) X1 dd_jdk_68_method_22_13 rfl (Ls' := #[.val (.ref b), .val (.ref x), .val (.int (Int32.ofNat ds.length))]) rfl ?_
  refine own_aload_n (pc' := 15) X1 dd_jdk_68_method_22_14 rfl rfl rfl ?_
  refine own_aload_n (pc' := 16) X1 dd_jdk_68_method_22_15 rfl rfl rfl ?_
  refine own_get (pc' := 19) X1 (host := "") (Or.inl (W 92 rfl)) Via.refl p_N dd_jdk_68_method_22_16 rfl ?_
  intro T2 X2
  refine own_iload_n (pc' := 20) X2 dd_jdk_68_method_22_19 rfl rfl ?_
  refine own_iadd (pc' := 21) X2 dd_jdk_68_method_22_20 rfl (r := (Int32.ofNat (cs.length + ds.length))) (own_i32add (by omega)) ?_
  refine own_callPQ (pc' := 24) (cells' := 1) (slots' := 34) (argsL := [(.int (Int32.ofNat (cs.length + ds.length)))]) (rest := []) (W := 0) (y := (⟨"java/lang/AbstractStringBuilder", "ensureCapacityInternal", "(I)V"⟩ : MethodName)) (a := b) X2 (W 94 rfl) (W 95 rfl) (W 96 rfl) (W 97 rfl) (by decide) p_E (own_ens l Z a0 hw EWf n0 b a k r cs (cs.length + ds.length) N h0 (own_old X2) ⟨⟨p_E, p_V, p_C, p_N⟩, p_A, l_c, (Nat.zero_le _), n_a, n_b, p_K⟩ p_34 p_N0 (Nat.le_trans p_Nh (Nat.le_refl _))) all0 (W 98 rfl) (W 64 rfl) (by decide) (by decide) rfl (lenOf pd_0 rfl) rfl rfl dd_jdk_68_method_22_21 rfl rfl rfl rfl (by decide) (by decide) ?_
  intro v3 T3 h3 s3 X3 q3 r3
  obtain ⟨rfl, K3, a3, k3, r3, al3, R3⟩ := q3
  obtain ⟨⟨p_E3, p_V3, p_C3, p_N3⟩, p_A3, l_c3, l_m3, n_a3, n_b3, p_K3⟩ := R3
  have l_n3 : (own_bs cs ++ r3).length = cs.length + r3.length := by rw [List.length_append, own_bsl]
  have ne_b3 : b ≠ a3 := Exa.ne p_E3 p_K3 (by decide)
  show G T3 (mkF m 24 #[.val (.ref b), .val (.ref x), .val (.int (Int32.ofNat ds.length))] [])
  refine own_aload_n (pc' := 25) X3 dd_jdk_68_method_22_24 rfl rfl rfl ?_
  refine own_aload_n (pc' := 26) X3 dd_jdk_68_method_22_25 rfl rfl rfl ?_
  refine own_get (pc' := 29) X3 (host := "") (Or.inl (W 92 rfl)) Via.refl p_N3 dd_jdk_68_method_22_26 rfl ?_
  intro T4 X4
  refine own_aload_n (pc' := 30) X4 dd_jdk_68_method_22_29 rfl rfl rfl ?_
  have p_S2 : own_SL Z h3 x ds := by obtain ⟨t, kt, q1, q2, q3, q4⟩ := p_S; exact ⟨t, kt, q1.keep K3, q2.keep K3 (ninS (Exa.ne q1 p_E (by decide)) nin0), q3.keep K3 (ninS (Exa.ne q1 p_E (by decide)) nin0), q4.keep K3 (ninS (Ne.symm (own_neA p_E (W 55 rfl) q4)) nin0)⟩
  refine own_callPQ (pc' := 33) (cells' := 1) (slots' := 34) (argsL := [(.int (Int32.ofNat cs.length)), (.ref x)]) (rest := []) (W := 0) (y := (⟨"java/lang/AbstractStringBuilder", "putStringAt", "(ILjava/lang/String;)V"⟩ : MethodName)) (a := b) X4 (W 99 rfl) (W 100 rfl) (W 101 rfl) (W 102 rfl) (by decide) p_E3 (own_pst l Z a0 hw EWf n0 b a3 x k3 r3 cs ds N h3 (own_old X4) ⟨⟨p_E3, p_V3, p_C3, p_N3⟩, p_A3, l_c3, l_m3, n_a3, n_b3, p_K3⟩ p_S2 CS p_N0) all0 (W 103 rfl) (W 64 rfl) (by decide) (by decide) rfl (lenOf pd_9 rfl) rfl rfl dd_jdk_68_method_22_30 rfl rfl rfl rfl (by decide) (by decide) ?_
  intro v5 T5 h5 s5 X5 q5 r5
  obtain ⟨rfl, K5, A5⟩ := q5
  show G T5 (mkF m 33 #[.val (.ref b), .val (.ref x), .val (.int (Int32.ofNat ds.length))] [])
  refine own_aload_n (pc' := 34) X5 dd_jdk_68_method_22_33 rfl rfl rfl ?_
  refine own_dup (pc' := 35) X5 dd_jdk_68_method_22_34 rfl rfl ?_
  have f6 := (p_N3.keep K5 (ninS ne_b3 nin0))
  refine own_get (pc' := 38) X5 (host := "") (Or.inl (W 92 rfl)) Via.refl f6 dd_jdk_68_method_22_35 rfl ?_
  intro T7 X7
  refine own_iload_n (pc' := 39) X7 dd_jdk_68_method_22_38 rfl rfl ?_
  refine own_iadd (pc' := 40) X7 dd_jdk_68_method_22_39 rfl (r := (Int32.ofNat (cs.length + ds.length))) (own_i32add (by omega)) ?_
  have f8 := (p_E3.keep K5)
  refine own_put (pc' := 43) X7 (host := "") (Or.inl (W 92 rfl)) Via.refl f6 f8 (Or.inl (W 93 rfl)) (W 55 rfl) (ty := .int) (by decide) rfl rfl (Nat.le_trans p_N0 n_b3) (Or.inl ⟨by decide, by decide⟩) dd_jdk_68_method_22_40 rfl ?_
  intro T9 h9 X9 W9 K9
  have f9_ := f6.same W9
  refine own_aload_n (pc' := 44) X9 dd_jdk_68_method_22_43 rfl rfl rfl ?_
  have f10 := (A5.keep K9 (ninS (Ne.symm ne_b3) nin0))
  have A' : own_Arr Z h9 a3 k3 .byte (own_bs (cs ++ ds) ++ r3.drop ds.length) := by rw [own_bsa, List.append_assoc]; exact f10
  have ll : (cs ++ ds).length = cs.length + ds.length := List.length_append
  have N' : Fld Z h9 b "java/lang/AbstractStringBuilder" "count" "I" (.int (Int32.ofNat (cs ++ ds).length)) := by rw [ll]; exact f9_
  have f11 := (f8.keep K9)
  have f12 := ((p_V3.keep K5 (ninS ne_b3 nin0)).other W9 (Or.inr (slot_ne (Or.inl (W 69 rfl)) (Or.inl (W 93 rfl)) (by decide) (t := (.array .byte)) (t' := .int) (by decide) (by decide))))
  have f13 := ((p_C3.keep K5 (ninS ne_b3 nin0)).other W9 (Or.inr (slot_ne (Or.inl (W 71 rfl)) (Or.inl (W 93 rfl)) (by decide) (t := .byte) (t' := .int) (by decide) (by decide))))
  have f14 := ((p_K3.keep K5).keep K9)
  exact own_ret X9 hGe (t := (.object "java/lang/AbstractStringBuilder")) rfl rfl (Or.inr (Or.inr (Or.inr (Or.inr ⟨rfl, rfl, rfl⟩)))) dd_jdk_68_method_22_44 (by decide) (by decide) ⟨rfl, a, n_a, p_K, ((((Keep.refl h0 [b, a]).trans K3 (allS (Or.inl (List.mem_of_getElem? (i := 0) rfl)) all0)).trans K5 (allS (al3.imp (fun q => by rw [← q]; exact List.mem_of_getElem? (i := 1) rfl) (fun q => Nat.le_trans (Nat.le_refl _) q)) all0)).trans K9 (allS (Or.inl (List.mem_of_getElem? (i := 0) rfl)) all0)), ⟨a3, _, _, ⟨f11, f12, f13, N'⟩, A', by rw [ll]; simp; omega, Nat.zero_le _, n_a3, n_b3, f14⟩⟩ nofun
theorem dd_jdk_67_method_7_0 : decode jdk_67_method_7_code 0 = .ok (.aload_n 0, 1) := by decide +kernel
theorem dd_jdk_67_method_7_1 : decode jdk_67_method_7_code 1 = .ok (.aload_n 1, 1) := by decide +kernel
theorem dd_jdk_67_method_7_2 : decode jdk_67_method_7_code 2 = .ok (.invokespecial 29, 3) := by decide +kernel
theorem pd_10 : parseMethodDescriptor "(Ljava/lang/String;)Ljava/lang/AbstractStringBuilder;" = some ⟨[(.object "java/lang/String")], some (.object "java/lang/AbstractStringBuilder")⟩ := by decide +kernel
theorem dd_jdk_67_method_7_5 : decode jdk_67_method_7_code 5 = .ok (.pop, 1) := by decide +kernel
theorem dd_jdk_67_method_7_6 : decode jdk_67_method_7_code 6 = .ok (.aload_n 0, 1) := by decide +kernel
theorem dd_jdk_67_method_7_7 : decode jdk_67_method_7_code 7 = .ok (.areturn, 1) := by decide +kernel
theorem ef_own_sbs (m : MethodId) (x0 : Addr) (x1 : Addr) : entryFrame m #[(.ref x0), (.ref x1)] 2 = mkF m 0 #[.val (.ref x0), .val (.ref x1)] [] := by first | (simp [entryFrame, mkF, argsToLocals, Value.category]; done) | rfl
set_option maxRecDepth 65536 in
set_option maxHeartbeats 40000000 in
theorem own_sbs (l : Launch) (Z : State) (a0 : Array Value) (hw : ∀ d ∈ tables_1, d.before a0 Z = true) (EWf : own_EW Z own_EL) (n0 : Nat) (b x : Addr) (cs ds : List Int32) (N : Nat) (h0 : Heap) (O0 : Old Z n0 h0) (p_B : own_SB Z N h0 b cs) (p_S : own_SL Z h0 x ds) (p_34 : cs.length + ds.length ≤ 34) (p_N0 : n0 ≤ N) (p_Nh : N ≤ h0.size) (CS : own_CS Z) :
    own_Met l Z own_EL [] false n0 (⟨"java/lang/StringBuilder", "append", "(Ljava/lang/String;)Ljava/lang/StringBuilder;"⟩ : MethodName) jdk_67_method_7_code 2 (some (.object "java/lang/StringBuilder")) ({ frames := 5, cells := 1, slots := 34, locals := 76 } : Room) #[(.ref b), (.ref x)] h0 (fun v' h => v' = some (.ref b) ∧ ∃ a : Addr, N ≤ a ∧ Exa Z h0 a "[B" ∧ Keep h0 h [b, a] ∧ own_SB Z N h b (cs ++ ds)) := by
  refine own_enter (own := "java/lang/StringBuilder") (nm := "append") (plainFor_of_name pn_1) rfl rfl O0 EWf ?_
  have W : ∀ (k : Nat) {d : Jvm.Cond}, tables_1[k]? = some d → d.before a0 Z = true := fun k d q => hw d (List.mem_of_getElem? q)
  intro G p e s m below meth c T0 hGe X0
  rw [ef_own_sbs m b x]
  refine own_aload_n (pc' := 1) X0 dd_jdk_67_method_7_0 rfl rfl rfl ?_
  refine own_aload_n (pc' := 2) X0 dd_jdk_67_method_7_1 rfl rfl rfl ?_
  refine own_callUM (pc' := 5) (cells' := 1) (slots' := 34) (argsL := [(.ref x)]) (rest := []) (W := 0) (y := (⟨"java/lang/AbstractStringBuilder", "append", "(Ljava/lang/String;)Ljava/lang/AbstractStringBuilder;"⟩ : MethodName)) (a := b) X0 (W 77 rfl) (own_declSame (W 80 rfl) (W 97 rfl) rfl (by decide)) (W 78 rfl) (W 79 rfl) (by decide) (Ins.self p_B.exa) (own_aps l Z a0 hw EWf n0 b x cs ds N h0 (own_old X0) p_B p_S p_34 p_N0 p_Nh CS) all0 (W 81 rfl) (W 64 rfl) (by decide) (by decide) rfl (lenOf pd_10 rfl) rfl rfl dd_jdk_67_method_7_2 rfl rfl rfl rfl (by decide) (by decide) ?_
  intro v1 T1 h1 s1 X1 q1 r1
  obtain ⟨rfl, y1, o1, E1, K1, S1⟩ := q1
  show G T1 (mkF m 5 #[.val (.ref b), .val (.ref x)] [(.ref b)])
  refine own_pop (pc' := 6) X1 dd_jdk_67_method_7_5 rfl rfl ?_
  refine own_aload_n (pc' := 7) X1 dd_jdk_67_method_7_6 rfl rfl rfl ?_
  exact own_ret X1 hGe (t := (.object "java/lang/StringBuilder")) rfl rfl (Or.inr (Or.inr (Or.inr (Or.inr ⟨rfl, rfl, rfl⟩)))) dd_jdk_67_method_7_7 (by decide) (by decide) ⟨rfl, y1, o1, E1, ((Keep.refl h0 [b, y1]).trans K1 (allS (Or.inl (List.mem_of_getElem? (i := 0) rfl)) (allS (Or.inl (List.mem_of_getElem? (i := 1) rfl)) all0))), S1⟩ nofun
theorem dd_jdk_33_method_13_0 : decode jdk_33_method_13_code 0 = .ok (.iconst 1, 1) := by decide +kernel
theorem dd_jdk_33_method_13_1 : decode jdk_33_method_13_code 1 = .ok (.istore_n 1, 1) := by decide +kernel
theorem dd_jdk_33_method_13_2 : decode jdk_33_method_13_code 2 = .ok (.iload_n 0, 1) := by decide +kernel
theorem dd_jdk_33_method_13_3 : decode jdk_33_method_13_code 3 = .ok (.ifCond .lt 8, 3) := by decide +kernel
theorem dd_jdk_33_method_13_6 : decode jdk_33_method_13_code 6 = .ok (.iconst 0, 1) := by decide +kernel
theorem dd_jdk_33_method_13_7 : decode jdk_33_method_13_code 7 = .ok (.istore_n 1, 1) := by decide +kernel
theorem dd_jdk_33_method_13_8 : decode jdk_33_method_13_code 8 = .ok (.iload_n 0, 1) := by decide +kernel
theorem dd_jdk_33_method_13_9 : decode jdk_33_method_13_code 9 = .ok (.ineg, 1) := by decide +kernel
theorem dd_jdk_33_method_13_10 : decode jdk_33_method_13_code 10 = .ok (.istore_n 0, 1) := by decide +kernel
theorem dd_jdk_33_method_13_11 : decode jdk_33_method_13_code 11 = .ok (.bipush (-10), 2) := by decide +kernel
theorem dd_jdk_33_method_13_13 : decode jdk_33_method_13_code 13 = .ok (.istore_n 2, 1) := by decide +kernel
theorem dd_jdk_33_method_13_14 : decode jdk_33_method_13_code 14 = .ok (.iconst 1, 1) := by decide +kernel
theorem dd_jdk_33_method_13_15 : decode jdk_33_method_13_code 15 = .ok (.istore_n 3, 1) := by decide +kernel
theorem dd_jdk_33_method_13_16 : decode jdk_33_method_13_code 16 = .ok (.iload_n 3, 1) := by decide +kernel
theorem dd_jdk_33_method_13_17 : decode jdk_33_method_13_code 17 = .ok (.bipush 10, 2) := by decide +kernel
theorem dd_jdk_33_method_13_19 : decode jdk_33_method_13_code 19 = .ok (.if_icmp .ge 23, 3) := by decide +kernel
theorem dd_jdk_33_method_13_22 : decode jdk_33_method_13_code 22 = .ok (.iload_n 0, 1) := by decide +kernel
theorem dd_jdk_33_method_13_23 : decode jdk_33_method_13_code 23 = .ok (.iload_n 2, 1) := by decide +kernel
theorem dd_jdk_33_method_13_24 : decode jdk_33_method_13_code 24 = .ok (.if_icmp .le 7, 3) := by decide +kernel
theorem dd_jdk_33_method_13_27 : decode jdk_33_method_13_code 27 = .ok (.iload_n 3, 1) := by decide +kernel
theorem dd_jdk_33_method_13_28 : decode jdk_33_method_13_code 28 = .ok (.iload_n 1, 1) := by decide +kernel
theorem dd_jdk_33_method_13_29 : decode jdk_33_method_13_code 29 = .ok (.iadd, 1) := by decide +kernel
theorem dd_jdk_33_method_13_30 : decode jdk_33_method_13_code 30 = .ok (.ireturn, 1) := by decide +kernel
theorem dd_jdk_33_method_13_31 : decode jdk_33_method_13_code 31 = .ok (.bipush 10, 2) := by decide +kernel
theorem dd_jdk_33_method_13_33 : decode jdk_33_method_13_code 33 = .ok (.iload_n 2, 1) := by decide +kernel
theorem dd_jdk_33_method_13_34 : decode jdk_33_method_13_code 34 = .ok (.imul, 1) := by decide +kernel
theorem dd_jdk_33_method_13_35 : decode jdk_33_method_13_code 35 = .ok (.istore_n 2, 1) := by decide +kernel
theorem dd_jdk_33_method_13_36 : decode jdk_33_method_13_code 36 = .ok (.iinc 3 1, 3) := by decide +kernel
theorem dd_jdk_33_method_13_39 : decode jdk_33_method_13_code 39 = .ok (.goto (-23), 3) := by decide +kernel
theorem dd_jdk_33_method_13_42 : decode jdk_33_method_13_code 42 = .ok (.bipush 10, 2) := by decide +kernel
theorem dd_jdk_33_method_13_44 : decode jdk_33_method_13_code 44 = .ok (.iload_n 1, 1) := by decide +kernel
theorem dd_jdk_33_method_13_45 : decode jdk_33_method_13_code 45 = .ok (.iadd, 1) := by decide +kernel
theorem dd_jdk_33_method_13_46 : decode jdk_33_method_13_code 46 = .ok (.ireturn, 1) := by decide +kernel
theorem pn_7 : plainName "java/lang/Integer" = true := by first | (simp [plainName, overriddenIn]; done) | decide +kernel
theorem ef_own_ssz (m : MethodId) (x0 : Int32) : entryFrame m #[(.int x0)] 4 = mkF m 0 #[.val (.int x0), .unset, .unset, .unset] [] := by first | (simp [entryFrame, mkF, argsToLocals, Value.category]; done) | rfl
set_option maxRecDepth 65536 in
set_option maxHeartbeats 40000000 in
theorem own_ssz (l : Launch) (Z : State) (a0 : Array Value) (hw : ∀ d ∈ tables_1, d.before a0 Z = true) (EWf : own_EW Z own_EL) (n0 : Nat) (v n : Nat) (h0 : Heap) (O0 : Old Z n0 h0) (p_1 : 1 ≤ n) (p_v : 10 ^ (n - 1) ≤ v) (p_w : v < 10 ^ n) (p_b : v < 2 ^ 31) :
    own_Met l Z own_EL [] false n0 (⟨"java/lang/Integer", "stringSize", "(I)I"⟩ : MethodName) jdk_33_method_13_code 4 (some .int) ({ frames := 0, cells := 0, slots := 0, locals := 0 } : Room) #[(.int (Int32.ofNat v))] h0 (fun v' h => v' = some (.int (Int32.ofNat n)) ∧ h0 = h) := by
  refine own_enter (own := "java/lang/Integer") (nm := "stringSize") (plainFor_of_name pn_7) rfl rfl O0 EWf ?_
  have W : ∀ (k : Nat) {d : Jvm.Cond}, tables_1[k]? = some d → d.before a0 Z = true := fun k d q => hw d (List.mem_of_getElem? q)
  intro G p e s m below meth c T0 hGe X0
  rw [ef_own_ssz m ((Int32.ofNat v))]
  have p_0 : 1 ≤ v := Nat.le_trans (Nat.one_le_pow _ _ (by decide)) p_v
  refine own_iconst (pc' := 1) X0 dd_jdk_33_method_13_0 rfl (z := (1 : Int32)) (by decide) ?_
  refine own_istore_n (pc' := 2) X0 dd_jdk_33_method_13_1 rfl (Ls' := #[.val (.int (Int32.ofNat v)), .val (.int (1 : Int32)), .unset, .unset]) rfl ?_
  refine own_iload_n (pc' := 3) X0 dd_jdk_33_method_13_2 rfl rfl ?_
  refine own_ifN (pc' := 6) X0 dd_jdk_33_method_13_3 rfl ((flt (own_i32le (n := 0) (Nat.zero_le _) p_b)).1) ?_
  refine own_iconst (pc' := 7) X0 dd_jdk_33_method_13_6 rfl (z := (0 : Int32)) (by decide) ?_
  refine own_istore_n (pc' := 8) X0 dd_jdk_33_method_13_7 rfl (Ls' := #[.val (.int (Int32.ofNat v)), .val (.int (0 : Int32)), .unset, .unset]) rfl ?_
  refine own_iload_n (pc' := 9) X0 dd_jdk_33_method_13_8 rfl rfl ?_
  refine own_ineg (pc' := 10) X0 dd_jdk_33_method_13_9 rfl ?_
  refine own_istore_n (pc' := 11) X0 dd_jdk_33_method_13_10 rfl (Ls' := #[.val (.int (-(Int32.ofNat v))), .val (.int (0 : Int32)), .unset, .unset]) rfl ?_
  refine own_bipush (pc' := 13) X0 dd_jdk_33_method_13_11 rfl (z := (-10 : Int32)) (by decide) ?_
  refine own_istore_n (pc' := 14) X0 dd_jdk_33_method_13_13 rfl (Ls' := #[.val (.int (-(Int32.ofNat v))), .val (.int (0 : Int32)), .val (.int (-10 : Int32)), .unset]) rfl ?_
  refine own_iconst (pc' := 15) X0 dd_jdk_33_method_13_14 rfl (z := (1 : Int32)) (by decide) ?_
  refine own_istore_n (pc' := 16) X0 dd_jdk_33_method_13_15 rfl (Ls' := #[.val (.int (-(Int32.ofNat v))), .val (.int (0 : Int32)), .val (.int (-10 : Int32)), .val (.int (1 : Int32))]) rfl ?_
  refine own_iload_n (pc' := 17) X0 dd_jdk_33_method_13_16 rfl rfl ?_
  refine own_bipush (pc' := 19) X0 dd_jdk_33_method_13_17 rfl (z := (10 : Int32)) (by decide) ?_
  refine own_icmpN (pc' := 22) X0 dd_jdk_33_method_13_19 rfl ((tlt (by decide)).2.1) ?_
  refine own_iload_n (pc' := 23) X0 dd_jdk_33_method_13_22 rfl rfl ?_
  refine own_iload_n (pc' := 24) X0 dd_jdk_33_method_13_23 rfl rfl ?_
  by_cases h1 : v < 10
  · refine own_icmpN (pc' := 27) X0 dd_jdk_33_method_13_24 rfl ((tlt ((own_gtneg (n := 10) (by decide) p_b).mpr h1)).2.2.2) ?_
    refine own_iload_n (pc' := 28) X0 dd_jdk_33_method_13_27 rfl rfl ?_
    refine own_iload_n (pc' := 29) X0 dd_jdk_33_method_13_28 rfl rfl ?_
    refine own_iadd (pc' := 30) X0 dd_jdk_33_method_13_29 rfl (r := (1 : Int32)) (by decide) ?_
    exact own_ret X0 hGe (t := .int) rfl rfl (Or.inl ⟨rfl, by simp, _, rfl⟩) dd_jdk_33_method_13_30 (by decide) (by decide) ⟨by rw [(own_nduq p_v p_w (m := 1) (by show 1 ≤ v; omega) (by show v < 10; omega) p_1 (by decide))]; rfl, rfl⟩ nofun
  · refine own_icmpY (pc' := 31) X0 dd_jdk_33_method_13_24 ((flt (fun q => h1 ((own_gtneg (n := 10) (by decide) p_b).mp q))).2.2.2) (by decide) (by decide) ?_
    refine own_bipush (pc' := 33) X0 dd_jdk_33_method_13_31 rfl (z := (10 : Int32)) (by decide) ?_
    refine own_iload_n (pc' := 34) X0 dd_jdk_33_method_13_33 rfl rfl ?_
    refine own_imul (pc' := 35) X0 dd_jdk_33_method_13_34 rfl (r := (-100 : Int32)) (by decide) ?_
    refine own_istore_n (pc' := 36) X0 dd_jdk_33_method_13_35 rfl (Ls' := #[.val (.int (-(Int32.ofNat v))), .val (.int (0 : Int32)), .val (.int (-100 : Int32)), .val (.int (1 : Int32))]) rfl ?_
    refine own_iinc (pc' := 39) X0 dd_jdk_33_method_13_36 rfl rfl (z := (1 : Int32)) (by decide) (r := (2 : Int32)) (by decide) (Ls' := #[.val (.int (-(Int32.ofNat v))), .val (.int (0 : Int32)), .val (.int (-100 : Int32)), .val (.int (2 : Int32))]) rfl ?_
    refine own_goto (pc' := 16) X0 dd_jdk_33_method_13_39 (by decide) (by decide) ?_
    refine own_iload_n (pc' := 17) X0 dd_jdk_33_method_13_16 rfl rfl ?_
    refine own_bipush (pc' := 19) X0 dd_jdk_33_method_13_17 rfl (z := (10 : Int32)) (by decide) ?_
    refine own_icmpN (pc' := 22) X0 dd_jdk_33_method_13_19 rfl ((tlt (by decide)).2.1) ?_
    refine own_iload_n (pc' := 23) X0 dd_jdk_33_method_13_22 rfl rfl ?_
    refine own_iload_n (pc' := 24) X0 dd_jdk_33_method_13_23 rfl rfl ?_
    by_cases h2 : v < 100
    · refine own_icmpN (pc' := 27) X0 dd_jdk_33_method_13_24 rfl ((tlt ((own_gtneg (n := 100) (by decide) p_b).mpr h2)).2.2.2) ?_
      refine own_iload_n (pc' := 28) X0 dd_jdk_33_method_13_27 rfl rfl ?_
      refine own_iload_n (pc' := 29) X0 dd_jdk_33_method_13_28 rfl rfl ?_
      refine own_iadd (pc' := 30) X0 dd_jdk_33_method_13_29 rfl (r := (2 : Int32)) (by decide) ?_
      exact own_ret X0 hGe (t := .int) rfl rfl (Or.inl ⟨rfl, by simp, _, rfl⟩) dd_jdk_33_method_13_30 (by decide) (by decide) ⟨by rw [(own_nduq p_v p_w (m := 2) (by show 10 ≤ v; omega) (by show v < 100; omega) p_1 (by decide))]; rfl, rfl⟩ nofun
    · refine own_icmpY (pc' := 31) X0 dd_jdk_33_method_13_24 ((flt (fun q => h2 ((own_gtneg (n := 100) (by decide) p_b).mp q))).2.2.2) (by decide) (by decide) ?_
      refine own_bipush (pc' := 33) X0 dd_jdk_33_method_13_31 rfl (z := (10 : Int32)) (by decide) ?_
      refine own_iload_n (pc' := 34) X0 dd_jdk_33_method_13_33 rfl rfl ?_
      refine own_imul (pc' := 35) X0 dd_jdk_33_method_13_34 rfl (r := (-1000 : Int32)) (by decide) ?_
      refine own_istore_n (pc' := 36) X0 dd_jdk_33_method_13_35 rfl (Ls' := #[.val (.int (-(Int32.ofNat v))), .val (.int (0 : Int32)), .val (.int (-1000 : Int32)), .val (.int (2 : Int32))]) rfl ?_
      refine own_iinc (pc' := 39) X0 dd_jdk_33_method_13_36 rfl rfl (z := (1 : Int32)) (by decide) (r := (3 : Int32)) (by decide) (Ls' := #[.val (.int (-(Int32.ofNat v))), .val (.int (0 : Int32)), .val (.int (-1000 : Int32)), .val (.int (3 : Int32))]) rfl ?_
      refine own_goto (pc' := 16) X0 dd_jdk_33_method_13_39 (by decide) (by decide) ?_
      refine own_iload_n (pc' := 17) X0 dd_jdk_33_method_13_16 rfl rfl ?_
      refine own_bipush (pc' := 19) X0 dd_jdk_33_method_13_17 rfl (z := (10 : Int32)) (by decide) ?_
      refine own_icmpN (pc' := 22) X0 dd_jdk_33_method_13_19 rfl ((tlt (by decide)).2.1) ?_
      refine own_iload_n (pc' := 23) X0 dd_jdk_33_method_13_22 rfl rfl ?_
      refine own_iload_n (pc' := 24) X0 dd_jdk_33_method_13_23 rfl rfl ?_
      by_cases h3 : v < 1000
      · refine own_icmpN (pc' := 27) X0 dd_jdk_33_method_13_24 rfl ((tlt ((own_gtneg (n := 1000) (by decide) p_b).mpr h3)).2.2.2) ?_
        refine own_iload_n (pc' := 28) X0 dd_jdk_33_method_13_27 rfl rfl ?_
        refine own_iload_n (pc' := 29) X0 dd_jdk_33_method_13_28 rfl rfl ?_
        refine own_iadd (pc' := 30) X0 dd_jdk_33_method_13_29 rfl (r := (3 : Int32)) (by decide) ?_
        exact own_ret X0 hGe (t := .int) rfl rfl (Or.inl ⟨rfl, by simp, _, rfl⟩) dd_jdk_33_method_13_30 (by decide) (by decide) ⟨by rw [(own_nduq p_v p_w (m := 3) (by show 100 ≤ v; omega) (by show v < 1000; omega) p_1 (by decide))]; rfl, rfl⟩ nofun
      · refine own_icmpY (pc' := 31) X0 dd_jdk_33_method_13_24 ((flt (fun q => h3 ((own_gtneg (n := 1000) (by decide) p_b).mp q))).2.2.2) (by decide) (by decide) ?_
        refine own_bipush (pc' := 33) X0 dd_jdk_33_method_13_31 rfl (z := (10 : Int32)) (by decide) ?_
        refine own_iload_n (pc' := 34) X0 dd_jdk_33_method_13_33 rfl rfl ?_
        refine own_imul (pc' := 35) X0 dd_jdk_33_method_13_34 rfl (r := (-10000 : Int32)) (by decide) ?_
        refine own_istore_n (pc' := 36) X0 dd_jdk_33_method_13_35 rfl (Ls' := #[.val (.int (-(Int32.ofNat v))), .val (.int (0 : Int32)), .val (.int (-10000 : Int32)), .val (.int (3 : Int32))]) rfl ?_
        refine own_iinc (pc' := 39) X0 dd_jdk_33_method_13_36 rfl rfl (z := (1 : Int32)) (by decide) (r := (4 : Int32)) (by decide) (Ls' := #[.val (.int (-(Int32.ofNat v))), .val (.int (0 : Int32)), .val (.int (-10000 : Int32)), .val (.int (4 : Int32))]) rfl ?_
        refine own_goto (pc' := 16) X0 dd_jdk_33_method_13_39 (by decide) (by decide) ?_
        refine own_iload_n (pc' := 17) X0 dd_jdk_33_method_13_16 rfl rfl ?_
        refine own_bipush (pc' := 19) X0 dd_jdk_33_method_13_17 rfl (z := (10 : Int32)) (by decide) ?_
        refine own_icmpN (pc' := 22) X0 dd_jdk_33_method_13_19 rfl ((tlt (by decide)).2.1) ?_
        refine own_iload_n (pc' := 23) X0 dd_jdk_33_method_13_22 rfl rfl ?_
        refine own_iload_n (pc' := 24) X0 dd_jdk_33_method_13_23 rfl rfl ?_
        by_cases h4 : v < 10000
        · refine own_icmpN (pc' := 27) X0 dd_jdk_33_method_13_24 rfl ((tlt ((own_gtneg (n := 10000) (by decide) p_b).mpr h4)).2.2.2) ?_
          refine own_iload_n (pc' := 28) X0 dd_jdk_33_method_13_27 rfl rfl ?_
          refine own_iload_n (pc' := 29) X0 dd_jdk_33_method_13_28 rfl rfl ?_
          refine own_iadd (pc' := 30) X0 dd_jdk_33_method_13_29 rfl (r := (4 : Int32)) (by decide) ?_
          exact own_ret X0 hGe (t := .int) rfl rfl (Or.inl ⟨rfl, by simp, _, rfl⟩) dd_jdk_33_method_13_30 (by decide) (by decide) ⟨by rw [(own_nduq p_v p_w (m := 4) (by show 1000 ≤ v; omega) (by show v < 10000; omega) p_1 (by decide))]; rfl, rfl⟩ nofun
        · refine own_icmpY (pc' := 31) X0 dd_jdk_33_method_13_24 ((flt (fun q => h4 ((own_gtneg (n := 10000) (by decide) p_b).mp q))).2.2.2) (by decide) (by decide) ?_
          refine own_bipush (pc' := 33) X0 dd_jdk_33_method_13_31 rfl (z := (10 : Int32)) (by decide) ?_
          refine own_iload_n (pc' := 34) X0 dd_jdk_33_method_13_33 rfl rfl ?_
          refine own_imul (pc' := 35) X0 dd_jdk_33_method_13_34 rfl (r := (-100000 : Int32)) (by decide) ?_
          refine own_istore_n (pc' := 36) X0 dd_jdk_33_method_13_35 rfl (Ls' := #[.val (.int (-(Int32.ofNat v))), .val (.int (0 : Int32)), .val (.int (-100000 : Int32)), .val (.int (4 : Int32))]) rfl ?_
          refine own_iinc (pc' := 39) X0 dd_jdk_33_method_13_36 rfl rfl (z := (1 : Int32)) (by decide) (r := (5 : Int32)) (by decide) (Ls' := #[.val (.int (-(Int32.ofNat v))), .val (.int (0 : Int32)), .val (.int (-100000 : Int32)), .val (.int (5 : Int32))]) rfl ?_
          refine own_goto (pc' := 16) X0 dd_jdk_33_method_13_39 (by decide) (by decide) ?_
          refine own_iload_n (pc' := 17) X0 dd_jdk_33_method_13_16 rfl rfl ?_
          refine own_bipush (pc' := 19) X0 dd_jdk_33_method_13_17 rfl (z := (10 : Int32)) (by decide) ?_
          refine own_icmpN (pc' := 22) X0 dd_jdk_33_method_13_19 rfl ((tlt (by decide)).2.1) ?_
          refine own_iload_n (pc' := 23) X0 dd_jdk_33_method_13_22 rfl rfl ?_
          refine own_iload_n (pc' := 24) X0 dd_jdk_33_method_13_23 rfl rfl ?_
          by_cases h5 : v < 100000
          · refine own_icmpN (pc' := 27) X0 dd_jdk_33_method_13_24 rfl ((tlt ((own_gtneg (n := 100000) (by decide) p_b).mpr h5)).2.2.2) ?_
            refine own_iload_n (pc' := 28) X0 dd_jdk_33_method_13_27 rfl rfl ?_
            refine own_iload_n (pc' := 29) X0 dd_jdk_33_method_13_28 rfl rfl ?_
            refine own_iadd (pc' := 30) X0 dd_jdk_33_method_13_29 rfl (r := (5 : Int32)) (by decide) ?_
            exact own_ret X0 hGe (t := .int) rfl rfl (Or.inl ⟨rfl, by simp, _, rfl⟩) dd_jdk_33_method_13_30 (by decide) (by decide) ⟨by rw [(own_nduq p_v p_w (m := 5) (by show 10000 ≤ v; omega) (by show v < 100000; omega) p_1 (by decide))]; rfl, rfl⟩ nofun
          · refine own_icmpY (pc' := 31) X0 dd_jdk_33_method_13_24 ((flt (fun q => h5 ((own_gtneg (n := 100000) (by decide) p_b).mp q))).2.2.2) (by decide) (by decide) ?_
            refine own_bipush (pc' := 33) X0 dd_jdk_33_method_13_31 rfl (z := (10 : Int32)) (by decide) ?_
            refine own_iload_n (pc' := 34) X0 dd_jdk_33_method_13_33 rfl rfl ?_
            refine own_imul (pc' := 35) X0 dd_jdk_33_method_13_34 rfl (r := (-1000000 : Int32)) (by decide) ?_
            refine own_istore_n (pc' := 36) X0 dd_jdk_33_method_13_35 rfl (Ls' := #[.val (.int (-(Int32.ofNat v))), .val (.int (0 : Int32)), .val (.int (-1000000 : Int32)), .val (.int (5 : Int32))]) rfl ?_
            refine own_iinc (pc' := 39) X0 dd_jdk_33_method_13_36 rfl rfl (z := (1 : Int32)) (by decide) (r := (6 : Int32)) (by decide) (Ls' := #[.val (.int (-(Int32.ofNat v))), .val (.int (0 : Int32)), .val (.int (-1000000 : Int32)), .val (.int (6 : Int32))]) rfl ?_
            refine own_goto (pc' := 16) X0 dd_jdk_33_method_13_39 (by decide) (by decide) ?_
            refine own_iload_n (pc' := 17) X0 dd_jdk_33_method_13_16 rfl rfl ?_
            refine own_bipush (pc' := 19) X0 dd_jdk_33_method_13_17 rfl (z := (10 : Int32)) (by decide) ?_
            refine own_icmpN (pc' := 22) X0 dd_jdk_33_method_13_19 rfl ((tlt (by decide)).2.1) ?_
            refine own_iload_n (pc' := 23) X0 dd_jdk_33_method_13_22 rfl rfl ?_
            refine own_iload_n (pc' := 24) X0 dd_jdk_33_method_13_23 rfl rfl ?_
            by_cases h6 : v < 1000000
            · refine own_icmpN (pc' := 27) X0 dd_jdk_33_method_13_24 rfl ((tlt ((own_gtneg (n := 1000000) (by decide) p_b).mpr h6)).2.2.2) ?_
              refine own_iload_n (pc' := 28) X0 dd_jdk_33_method_13_27 rfl rfl ?_
              refine own_iload_n (pc' := 29) X0 dd_jdk_33_method_13_28 rfl rfl ?_
              refine own_iadd (pc' := 30) X0 dd_jdk_33_method_13_29 rfl (r := (6 : Int32)) (by decide) ?_
              exact own_ret X0 hGe (t := .int) rfl rfl (Or.inl ⟨rfl, by simp, _, rfl⟩) dd_jdk_33_method_13_30 (by decide) (by decide) ⟨by rw [(own_nduq p_v p_w (m := 6) (by show 100000 ≤ v; omega) (by show v < 1000000; omega) p_1 (by decide))]; rfl, rfl⟩ nofun
            · refine own_icmpY (pc' := 31) X0 dd_jdk_33_method_13_24 ((flt (fun q => h6 ((own_gtneg (n := 1000000) (by decide) p_b).mp q))).2.2.2) (by decide) (by decide) ?_
              refine own_bipush (pc' := 33) X0 dd_jdk_33_method_13_31 rfl (z := (10 : Int32)) (by decide) ?_
              refine own_iload_n (pc' := 34) X0 dd_jdk_33_method_13_33 rfl rfl ?_
              refine own_imul (pc' := 35) X0 dd_jdk_33_method_13_34 rfl (r := (-10000000 : Int32)) (by decide) ?_
              refine own_istore_n (pc' := 36) X0 dd_jdk_33_method_13_35 rfl (Ls' := #[.val (.int (-(Int32.ofNat v))), .val (.int (0 : Int32)), .val (.int (-10000000 : Int32)), .val (.int (6 : Int32))]) rfl ?_
              refine own_iinc (pc' := 39) X0 dd_jdk_33_method_13_36 rfl rfl (z := (1 : Int32)) (by decide) (r := (7 : Int32)) (by decide) (Ls' := #[.val (.int (-(Int32.ofNat v))), .val (.int (0 : Int32)), .val (.int (-10000000 : Int32)), .val (.int (7 : Int32))]) rfl ?_
              refine own_goto (pc' := 16) X0 dd_jdk_33_method_13_39 (by decide) (by decide) ?_
              refine own_iload_n (pc' := 17) X0 dd_jdk_33_method_13_16 rfl rfl ?_
              refine own_bipush (pc' := 19) X0 dd_jdk_33_method_13_17 rfl (z := (10 : Int32)) (by decide) ?_
              refine own_icmpN (pc' := 22) X0 dd_jdk_33_method_13_19 rfl ((tlt (by decide)).2.1) ?_
              refine own_iload_n (pc' := 23) X0 dd_jdk_33_method_13_22 rfl rfl ?_
              refine own_iload_n (pc' := 24) X0 dd_jdk_33_method_13_23 rfl rfl ?_
              by_cases h7 : v < 10000000
              · refine own_icmpN (pc' := 27) X0 dd_jdk_33_method_13_24 rfl ((tlt ((own_gtneg (n := 10000000) (by decide) p_b).mpr h7)).2.2.2) ?_
                refine own_iload_n (pc' := 28) X0 dd_jdk_33_method_13_27 rfl rfl ?_
                refine own_iload_n (pc' := 29) X0 dd_jdk_33_method_13_28 rfl rfl ?_
                refine own_iadd (pc' := 30) X0 dd_jdk_33_method_13_29 rfl (r := (7 : Int32)) (by decide) ?_
                exact own_ret X0 hGe (t := .int) rfl rfl (Or.inl ⟨rfl, by simp, _, rfl⟩) dd_jdk_33_method_13_30 (by decide) (by decide) ⟨by rw [(own_nduq p_v p_w (m := 7) (by show 1000000 ≤ v; omega) (by show v < 10000000; omega) p_1 (by decide))]; rfl, rfl⟩ nofun
              · refine own_icmpY (pc' := 31) X0 dd_jdk_33_method_13_24 ((flt (fun q => h7 ((own_gtneg (n := 10000000) (by decide) p_b).mp q))).2.2.2) (by decide) (by decide) ?_
                refine own_bipush (pc' := 33) X0 dd_jdk_33_method_13_31 rfl (z := (10 : Int32)) (by decide) ?_
                refine own_iload_n (pc' := 34) X0 dd_jdk_33_method_13_33 rfl rfl ?_
                refine own_imul (pc' := 35) X0 dd_jdk_33_method_13_34 rfl (r := (-100000000 : Int32)) (by decide) ?_
                refine own_istore_n (pc' := 36) X0 dd_jdk_33_method_13_35 rfl (Ls' := #[.val (.int (-(Int32.ofNat v))), .val (.int (0 : Int32)), .val (.int (-100000000 : Int32)), .val (.int (7 : Int32))]) rfl ?_
                refine own_iinc (pc' := 39) X0 dd_jdk_33_method_13_36 rfl rfl (z := (1 : Int32)) (by decide) (r := (8 : Int32)) (by decide) (Ls' := #[.val (.int (-(Int32.ofNat v))), .val (.int (0 : Int32)), .val (.int (-100000000 : Int32)), .val (.int (8 : Int32))]) rfl ?_
                refine own_goto (pc' := 16) X0 dd_jdk_33_method_13_39 (by decide) (by decide) ?_
                refine own_iload_n (pc' := 17) X0 dd_jdk_33_method_13_16 rfl rfl ?_
                refine own_bipush (pc' := 19) X0 dd_jdk_33_method_13_17 rfl (z := (10 : Int32)) (by decide) ?_
                refine own_icmpN (pc' := 22) X0 dd_jdk_33_method_13_19 rfl ((tlt (by decide)).2.1) ?_
                refine own_iload_n (pc' := 23) X0 dd_jdk_33_method_13_22 rfl rfl ?_
                refine own_iload_n (pc' := 24) X0 dd_jdk_33_method_13_23 rfl rfl ?_
                by_cases h8 : v < 100000000
                · refine own_icmpN (pc' := 27) X0 dd_jdk_33_method_13_24 rfl ((tlt ((own_gtneg (n := 100000000) (by decide) p_b).mpr h8)).2.2.2) ?_
                  refine own_iload_n (pc' := 28) X0 dd_jdk_33_method_13_27 rfl rfl ?_
                  refine own_iload_n (pc' := 29) X0 dd_jdk_33_method_13_28 rfl rfl ?_
                  refine own_iadd (pc' := 30) X0 dd_jdk_33_method_13_29 rfl (r := (8 : Int32)) (by decide) ?_
                  exact own_ret X0 hGe (t := .int) rfl rfl (Or.inl ⟨rfl, by simp, _, rfl⟩) dd_jdk_33_method_13_30 (by decide) (by decide) ⟨by rw [(own_nduq p_v p_w (m := 8) (by show 10000000 ≤ v; omega) (by show v < 100000000; omega) p_1 (by decide))]; rfl, rfl⟩ nofun
                · refine own_icmpY (pc' := 31) X0 dd_jdk_33_method_13_24 ((flt (fun q => h8 ((own_gtneg (n := 100000000) (by decide) p_b).mp q))).2.2.2) (by decide) (by decide) ?_
                  refine own_bipush (pc' := 33) X0 dd_jdk_33_method_13_31 rfl (z := (10 : Int32)) (by decide) ?_
                  refine own_iload_n (pc' := 34) X0 dd_jdk_33_method_13_33 rfl rfl ?_
                  refine own_imul (pc' := 35) X0 dd_jdk_33_method_13_34 rfl (r := (-1000000000 : Int32)) (by decide) ?_
                  refine own_istore_n (pc' := 36) X0 dd_jdk_33_method_13_35 rfl (Ls' := #[.val (.int (-(Int32.ofNat v))), .val (.int (0 : Int32)), .val (.int (-1000000000 : Int32)), .val (.int (8 : Int32))]) rfl ?_
                  refine own_iinc (pc' := 39) X0 dd_jdk_33_method_13_36 rfl rfl (z := (1 : Int32)) (by decide) (r := (9 : Int32)) (by decide) (Ls' := #[.val (.int (-(Int32.ofNat v))), .val (.int (0 : Int32)), .val (.int (-1000000000 : Int32)), .val (.int (9 : Int32))]) rfl ?_
                  refine own_goto (pc' := 16) X0 dd_jdk_33_method_13_39 (by decide) (by decide) ?_
                  refine own_iload_n (pc' := 17) X0 dd_jdk_33_method_13_16 rfl rfl ?_
                  refine own_bipush (pc' := 19) X0 dd_jdk_33_method_13_17 rfl (z := (10 : Int32)) (by decide) ?_
                  refine own_icmpN (pc' := 22) X0 dd_jdk_33_method_13_19 rfl ((tlt (by decide)).2.1) ?_
                  refine own_iload_n (pc' := 23) X0 dd_jdk_33_method_13_22 rfl rfl ?_
                  refine own_iload_n (pc' := 24) X0 dd_jdk_33_method_13_23 rfl rfl ?_
                  by_cases h9 : v < 1000000000
                  · refine own_icmpN (pc' := 27) X0 dd_jdk_33_method_13_24 rfl ((tlt ((own_gtneg (n := 1000000000) (by decide) p_b).mpr h9)).2.2.2) ?_
                    refine own_iload_n (pc' := 28) X0 dd_jdk_33_method_13_27 rfl rfl ?_
                    refine own_iload_n (pc' := 29) X0 dd_jdk_33_method_13_28 rfl rfl ?_
                    refine own_iadd (pc' := 30) X0 dd_jdk_33_method_13_29 rfl (r := (9 : Int32)) (by decide) ?_
                    exact own_ret X0 hGe (t := .int) rfl rfl (Or.inl ⟨rfl, by simp, _, rfl⟩) dd_jdk_33_method_13_30 (by decide) (by decide) ⟨by rw [(own_nduq p_v p_w (m := 9) (by show 100000000 ≤ v; omega) (by show v < 1000000000; omega) p_1 (by decide))]; rfl, rfl⟩ nofun
                  · refine own_icmpY (pc' := 31) X0 dd_jdk_33_method_13_24 ((flt (fun q => h9 ((own_gtneg (n := 1000000000) (by decide) p_b).mp q))).2.2.2) (by decide) (by decide) ?_
                    refine own_bipush (pc' := 33) X0 dd_jdk_33_method_13_31 rfl (z := (10 : Int32)) (by decide) ?_
                    refine own_iload_n (pc' := 34) X0 dd_jdk_33_method_13_33 rfl rfl ?_
                    refine own_imul (pc' := 35) X0 dd_jdk_33_method_13_34 rfl (r := (-1410065408 : Int32)) (by decide) ?_
                    refine own_istore_n (pc' := 36) X0 dd_jdk_33_method_13_35 rfl (Ls' := #[.val (.int (-(Int32.ofNat v))), .val (.int (0 : Int32)), .val (.int (-1410065408 : Int32)), .val (.int (9 : Int32))]) rfl ?_
                    refine own_iinc (pc' := 39) X0 dd_jdk_33_method_13_36 rfl rfl (z := (1 : Int32)) (by decide) (r := (10 : Int32)) (by decide) (Ls' := #[.val (.int (-(Int32.ofNat v))), .val (.int (0 : Int32)), .val (.int (-1410065408 : Int32)), .val (.int (10 : Int32))]) rfl ?_
                    refine own_goto (pc' := 16) X0 dd_jdk_33_method_13_39 (by decide) (by decide) ?_
                    refine own_iload_n (pc' := 17) X0 dd_jdk_33_method_13_16 rfl rfl ?_
                    refine own_bipush (pc' := 19) X0 dd_jdk_33_method_13_17 rfl (z := (10 : Int32)) (by decide) ?_
                    refine own_icmpY (pc' := 42) X0 dd_jdk_33_method_13_19 ((flt (by decide)).2.1) (by decide) (by decide) ?_
                    refine own_bipush (pc' := 44) X0 dd_jdk_33_method_13_42 rfl (z := (10 : Int32)) (by decide) ?_
                    refine own_iload_n (pc' := 45) X0 dd_jdk_33_method_13_44 rfl rfl ?_
                    refine own_iadd (pc' := 46) X0 dd_jdk_33_method_13_45 rfl (r := (10 : Int32)) (by decide) ?_
                    exact own_ret X0 hGe (t := .int) rfl rfl (Or.inl ⟨rfl, by simp, _, rfl⟩) dd_jdk_33_method_13_46 (by decide) (by decide) ⟨by rw [(own_nduq p_v p_w (m := 10) (by show 1000000000 ≤ v; omega) (by show v < 10000000000; omega) p_1 (by decide))]; rfl, rfl⟩ nofun
theorem dd_jdk_33_method_12_0 : decode jdk_33_method_12_code 0 = .ok (.iload_n 1, 1) := by decide +kernel
theorem dd_jdk_33_method_12_1 : decode jdk_33_method_12_code 1 = .ok (.istore 5, 2) := by decide +kernel
theorem dd_jdk_33_method_12_3 : decode jdk_33_method_12_code 3 = .ok (.iload_n 0, 1) := by decide +kernel
theorem dd_jdk_33_method_12_4 : decode jdk_33_method_12_code 4 = .ok (.ifCond .ge 7, 3) := by decide +kernel
theorem dd_jdk_33_method_12_11 : decode jdk_33_method_12_code 11 = .ok (.iconst 0, 1) := by decide +kernel
theorem dd_jdk_33_method_12_12 : decode jdk_33_method_12_code 12 = .ok (.istore 6, 2) := by decide +kernel
theorem dd_jdk_33_method_12_14 : decode jdk_33_method_12_code 14 = .ok (.iload 6, 2) := by decide +kernel
theorem dd_jdk_33_method_12_16 : decode jdk_33_method_12_code 16 = .ok (.ifCond .ne 6, 3) := by decide +kernel
theorem dd_jdk_33_method_12_19 : decode jdk_33_method_12_code 19 = .ok (.iload_n 0, 1) := by decide +kernel
theorem dd_jdk_33_method_12_20 : decode jdk_33_method_12_code 20 = .ok (.ineg, 1) := by decide +kernel
theorem dd_jdk_33_method_12_21 : decode jdk_33_method_12_code 21 = .ok (.istore_n 0, 1) := by decide +kernel
theorem own_ixn {v n ix m : Nat} (h1 : 10 ^ (n - 1) ≤ v) (h2 : v < 10 ^ n) (hn : 1 ≤ n) (hx : n ≤ ix) (h3 : 10 ^ (m - 1) ≤ v) : m ≤ ix := by
  apply Classical.byContradiction
  intro q
  have := Nat.pow_le_pow_right (show 0 < 10 by decide) (show n ≤ m - 1 by omega)
  omega
theorem dd_jdk_33_method_12_22 : decode jdk_33_method_12_code 22 = .ok (.iload_n 0, 1) := by decide +kernel
theorem dd_jdk_33_method_12_23 : decode jdk_33_method_12_code 23 = .ok (.bipush (-100), 2) := by decide +kernel
theorem dd_jdk_33_method_12_25 : decode jdk_33_method_12_code 25 = .ok (.if_icmp .gt 47, 3) := by decide +kernel
theorem dd_jdk_33_method_12_72 : decode jdk_33_method_12_code 72 = .ok (.aload_n 2, 1) := by decide +kernel
theorem dd_jdk_33_method_12_73 : decode jdk_33_method_12_code 73 = .ok (.iinc 5 (-1), 3) := by decide +kernel
theorem dd_jdk_33_method_12_76 : decode jdk_33_method_12_code 76 = .ok (.iload 5, 2) := by decide +kernel
theorem dd_jdk_33_method_12_78 : decode jdk_33_method_12_code 78 = .ok (.getstatic 83, 3) := by decide +kernel
theorem dd_jdk_33_method_12_81 : decode jdk_33_method_12_code 81 = .ok (.iload_n 0, 1) := by decide +kernel
theorem dd_jdk_33_method_12_82 : decode jdk_33_method_12_code 82 = .ok (.ineg, 1) := by decide +kernel
theorem dd_jdk_33_method_12_83 : decode jdk_33_method_12_code 83 = .ok (.baload, 1) := by decide +kernel
theorem dd_jdk_33_method_12_84 : decode jdk_33_method_12_code 84 = .ok (.bastore, 1) := by decide +kernel
theorem dd_jdk_33_method_12_85 : decode jdk_33_method_12_code 85 = .ok (.iload_n 0, 1) := by decide +kernel
theorem dd_jdk_33_method_12_86 : decode jdk_33_method_12_code 86 = .ok (.bipush (-9), 2) := by decide +kernel
theorem dd_jdk_33_method_12_88 : decode jdk_33_method_12_code 88 = .ok (.if_icmp .ge 16, 3) := by decide +kernel
theorem dd_jdk_33_method_12_104 : decode jdk_33_method_12_code 104 = .ok (.iload 6, 2) := by decide +kernel
theorem dd_jdk_33_method_12_106 : decode jdk_33_method_12_code 106 = .ok (.ifCond .eq 12, 3) := by decide +kernel
theorem dd_jdk_33_method_12_118 : decode jdk_33_method_12_code 118 = .ok (.iload 5, 2) := by decide +kernel
theorem dd_jdk_33_method_12_120 : decode jdk_33_method_12_code 120 = .ok (.ireturn, 1) := by decide +kernel
theorem dd_jdk_33_method_12_91 : decode jdk_33_method_12_code 91 = .ok (.aload_n 2, 1) := by decide +kernel
theorem dd_jdk_33_method_12_92 : decode jdk_33_method_12_code 92 = .ok (.iinc 5 (-1), 3) := by decide +kernel
theorem dd_jdk_33_method_12_95 : decode jdk_33_method_12_code 95 = .ok (.iload 5, 2) := by decide +kernel
theorem dd_jdk_33_method_12_97 : decode jdk_33_method_12_code 97 = .ok (.getstatic 87, 3) := by decide +kernel
theorem dd_jdk_33_method_12_100 : decode jdk_33_method_12_code 100 = .ok (.iload_n 0, 1) := by decide +kernel
theorem dd_jdk_33_method_12_101 : decode jdk_33_method_12_code 101 = .ok (.ineg, 1) := by decide +kernel
theorem dd_jdk_33_method_12_102 : decode jdk_33_method_12_code 102 = .ok (.baload, 1) := by decide +kernel
theorem dd_jdk_33_method_12_103 : decode jdk_33_method_12_code 103 = .ok (.bastore, 1) := by decide +kernel
theorem dd_jdk_33_method_12_28 : decode jdk_33_method_12_code 28 = .ok (.iload_n 0, 1) := by decide +kernel
theorem dd_jdk_33_method_12_29 : decode jdk_33_method_12_code 29 = .ok (.bipush 100, 2) := by decide +kernel
theorem dd_jdk_33_method_12_31 : decode jdk_33_method_12_code 31 = .ok (.idiv, 1) := by decide +kernel
theorem dd_jdk_33_method_12_32 : decode jdk_33_method_12_code 32 = .ok (.istore_n 3, 1) := by decide +kernel
theorem dd_jdk_33_method_12_33 : decode jdk_33_method_12_code 33 = .ok (.iload_n 3, 1) := by decide +kernel
theorem dd_jdk_33_method_12_34 : decode jdk_33_method_12_code 34 = .ok (.bipush 100, 2) := by decide +kernel
theorem dd_jdk_33_method_12_36 : decode jdk_33_method_12_code 36 = .ok (.imul, 1) := by decide +kernel
theorem dd_jdk_33_method_12_37 : decode jdk_33_method_12_code 37 = .ok (.iload_n 0, 1) := by decide +kernel
theorem dd_jdk_33_method_12_38 : decode jdk_33_method_12_code 38 = .ok (.isub, 1) := by decide +kernel
theorem dd_jdk_33_method_12_39 : decode jdk_33_method_12_code 39 = .ok (.istore 4, 2) := by decide +kernel
theorem dd_jdk_33_method_12_41 : decode jdk_33_method_12_code 41 = .ok (.iload_n 3, 1) := by decide +kernel
theorem dd_jdk_33_method_12_42 : decode jdk_33_method_12_code 42 = .ok (.istore_n 0, 1) := by decide +kernel
theorem dd_jdk_33_method_12_43 : decode jdk_33_method_12_code 43 = .ok (.aload_n 2, 1) := by decide +kernel
theorem dd_jdk_33_method_12_44 : decode jdk_33_method_12_code 44 = .ok (.iinc 5 (-1), 3) := by decide +kernel
theorem dd_jdk_33_method_12_47 : decode jdk_33_method_12_code 47 = .ok (.iload 5, 2) := by decide +kernel
theorem dd_jdk_33_method_12_49 : decode jdk_33_method_12_code 49 = .ok (.getstatic 83, 3) := by decide +kernel
theorem dd_jdk_33_method_12_52 : decode jdk_33_method_12_code 52 = .ok (.iload 4, 2) := by decide +kernel
theorem dd_jdk_33_method_12_54 : decode jdk_33_method_12_code 54 = .ok (.baload, 1) := by decide +kernel
theorem dd_jdk_33_method_12_55 : decode jdk_33_method_12_code 55 = .ok (.bastore, 1) := by decide +kernel
theorem dd_jdk_33_method_12_56 : decode jdk_33_method_12_code 56 = .ok (.aload_n 2, 1) := by decide +kernel
theorem dd_jdk_33_method_12_57 : decode jdk_33_method_12_code 57 = .ok (.iinc 5 (-1), 3) := by decide +kernel
theorem dd_jdk_33_method_12_60 : decode jdk_33_method_12_code 60 = .ok (.iload 5, 2) := by decide +kernel
theorem dd_jdk_33_method_12_62 : decode jdk_33_method_12_code 62 = .ok (.getstatic 87, 3) := by decide +kernel
theorem dd_jdk_33_method_12_65 : decode jdk_33_method_12_code 65 = .ok (.iload 4, 2) := by decide +kernel
theorem dd_jdk_33_method_12_67 : decode jdk_33_method_12_code 67 = .ok (.baload, 1) := by decide +kernel
theorem dd_jdk_33_method_12_68 : decode jdk_33_method_12_code 68 = .ok (.bastore, 1) := by decide +kernel
theorem dd_jdk_33_method_12_69 : decode jdk_33_method_12_code 69 = .ok (.goto (-47), 3) := by decide +kernel
theorem ef_own_gch (m : MethodId) (x0 : Int32) (x1 : Int32) (x2 : Addr) : entryFrame m #[(.int x0), (.int x1), (.ref x2)] 7 = mkF m 0 #[.val (.int x0), .val (.int x1), .val (.ref x2), .unset, .unset, .unset, .unset] [] := by first | (simp [entryFrame, mkF, argsToLocals, Value.category]; done) | rfl
set_option maxRecDepth 65536 in
set_option maxHeartbeats 40000000 in
theorem own_gch (l : Launch) (Z : State) (a0 : Array Value) (hw : ∀ d ∈ tables_1, d.before a0 Z = true) (EWf : own_EW Z own_EL) (n0 : Nat) (v ix n : Nat) (a dn dt : Addr) (k : ClassId) (vs : List Value) (h0 : Heap) (O0 : Old Z n0 h0) (p_1 : 1 ≤ n) (p_v : 10 ^ (n - 1) ≤ v) (p_w : v < 10 ^ n) (p_b : v < 2 ^ 31) (p_A : own_Arr Z h0 a k .byte vs) (n_a : n0 ≤ a) (p_n : n ≤ ix) (p_x : ix ≤ vs.length) (p_16 : 16 ≤ vs.length) (p_34 : vs.length ≤ 34) (DG : own_DG Z dn dt) :
    own_Met l Z own_EL [] false n0 (⟨"java/lang/Integer", "getChars", "(II[B)I"⟩ : MethodName) jdk_33_method_12_code 7 (some .int) ({ frames := 0, cells := 0, slots := 0, locals := 0 } : Room) #[(.int (Int32.ofNat v)), (.int (Int32.ofNat ix)), (.ref a)] h0 (fun v' h => ∃ z : Int32, v' = some (.int z) ∧ Keep h0 h [a] ∧ own_Arr Z h a k .byte (vs.take (ix - n) ++ (own_bs (own_dg v n) ++ vs.drop ix))) := by
  refine own_enter (own := "java/lang/Integer") (nm := "getChars") (plainFor_of_name pn_7) rfl rfl O0 EWf ?_
  have W : ∀ (k : Nat) {d : Jvm.Cond}, tables_1[k]? = some d → d.before a0 Z = true := fun k d q => hw d (List.mem_of_getElem? q)
  intro G p e s m below meth c T0 hGe X0
  rw [ef_own_gch m ((Int32.ofNat v)) ((Int32.ofNat ix)) a]
  have p_0 : 1 ≤ v := Nat.le_trans (Nat.one_le_pow _ _ (by decide)) p_v
  obtain ⟨gn, gt, ⟨kn, An⟩, ⟨kt, At⟩⟩ := DG
  have ne_dn : dn ≠ a := own_ne An.lt (show Z.heap.size ≤ n0 from Nat.le_of_eq (own_old X0).1) n_a
  have ne_dt : dt ≠ a := own_ne At.lt (show Z.heap.size ≤ n0 from Nat.le_of_eq (own_old X0).1) n_a
  have p_A0 : own_Arr Z h0 a k .byte (vs.take (ix - 0) ++ (own_bs (own_dg v 0) ++ vs.drop ix)) := by have q := p_A; rw [← List.take_append_drop ix vs] at q; exact q
  have l_v : (vs.take (ix - 0) ++ (own_bs (own_dg v 0) ++ vs.drop ix)).length = vs.length := by simp [own_dg, own_bs] <;> omega
  have X1p := own_addP X0 (x := a) ⟨own_safeLen (own_warm X0) p_A0 (own_allP ⟨":", W 119 rfl, (by have := (show 16 ≤ (vs.take (ix - 0) ++ (own_bs (own_dg v 0) ++ vs.drop ix)).length by omega); simp at this ⊢; omega)⟩ (own_allP ⟨"", W 224 rfl, (by have := (show 16 ≤ (vs.take (ix - 0) ++ (own_bs (own_dg v 0) ++ vs.drop ix)).length by omega); simp at this ⊢; omega)⟩ own_allN)), p_A0.lt⟩
  refine own_iload_n (pc' := 1) X1p dd_jdk_33_method_12_0 rfl rfl ?_
  refine own_istore (pc' := 3) X1p dd_jdk_33_method_12_1 rfl (Ls' := #[.val (.int (Int32.ofNat v)), .val (.int (Int32.ofNat ix)), .val (.ref a), .unset, .unset, .val (.int (Int32.ofNat ix)), .unset]) rfl ?_
  refine own_iload_n (pc' := 4) X1p dd_jdk_33_method_12_3 rfl rfl ?_
  refine own_ifY (pc' := 11) X1p dd_jdk_33_method_12_4 ((flt (own_i32le (n := 0) (Nat.zero_le _) p_b)).2.1) (by decide) (by decide) ?_
  refine own_iconst (pc' := 12) X1p dd_jdk_33_method_12_11 rfl (z := (0 : Int32)) (by decide) ?_
  refine own_istore (pc' := 14) X1p dd_jdk_33_method_12_12 rfl (Ls' := #[.val (.int (Int32.ofNat v)), .val (.int (Int32.ofNat ix)), .val (.ref a), .unset, .unset, .val (.int (Int32.ofNat ix)), .val (.int (0 : Int32))]) rfl ?_
  refine own_iload (pc' := 16) X1p dd_jdk_33_method_12_14 rfl rfl ?_
  refine own_ifN (pc' := 19) X1p dd_jdk_33_method_12_16 rfl ((teq rfl).2) ?_
  refine own_iload_n (pc' := 20) X1p dd_jdk_33_method_12_19 rfl rfl ?_
  refine own_ineg (pc' := 21) X1p dd_jdk_33_method_12_20 rfl ?_
  refine own_istore_n (pc' := 22) X1p dd_jdk_33_method_12_21 rfl (Ls' := #[.val (.int (-(Int32.ofNat v))), .val (.int (Int32.ofNat ix)), .val (.ref a), .unset, .unset, .val (.int (Int32.ofNat ix)), .val (.int (0 : Int32))]) rfl ?_
  refine own_iload_n (pc' := 23) X1p dd_jdk_33_method_12_22 rfl rfl ?_
  refine own_bipush (pc' := 25) X1p dd_jdk_33_method_12_23 rfl (z := (-100 : Int32)) (by decide) ?_
  by_cases g0 : v < 100
  · refine own_icmpY (pc' := 72) X1p dd_jdk_33_method_12_25 ((tlt ((own_gtneg (n := 100) (by decide) (by omega)).mpr g0)).2.2.1) (by decide) (by decide) ?_
    have b_0 : 1 ≤ ix - 0 := by have := own_ixn p_v p_w p_1 p_n (m := 1) (by show 1 ≤ v; omega); omega
    refine own_aload_n (pc' := 73) X1p dd_jdk_33_method_12_72 rfl rfl rfl ?_
    refine own_iinc (pc' := 76) X1p dd_jdk_33_method_12_73 rfl rfl (z := (-1 : Int32)) (by decide) (r := (Int32.ofNat (ix - 1))) (own_dec (by omega) (by omega)) (Ls' := #[.val (.int (-(Int32.ofNat v))), .val (.int (Int32.ofNat ix)), .val (.ref a), .unset, .unset, .val (.int (Int32.ofNat (ix - 1))), .val (.int (0 : Int32))]) rfl ?_
    refine own_iload (pc' := 78) X1p dd_jdk_33_method_12_76 rfl rfl ?_
    refine own_getS (pc' := 81) X1p (W 143 rfl) Via.refl (own_sta X1p gn) dd_jdk_33_method_12_78 rfl ?_
    intro T2 X2
    refine own_iload_n (pc' := 82) X2 dd_jdk_33_method_12_81 rfl rfl ?_
    refine own_ineg (pc' := 83) X2 dd_jdk_33_method_12_82 rfl ?_
    rw [Int32.neg_neg]
    refine own_baload (pc' := 84) (i := (v)) (v := (.int (Int32.ofNat (48 + (v % 10))))) X2 (An.keep (own_oldK (own_old X0)) nin0) (own_i32 (by omega)) (own_onv (by omega)) dd_jdk_33_method_12_83 rfl ?_
    refine own_bastore (pc' := 85) (i := (ix - 1)) (y := (Int32.ofNat (48 + (v % 10)))) X2 p_A0 (own_i32 (by omega)) (by simp [own_dgl, own_bs]; omega) (own_nar8 (by omega)) n_a (List.mem_of_getElem? (i := 0) rfl) dd_jdk_33_method_12_84 rfl ?_
    intro T3 h3 X3 K3 A3
    have B1 : own_Arr Z h3 a k .byte (vs.take (ix - 1) ++ (own_bs (own_dg v 1) ++ vs.drop ix)) := by rw [own_dgS v 0 (d := v % 10) (by show v % 10 = v / 1 % 10; omega), List.cons_append]; have q := A3; rw [show ix - 0 = ix - 1 + 1 from by omega, own_setT (by omega)] at q; exact q
    refine own_iload_n (pc' := 86) X3 dd_jdk_33_method_12_85 rfl rfl ?_
    refine own_bipush (pc' := 88) X3 dd_jdk_33_method_12_86 rfl (z := (-9 : Int32)) (by decide) ?_
    by_cases d0 : v < 10
    · refine own_icmpY (pc' := 104) X3 dd_jdk_33_method_12_88 ((flt (fun q => absurd ((own_ltneg (n := 9) (by decide) (by omega)).mp q) (by omega))).2.1) (by decide) (by decide) ?_
      refine own_iload (pc' := 106) X3 dd_jdk_33_method_12_104 rfl rfl ?_
      refine own_ifY (pc' := 118) X3 dd_jdk_33_method_12_106 ((teq rfl).1) (by decide) (by decide) ?_
      refine own_iload (pc' := 120) X3 dd_jdk_33_method_12_118 rfl rfl ?_
      have e_n : n = 1 := (own_nduq p_v p_w (m := 1) (by show 1 ≤ v; omega) (by show v < 10; omega) p_1 (by decide))
      exact own_ret X3 hGe (t := .int) rfl rfl (Or.inl ⟨rfl, by simp, _, rfl⟩) dd_jdk_33_method_12_120 (by decide) (by decide) ⟨_, rfl, ((Keep.refl h0 [a]).trans K3 (allS (Or.inl (List.mem_of_getElem? (i := 0) rfl)) all0)), by rw [e_n]; exact B1⟩ nofun
    · refine own_icmpN (pc' := 91) X3 dd_jdk_33_method_12_88 rfl ((tlt ((own_ltneg (n := 9) (by decide) (by omega)).mpr (by omega))).2.1) ?_
      have c_0 : 1 ≤ ix - 1 := by have := own_ixn p_v p_w p_1 p_n (m := 2) (by show 10 ≤ v; omega); omega
      refine own_aload_n (pc' := 92) X3 dd_jdk_33_method_12_91 rfl rfl rfl ?_
      refine own_iinc (pc' := 95) X3 dd_jdk_33_method_12_92 rfl rfl (z := (-1 : Int32)) (by decide) (r := (Int32.ofNat (ix - 2))) (own_dec (by omega) (by omega)) (Ls' := #[.val (.int (-(Int32.ofNat v))), .val (.int (Int32.ofNat ix)), .val (.ref a), .unset, .unset, .val (.int (Int32.ofNat (ix - 2))), .val (.int (0 : Int32))]) rfl ?_
      refine own_iload (pc' := 97) X3 dd_jdk_33_method_12_95 rfl rfl ?_
      refine own_getS (pc' := 100) X3 (W 223 rfl) Via.refl (own_sta X3 gt) dd_jdk_33_method_12_97 rfl ?_
      intro T4 X4
      refine own_iload_n (pc' := 101) X4 dd_jdk_33_method_12_100 rfl rfl ?_
      refine own_ineg (pc' := 102) X4 dd_jdk_33_method_12_101 rfl ?_
      rw [Int32.neg_neg]
      have f5 := ((At.keep (own_oldK (own_old X0)) nin0).keep K3 (ninS ne_dt nin0))
      refine own_baload (pc' := 103) (i := (v)) (v := (.int (Int32.ofNat (48 + (v / 10))))) X4 f5 (own_i32 (by omega)) (own_tev (by omega)) dd_jdk_33_method_12_102 rfl ?_
      refine own_bastore (pc' := 104) (i := (ix - 2)) (y := (Int32.ofNat (48 + (v / 10)))) X4 B1 (own_i32 (by omega)) (by simp [own_dgl, own_bs]; omega) (own_nar8 (by omega)) n_a (List.mem_of_getElem? (i := 0) rfl) dd_jdk_33_method_12_103 rfl ?_
      intro T6 h6 X6 K6 A6
      have B2 : own_Arr Z h6 a k .byte (vs.take (ix - 2) ++ (own_bs (own_dg v 2) ++ vs.drop ix)) := by rw [own_dgS v 1 (d := v / 10) (by show v / 10 = v / 10 % 10; omega), List.cons_append]; have q := A6; rw [show ix - 1 = ix - 2 + 1 from by omega, own_setT (by omega)] at q; exact q
      refine own_iload (pc' := 106) X6 dd_jdk_33_method_12_104 rfl rfl ?_
      refine own_ifY (pc' := 118) X6 dd_jdk_33_method_12_106 ((teq rfl).1) (by decide) (by decide) ?_
      refine own_iload (pc' := 120) X6 dd_jdk_33_method_12_118 rfl rfl ?_
      have e_n : n = 2 := (own_nduq p_v p_w (m := 2) (by show 10 ≤ v; omega) (by show v < 100; omega) p_1 (by decide))
      exact own_ret X6 hGe (t := .int) rfl rfl (Or.inl ⟨rfl, by simp, _, rfl⟩) dd_jdk_33_method_12_120 (by decide) (by decide) ⟨_, rfl, (((Keep.refl h0 [a]).trans K3 (allS (Or.inl (List.mem_of_getElem? (i := 0) rfl)) all0)).trans K6 (allS (Or.inl (List.mem_of_getElem? (i := 0) rfl)) all0)), by rw [e_n]; exact B2⟩ nofun
  · refine own_icmpN (pc' := 28) X1p dd_jdk_33_method_12_25 rfl ((flt (fun q => g0 ((own_gtneg (n := 100) (by decide) (by omega)).mp q))).2.2.1) ?_
    have b_0 : 2 ≤ ix - 0 := by have := own_ixn p_v p_w p_1 p_n (m := 3) (by show 100 ≤ v; omega); omega
    refine own_iload_n (pc' := 29) X1p dd_jdk_33_method_12_28 rfl rfl ?_
    refine own_bipush (pc' := 31) X1p dd_jdk_33_method_12_29 rfl (z := (100 : Int32)) (by decide) ?_
    refine own_idiv (pc' := 32) X1p dd_jdk_33_method_12_31 rfl (by decide) ?_
    rw [own_dv (u := (v / 100)) (by omega) (by omega)]
    refine own_istore_n (pc' := 33) X1p dd_jdk_33_method_12_32 rfl (Ls' := #[.val (.int (-(Int32.ofNat v))), .val (.int (Int32.ofNat ix)), .val (.ref a), .val (.int (-(Int32.ofNat (v / 100)))), .unset, .val (.int (Int32.ofNat ix)), .val (.int (0 : Int32))]) rfl ?_
    refine own_iload_n (pc' := 34) X1p dd_jdk_33_method_12_33 rfl rfl ?_
    refine own_bipush (pc' := 36) X1p dd_jdk_33_method_12_34 rfl (z := (100 : Int32)) (by decide) ?_
    refine own_imul (pc' := 37) X1p dd_jdk_33_method_12_36 rfl (r := ((-(Int32.ofNat (v / 100))) * (100 : Int32))) rfl ?_
    refine own_iload_n (pc' := 38) X1p dd_jdk_33_method_12_37 rfl rfl ?_
    refine own_isub (pc' := 39) X1p dd_jdk_33_method_12_38 rfl (r := (Int32.ofNat (v % 100))) (own_rm (by omega) (by omega)) ?_
    refine own_istore (pc' := 41) X1p dd_jdk_33_method_12_39 rfl (Ls' := #[.val (.int (-(Int32.ofNat v))), .val (.int (Int32.ofNat ix)), .val (.ref a), .val (.int (-(Int32.ofNat (v / 100)))), .val (.int (Int32.ofNat (v % 100))), .val (.int (Int32.ofNat ix)), .val (.int (0 : Int32))]) rfl ?_
    refine own_iload_n (pc' := 42) X1p dd_jdk_33_method_12_41 rfl rfl ?_
    refine own_istore_n (pc' := 43) X1p dd_jdk_33_method_12_42 rfl (Ls' := #[.val (.int (-(Int32.ofNat (v / 100)))), .val (.int (Int32.ofNat ix)), .val (.ref a), .val (.int (-(Int32.ofNat (v / 100)))), .val (.int (Int32.ofNat (v % 100))), .val (.int (Int32.ofNat ix)), .val (.int (0 : Int32))]) rfl ?_
    refine own_aload_n (pc' := 44) X1p dd_jdk_33_method_12_43 rfl rfl rfl ?_
    refine own_iinc (pc' := 47) X1p dd_jdk_33_method_12_44 rfl rfl (z := (-1 : Int32)) (by decide) (r := (Int32.ofNat (ix - 1))) (own_dec (by omega) (by omega)) (Ls' := #[.val (.int (-(Int32.ofNat (v / 100)))), .val (.int (Int32.ofNat ix)), .val (.ref a), .val (.int (-(Int32.ofNat (v / 100)))), .val (.int (Int32.ofNat (v % 100))), .val (.int (Int32.ofNat (ix - 1))), .val (.int (0 : Int32))]) rfl ?_
    refine own_iload (pc' := 49) X1p dd_jdk_33_method_12_47 rfl rfl ?_
    refine own_getS (pc' := 52) X1p (W 143 rfl) Via.refl (own_sta X1p gn) dd_jdk_33_method_12_49 rfl ?_
    intro T7 X7
    refine own_iload (pc' := 54) X7 dd_jdk_33_method_12_52 rfl rfl ?_
    refine own_baload (pc' := 55) (i := (v % 100)) (v := (.int (Int32.ofNat (48 + (v % 100 % 10))))) X7 (An.keep (own_oldK (own_old X0)) nin0) (own_i32 (by omega)) (own_onv (by omega)) dd_jdk_33_method_12_54 rfl ?_
    refine own_bastore (pc' := 56) (i := (ix - 1)) (y := (Int32.ofNat (48 + (v % 100 % 10)))) X7 p_A0 (own_i32 (by omega)) (by simp [own_dgl, own_bs]; omega) (own_nar8 (by omega)) n_a (List.mem_of_getElem? (i := 0) rfl) dd_jdk_33_method_12_55 rfl ?_
    intro T8 h8 X8 K8 A8
    have B1 : own_Arr Z h8 a k .byte (vs.take (ix - 1) ++ (own_bs (own_dg v 1) ++ vs.drop ix)) := by rw [own_dgS v 0 (d := v % 100 % 10) (by show v % 100 % 10 = v / 1 % 10; omega), List.cons_append]; have q := A8; rw [show ix - 0 = ix - 1 + 1 from by omega, own_setT (by omega)] at q; exact q
    refine own_aload_n (pc' := 57) X8 dd_jdk_33_method_12_56 rfl rfl rfl ?_
    refine own_iinc (pc' := 60) X8 dd_jdk_33_method_12_57 rfl rfl (z := (-1 : Int32)) (by decide) (r := (Int32.ofNat (ix - 2))) (own_dec (by omega) (by omega)) (Ls' := #[.val (.int (-(Int32.ofNat (v / 100)))), .val (.int (Int32.ofNat ix)), .val (.ref a), .val (.int (-(Int32.ofNat (v / 100)))), .val (.int (Int32.ofNat (v % 100))), .val (.int (Int32.ofNat (ix - 2))), .val (.int (0 : Int32))]) rfl ?_
    refine own_iload (pc' := 62) X8 dd_jdk_33_method_12_60 rfl rfl ?_
    refine own_getS (pc' := 65) X8 (W 223 rfl) Via.refl (own_sta X8 gt) dd_jdk_33_method_12_62 rfl ?_
    intro T9 X9
    refine own_iload (pc' := 67) X9 dd_jdk_33_method_12_65 rfl rfl ?_
    have f10 := ((At.keep (own_oldK (own_old X0)) nin0).keep K8 (ninS ne_dt nin0))
    refine own_baload (pc' := 68) (i := (v % 100)) (v := (.int (Int32.ofNat (48 + (v % 100 / 10))))) X9 f10 (own_i32 (by omega)) (own_tev (by omega)) dd_jdk_33_method_12_67 rfl ?_
    refine own_bastore (pc' := 69) (i := (ix - 2)) (y := (Int32.ofNat (48 + (v % 100 / 10)))) X9 B1 (own_i32 (by omega)) (by simp [own_dgl, own_bs]; omega) (own_nar8 (by omega)) n_a (List.mem_of_getElem? (i := 0) rfl) dd_jdk_33_method_12_68 rfl ?_
    intro T11 h11 X11 K11 A11
    have B2 : own_Arr Z h11 a k .byte (vs.take (ix - 2) ++ (own_bs (own_dg v 2) ++ vs.drop ix)) := by rw [own_dgS v 1 (d := v % 100 / 10) (by show v % 100 / 10 = v / 10 % 10; omega), List.cons_append]; have q := A11; rw [show ix - 1 = ix - 2 + 1 from by omega, own_setT (by omega)] at q; exact q
    refine own_goto (pc' := 22) X11 dd_jdk_33_method_12_69 (by decide) (by decide) ?_
    refine own_iload_n (pc' := 23) X11 dd_jdk_33_method_12_22 rfl rfl ?_
    refine own_bipush (pc' := 25) X11 dd_jdk_33_method_12_23 rfl (z := (-100 : Int32)) (by decide) ?_
    by_cases g1 : (v / 100) < 100
    · refine own_icmpY (pc' := 72) X11 dd_jdk_33_method_12_25 ((tlt ((own_gtneg (n := 100) (by decide) (by omega)).mpr g1)).2.2.1) (by decide) (by decide) ?_
      have b_1 : 1 ≤ ix - 2 := by have := own_ixn p_v p_w p_1 p_n (m := 3) (by show 100 ≤ v; omega); omega
      refine own_aload_n (pc' := 73) X11 dd_jdk_33_method_12_72 rfl rfl rfl ?_
      refine own_iinc (pc' := 76) X11 dd_jdk_33_method_12_73 rfl rfl (z := (-1 : Int32)) (by decide) (r := (Int32.ofNat (ix - 3))) (own_dec (by omega) (by omega)) (Ls' := #[.val (.int (-(Int32.ofNat (v / 100)))), .val (.int (Int32.ofNat ix)), .val (.ref a), .val (.int (-(Int32.ofNat (v / 100)))), .val (.int (Int32.ofNat (v % 100))), .val (.int (Int32.ofNat (ix - 3))), .val (.int (0 : Int32))]) rfl ?_
      refine own_iload (pc' := 78) X11 dd_jdk_33_method_12_76 rfl rfl ?_
      refine own_getS (pc' := 81) X11 (W 143 rfl) Via.refl (own_sta X11 gn) dd_jdk_33_method_12_78 rfl ?_
      intro T12 X12
      refine own_iload_n (pc' := 82) X12 dd_jdk_33_method_12_81 rfl rfl ?_
      refine own_ineg (pc' := 83) X12 dd_jdk_33_method_12_82 rfl ?_
      rw [Int32.neg_neg]
      have f13 := (((An.keep (own_oldK (own_old X0)) nin0).keep K8 (ninS ne_dn nin0)).keep K11 (ninS ne_dn nin0))
      refine own_baload (pc' := 84) (i := ((v / 100))) (v := (.int (Int32.ofNat (48 + ((v / 100) % 10))))) X12 f13 (own_i32 (by omega)) (own_onv (by omega)) dd_jdk_33_method_12_83 rfl ?_
      refine own_bastore (pc' := 85) (i := (ix - 3)) (y := (Int32.ofNat (48 + ((v / 100) % 10)))) X12 B2 (own_i32 (by omega)) (by simp [own_dgl, own_bs]; omega) (own_nar8 (by omega)) n_a (List.mem_of_getElem? (i := 0) rfl) dd_jdk_33_method_12_84 rfl ?_
      intro T14 h14 X14 K14 A14
      have B3 : own_Arr Z h14 a k .byte (vs.take (ix - 3) ++ (own_bs (own_dg v 3) ++ vs.drop ix)) := by rw [own_dgS v 2 (d := (v / 100) % 10) (by show (v / 100) % 10 = v / 100 % 10; omega), List.cons_append]; have q := A14; rw [show ix - 2 = ix - 3 + 1 from by omega, own_setT (by omega)] at q; exact q
      refine own_iload_n (pc' := 86) X14 dd_jdk_33_method_12_85 rfl rfl ?_
      refine own_bipush (pc' := 88) X14 dd_jdk_33_method_12_86 rfl (z := (-9 : Int32)) (by decide) ?_
      by_cases d1 : (v / 100) < 10
      · refine own_icmpY (pc' := 104) X14 dd_jdk_33_method_12_88 ((flt (fun q => absurd ((own_ltneg (n := 9) (by decide) (by omega)).mp q) (by omega))).2.1) (by decide) (by decide) ?_
        refine own_iload (pc' := 106) X14 dd_jdk_33_method_12_104 rfl rfl ?_
        refine own_ifY (pc' := 118) X14 dd_jdk_33_method_12_106 ((teq rfl).1) (by decide) (by decide) ?_
        refine own_iload (pc' := 120) X14 dd_jdk_33_method_12_118 rfl rfl ?_
        have e_n : n = 3 := (own_nduq p_v p_w (m := 3) (by show 100 ≤ v; omega) (by show v < 1000; omega) p_1 (by decide))
        exact own_ret X14 hGe (t := .int) rfl rfl (Or.inl ⟨rfl, by simp, _, rfl⟩) dd_jdk_33_method_12_120 (by decide) (by decide) ⟨_, rfl, ((((Keep.refl h0 [a]).trans K8 (allS (Or.inl (List.mem_of_getElem? (i := 0) rfl)) all0)).trans K11 (allS (Or.inl (List.mem_of_getElem? (i := 0) rfl)) all0)).trans K14 (allS (Or.inl (List.mem_of_getElem? (i := 0) rfl)) all0)), by rw [e_n]; exact B3⟩ nofun
      · refine own_icmpN (pc' := 91) X14 dd_jdk_33_method_12_88 rfl ((tlt ((own_ltneg (n := 9) (by decide) (by omega)).mpr (by omega))).2.1) ?_
        have c_1 : 1 ≤ ix - 3 := by have := own_ixn p_v p_w p_1 p_n (m := 4) (by show 1000 ≤ v; omega); omega
        refine own_aload_n (pc' := 92) X14 dd_jdk_33_method_12_91 rfl rfl rfl ?_
        refine own_iinc (pc' := 95) X14 dd_jdk_33_method_12_92 rfl rfl (z := (-1 : Int32)) (by decide) (r := (Int32.ofNat (ix - 4))) (own_dec (by omega) (by omega)) (Ls' := #[.val (.int (-(Int32.ofNat (v / 100)))), .val (.int (Int32.ofNat ix)), .val (.ref a), .val (.int (-(Int32.ofNat (v / 100)))), .val (.int (Int32.ofNat (v % 100))), .val (.int (Int32.ofNat (ix - 4))), .val (.int (0 : Int32))]) rfl ?_
        refine own_iload (pc' := 97) X14 dd_jdk_33_method_12_95 rfl rfl ?_
        refine own_getS (pc' := 100) X14 (W 223 rfl) Via.refl (own_sta X14 gt) dd_jdk_33_method_12_97 rfl ?_
        intro T15 X15
        refine own_iload_n (pc' := 101) X15 dd_jdk_33_method_12_100 rfl rfl ?_
        refine own_ineg (pc' := 102) X15 dd_jdk_33_method_12_101 rfl ?_
        rw [Int32.neg_neg]
        have f16 := ((f10.keep K11 (ninS ne_dt nin0)).keep K14 (ninS ne_dt nin0))
        refine own_baload (pc' := 103) (i := ((v / 100))) (v := (.int (Int32.ofNat (48 + ((v / 100) / 10))))) X15 f16 (own_i32 (by omega)) (own_tev (by omega)) dd_jdk_33_method_12_102 rfl ?_
        refine own_bastore (pc' := 104) (i := (ix - 4)) (y := (Int32.ofNat (48 + ((v / 100) / 10)))) X15 B3 (own_i32 (by omega)) (by simp [own_dgl, own_bs]; omega) (own_nar8 (by omega)) n_a (List.mem_of_getElem? (i := 0) rfl) dd_jdk_33_method_12_103 rfl ?_
        intro T17 h17 X17 K17 A17
        have B4 : own_Arr Z h17 a k .byte (vs.take (ix - 4) ++ (own_bs (own_dg v 4) ++ vs.drop ix)) := by rw [own_dgS v 3 (d := (v / 100) / 10) (by show (v / 100) / 10 = v / 1000 % 10; omega), List.cons_append]; have q := A17; rw [show ix - 3 = ix - 4 + 1 from by omega, own_setT (by omega)] at q; exact q
        refine own_iload (pc' := 106) X17 dd_jdk_33_method_12_104 rfl rfl ?_
        refine own_ifY (pc' := 118) X17 dd_jdk_33_method_12_106 ((teq rfl).1) (by decide) (by decide) ?_
        refine own_iload (pc' := 120) X17 dd_jdk_33_method_12_118 rfl rfl ?_
        have e_n : n = 4 := (own_nduq p_v p_w (m := 4) (by show 1000 ≤ v; omega) (by show v < 10000; omega) p_1 (by decide))
        exact own_ret X17 hGe (t := .int) rfl rfl (Or.inl ⟨rfl, by simp, _, rfl⟩) dd_jdk_33_method_12_120 (by decide) (by decide) ⟨_, rfl, (((((Keep.refl h0 [a]).trans K8 (allS (Or.inl (List.mem_of_getElem? (i := 0) rfl)) all0)).trans K11 (allS (Or.inl (List.mem_of_getElem? (i := 0) rfl)) all0)).trans K14 (allS (Or.inl (List.mem_of_getElem? (i := 0) rfl)) all0)).trans K17 (allS (Or.inl (List.mem_of_getElem? (i := 0) rfl)) all0)), by rw [e_n]; exact B4⟩ nofun
    · refine own_icmpN (pc' := 28) X11 dd_jdk_33_method_12_25 rfl ((flt (fun q => g1 ((own_gtneg (n := 100) (by decide) (by omega)).mp q))).2.2.1) ?_
      have b_1 : 2 ≤ ix - 2 := by have := own_ixn p_v p_w p_1 p_n (m := 5) (by show 10000 ≤ v; omega); omega
      refine own_iload_n (pc' := 29) X11 dd_jdk_33_method_12_28 rfl rfl ?_
      refine own_bipush (pc' := 31) X11 dd_jdk_33_method_12_29 rfl (z := (100 : Int32)) (by decide) ?_
      refine own_idiv (pc' := 32) X11 dd_jdk_33_method_12_31 rfl (by decide) ?_
      rw [own_dv (u := (v / 10000)) (by omega) (by omega)]
      refine own_istore_n (pc' := 33) X11 dd_jdk_33_method_12_32 rfl (Ls' := #[.val (.int (-(Int32.ofNat (v / 100)))), .val (.int (Int32.ofNat ix)), .val (.ref a), .val (.int (-(Int32.ofNat (v / 10000)))), .val (.int (Int32.ofNat (v % 100))), .val (.int (Int32.ofNat (ix - 2))), .val (.int (0 : Int32))]) rfl ?_
      refine own_iload_n (pc' := 34) X11 dd_jdk_33_method_12_33 rfl rfl ?_
      refine own_bipush (pc' := 36) X11 dd_jdk_33_method_12_34 rfl (z := (100 : Int32)) (by decide) ?_
      refine own_imul (pc' := 37) X11 dd_jdk_33_method_12_36 rfl (r := ((-(Int32.ofNat (v / 10000))) * (100 : Int32))) rfl ?_
      refine own_iload_n (pc' := 38) X11 dd_jdk_33_method_12_37 rfl rfl ?_
      refine own_isub (pc' := 39) X11 dd_jdk_33_method_12_38 rfl (r := (Int32.ofNat ((v / 100) % 100))) (own_rm (by omega) (by omega)) ?_
      refine own_istore (pc' := 41) X11 dd_jdk_33_method_12_39 rfl (Ls' := #[.val (.int (-(Int32.ofNat (v / 100)))), .val (.int (Int32.ofNat ix)), .val (.ref a), .val (.int (-(Int32.ofNat (v / 10000)))), .val (.int (Int32.ofNat ((v / 100) % 100))), .val (.int (Int32.ofNat (ix - 2))), .val (.int (0 : Int32))]) rfl ?_
      refine own_iload_n (pc' := 42) X11 dd_jdk_33_method_12_41 rfl rfl ?_
      refine own_istore_n (pc' := 43) X11 dd_jdk_33_method_12_42 rfl (Ls' := #[.val (.int (-(Int32.ofNat (v / 10000)))), .val (.int (Int32.ofNat ix)), .val (.ref a), .val (.int (-(Int32.ofNat (v / 10000)))), .val (.int (Int32.ofNat ((v / 100) % 100))), .val (.int (Int32.ofNat (ix - 2))), .val (.int (0 : Int32))]) rfl ?_
      refine own_aload_n (pc' := 44) X11 dd_jdk_33_method_12_43 rfl rfl rfl ?_
      refine own_iinc (pc' := 47) X11 dd_jdk_33_method_12_44 rfl rfl (z := (-1 : Int32)) (by decide) (r := (Int32.ofNat (ix - 3))) (own_dec (by omega) (by omega)) (Ls' := #[.val (.int (-(Int32.ofNat (v / 10000)))), .val (.int (Int32.ofNat ix)), .val (.ref a), .val (.int (-(Int32.ofNat (v / 10000)))), .val (.int (Int32.ofNat ((v / 100) % 100))), .val (.int (Int32.ofNat (ix - 3))), .val (.int (0 : Int32))]) rfl ?_
      refine own_iload (pc' := 49) X11 dd_jdk_33_method_12_47 rfl rfl ?_
      refine own_getS (pc' := 52) X11 (W 143 rfl) Via.refl (own_sta X11 gn) dd_jdk_33_method_12_49 rfl ?_
      intro T18 X18
      refine own_iload (pc' := 54) X18 dd_jdk_33_method_12_52 rfl rfl ?_
      have f19 := (((An.keep (own_oldK (own_old X0)) nin0).keep K8 (ninS ne_dn nin0)).keep K11 (ninS ne_dn nin0))
      refine own_baload (pc' := 55) (i := ((v / 100) % 100)) (v := (.int (Int32.ofNat (48 + ((v / 100) % 100 % 10))))) X18 f19 (own_i32 (by omega)) (own_onv (by omega)) dd_jdk_33_method_12_54 rfl ?_
      refine own_bastore (pc' := 56) (i := (ix - 3)) (y := (Int32.ofNat (48 + ((v / 100) % 100 % 10)))) X18 B2 (own_i32 (by omega)) (by simp [own_dgl, own_bs]; omega) (own_nar8 (by omega)) n_a (List.mem_of_getElem? (i := 0) rfl) dd_jdk_33_method_12_55 rfl ?_
      intro T20 h20 X20 K20 A20
      have B3 : own_Arr Z h20 a k .byte (vs.take (ix - 3) ++ (own_bs (own_dg v 3) ++ vs.drop ix)) := by rw [own_dgS v 2 (d := (v / 100) % 100 % 10) (by show (v / 100) % 100 % 10 = v / 100 % 10; omega), List.cons_append]; have q := A20; rw [show ix - 2 = ix - 3 + 1 from by omega, own_setT (by omega)] at q; exact q
      refine own_aload_n (pc' := 57) X20 dd_jdk_33_method_12_56 rfl rfl rfl ?_
      refine own_iinc (pc' := 60) X20 dd_jdk_33_method_12_57 rfl rfl (z := (-1 : Int32)) (by decide) (r := (Int32.ofNat (ix - 4))) (own_dec (by omega) (by omega)) (Ls' := #[.val (.int (-(Int32.ofNat (v / 10000)))), .val (.int (Int32.ofNat ix)), .val (.ref a), .val (.int (-(Int32.ofNat (v / 10000)))), .val (.int (Int32.ofNat ((v / 100) % 100))), .val (.int (Int32.ofNat (ix - 4))), .val (.int (0 : Int32))]) rfl ?_
      refine own_iload (pc' := 62) X20 dd_jdk_33_method_12_60 rfl rfl ?_
      refine own_getS (pc' := 65) X20 (W 223 rfl) Via.refl (own_sta X20 gt) dd_jdk_33_method_12_62 rfl ?_
      intro T21 X21
      refine own_iload (pc' := 67) X21 dd_jdk_33_method_12_65 rfl rfl ?_
      have f22 := ((f10.keep K11 (ninS ne_dt nin0)).keep K20 (ninS ne_dt nin0))
      refine own_baload (pc' := 68) (i := ((v / 100) % 100)) (v := (.int (Int32.ofNat (48 + ((v / 100) % 100 / 10))))) X21 f22 (own_i32 (by omega)) (own_tev (by omega)) dd_jdk_33_method_12_67 rfl ?_
      refine own_bastore (pc' := 69) (i := (ix - 4)) (y := (Int32.ofNat (48 + ((v / 100) % 100 / 10)))) X21 B3 (own_i32 (by omega)) (by simp [own_dgl, own_bs]; omega) (own_nar8 (by omega)) n_a (List.mem_of_getElem? (i := 0) rfl) dd_jdk_33_method_12_68 rfl ?_
      intro T23 h23 X23 K23 A23
      have B4 : own_Arr Z h23 a k .byte (vs.take (ix - 4) ++ (own_bs (own_dg v 4) ++ vs.drop ix)) := by rw [own_dgS v 3 (d := (v / 100) % 100 / 10) (by show (v / 100) % 100 / 10 = v / 1000 % 10; omega), List.cons_append]; have q := A23; rw [show ix - 3 = ix - 4 + 1 from by omega, own_setT (by omega)] at q; exact q
      refine own_goto (pc' := 22) X23 dd_jdk_33_method_12_69 (by decide) (by decide) ?_
      refine own_iload_n (pc' := 23) X23 dd_jdk_33_method_12_22 rfl rfl ?_
      refine own_bipush (pc' := 25) X23 dd_jdk_33_method_12_23 rfl (z := (-100 : Int32)) (by decide) ?_
      by_cases g2 : (v / 10000) < 100
      · refine own_icmpY (pc' := 72) X23 dd_jdk_33_method_12_25 ((tlt ((own_gtneg (n := 100) (by decide) (by omega)).mpr g2)).2.2.1) (by decide) (by decide) ?_
        have b_2 : 1 ≤ ix - 4 := by have := own_ixn p_v p_w p_1 p_n (m := 5) (by show 10000 ≤ v; omega); omega
        refine own_aload_n (pc' := 73) X23 dd_jdk_33_method_12_72 rfl rfl rfl ?_
        refine own_iinc (pc' := 76) X23 dd_jdk_33_method_12_73 rfl rfl (z := (-1 : Int32)) (by decide) (r := (Int32.ofNat (ix - 5))) (own_dec (by omega) (by omega)) (Ls' := #[.val (.int (-(Int32.ofNat (v / 10000)))), .val (.int (Int32.ofNat ix)), .val (.ref a), .val (.int (-(Int32.ofNat (v / 10000)))), .val (.int (Int32.ofNat ((v / 100) % 100))), .val (.int (Int32.ofNat (ix - 5))), .val (.int (0 : Int32))]) rfl ?_
        refine own_iload (pc' := 78) X23 dd_jdk_33_method_12_76 rfl rfl ?_
        refine own_getS (pc' := 81) X23 (W 143 rfl) Via.refl (own_sta X23 gn) dd_jdk_33_method_12_78 rfl ?_
        intro T24 X24
        refine own_iload_n (pc' := 82) X24 dd_jdk_33_method_12_81 rfl rfl ?_
        refine own_ineg (pc' := 83) X24 dd_jdk_33_method_12_82 rfl ?_
        rw [Int32.neg_neg]
        have f25 := ((f19.keep K20 (ninS ne_dn nin0)).keep K23 (ninS ne_dn nin0))
        refine own_baload (pc' := 84) (i := ((v / 10000))) (v := (.int (Int32.ofNat (48 + ((v / 10000) % 10))))) X24 f25 (own_i32 (by omega)) (own_onv (by omega)) dd_jdk_33_method_12_83 rfl ?_
        refine own_bastore (pc' := 85) (i := (ix - 5)) (y := (Int32.ofNat (48 + ((v / 10000) % 10)))) X24 B4 (own_i32 (by omega)) (by simp [own_dgl, own_bs]; omega) (own_nar8 (by omega)) n_a (List.mem_of_getElem? (i := 0) rfl) dd_jdk_33_method_12_84 rfl ?_
        intro T26 h26 X26 K26 A26
        have B5 : own_Arr Z h26 a k .byte (vs.take (ix - 5) ++ (own_bs (own_dg v 5) ++ vs.drop ix)) := by rw [own_dgS v 4 (d := (v / 10000) % 10) (by show (v / 10000) % 10 = v / 10000 % 10; omega), List.cons_append]; have q := A26; rw [show ix - 4 = ix - 5 + 1 from by omega, own_setT (by omega)] at q; exact q
        refine own_iload_n (pc' := 86) X26 dd_jdk_33_method_12_85 rfl rfl ?_
        refine own_bipush (pc' := 88) X26 dd_jdk_33_method_12_86 rfl (z := (-9 : Int32)) (by decide) ?_
        by_cases d2 : (v / 10000) < 10
        · refine own_icmpY (pc' := 104) X26 dd_jdk_33_method_12_88 ((flt (fun q => absurd ((own_ltneg (n := 9) (by decide) (by omega)).mp q) (by omega))).2.1) (by decide) (by decide) ?_
          refine own_iload (pc' := 106) X26 dd_jdk_33_method_12_104 rfl rfl ?_
          refine own_ifY (pc' := 118) X26 dd_jdk_33_method_12_106 ((teq rfl).1) (by decide) (by decide) ?_
          refine own_iload (pc' := 120) X26 dd_jdk_33_method_12_118 rfl rfl ?_
          have e_n : n = 5 := (own_nduq p_v p_w (m := 5) (by show 10000 ≤ v; omega) (by show v < 100000; omega) p_1 (by decide))
          exact own_ret X26 hGe (t := .int) rfl rfl (Or.inl ⟨rfl, by simp, _, rfl⟩) dd_jdk_33_method_12_120 (by decide) (by decide) ⟨_, rfl, ((((((Keep.refl h0 [a]).trans K8 (allS (Or.inl (List.mem_of_getElem? (i := 0) rfl)) all0)).trans K11 (allS (Or.inl (List.mem_of_getElem? (i := 0) rfl)) all0)).trans K20 (allS (Or.inl (List.mem_of_getElem? (i := 0) rfl)) all0)).trans K23 (allS (Or.inl (List.mem_of_getElem? (i := 0) rfl)) all0)).trans K26 (allS (Or.inl (List.mem_of_getElem? (i := 0) rfl)) all0)), by rw [e_n]; exact B5⟩ nofun
        · refine own_icmpN (pc' := 91) X26 dd_jdk_33_method_12_88 rfl ((tlt ((own_ltneg (n := 9) (by decide) (by omega)).mpr (by omega))).2.1) ?_
          have c_2 : 1 ≤ ix - 5 := by have := own_ixn p_v p_w p_1 p_n (m := 6) (by show 100000 ≤ v; omega); omega
          refine own_aload_n (pc' := 92) X26 dd_jdk_33_method_12_91 rfl rfl rfl ?_
          refine own_iinc (pc' := 95) X26 dd_jdk_33_method_12_92 rfl rfl (z := (-1 : Int32)) (by decide) (r := (Int32.ofNat (ix - 6))) (own_dec (by omega) (by omega)) (Ls' := #[.val (.int (-(Int32.ofNat (v / 10000)))), .val (.int (Int32.ofNat ix)), .val (.ref a), .val (.int (-(Int32.ofNat (v / 10000)))), .val (.int (Int32.ofNat ((v / 100) % 100))), .val (.int (Int32.ofNat (ix - 6))), .val (.int (0 : Int32))]) rfl ?_
          refine own_iload (pc' := 97) X26 dd_jdk_33_method_12_95 rfl rfl ?_
          refine own_getS (pc' := 100) X26 (W 223 rfl) Via.refl (own_sta X26 gt) dd_jdk_33_method_12_97 rfl ?_
          intro T27 X27
          refine own_iload_n (pc' := 101) X27 dd_jdk_33_method_12_100 rfl rfl ?_
          refine own_ineg (pc' := 102) X27 dd_jdk_33_method_12_101 rfl ?_
          rw [Int32.neg_neg]
          have f28 := ((f22.keep K23 (ninS ne_dt nin0)).keep K26 (ninS ne_dt nin0))
          refine own_baload (pc' := 103) (i := ((v / 10000))) (v := (.int (Int32.ofNat (48 + ((v / 10000) / 10))))) X27 f28 (own_i32 (by omega)) (own_tev (by omega)) dd_jdk_33_method_12_102 rfl ?_
          refine own_bastore (pc' := 104) (i := (ix - 6)) (y := (Int32.ofNat (48 + ((v / 10000) / 10)))) X27 B5 (own_i32 (by omega)) (by simp [own_dgl, own_bs]; omega) (own_nar8 (by omega)) n_a (List.mem_of_getElem? (i := 0) rfl) dd_jdk_33_method_12_103 rfl ?_
          intro T29 h29 X29 K29 A29
          have B6 : own_Arr Z h29 a k .byte (vs.take (ix - 6) ++ (own_bs (own_dg v 6) ++ vs.drop ix)) := by rw [own_dgS v 5 (d := (v / 10000) / 10) (by show (v / 10000) / 10 = v / 100000 % 10; omega), List.cons_append]; have q := A29; rw [show ix - 5 = ix - 6 + 1 from by omega, own_setT (by omega)] at q; exact q
          refine own_iload (pc' := 106) X29 dd_jdk_33_method_12_104 rfl rfl ?_
          refine own_ifY (pc' := 118) X29 dd_jdk_33_method_12_106 ((teq rfl).1) (by decide) (by decide) ?_
          refine own_iload (pc' := 120) X29 dd_jdk_33_method_12_118 rfl rfl ?_
          have e_n : n = 6 := (own_nduq p_v p_w (m := 6) (by show 100000 ≤ v; omega) (by show v < 1000000; omega) p_1 (by decide))
          exact own_ret X29 hGe (t := .int) rfl rfl (Or.inl ⟨rfl, by simp, _, rfl⟩) dd_jdk_33_method_12_120 (by decide) (by decide) ⟨_, rfl, (((((((Keep.refl h0 [a]).trans K8 (allS (Or.inl (List.mem_of_getElem? (i := 0) rfl)) all0)).trans K11 (allS (Or.inl (List.mem_of_getElem? (i := 0) rfl)) all0)).trans K20 (allS (Or.inl (List.mem_of_getElem? (i := 0) rfl)) all0)).trans K23 (allS (Or.inl (List.mem_of_getElem? (i := 0) rfl)) all0)).trans K26 (allS (Or.inl (List.mem_of_getElem? (i := 0) rfl)) all0)).trans K29 (allS (Or.inl (List.mem_of_getElem? (i := 0) rfl)) all0)), by rw [e_n]; exact B6⟩ nofun
      · refine own_icmpN (pc' := 28) X23 dd_jdk_33_method_12_25 rfl ((flt (fun q => g2 ((own_gtneg (n := 100) (by decide) (by omega)).mp q))).2.2.1) ?_
        have b_2 : 2 ≤ ix - 4 := by have := own_ixn p_v p_w p_1 p_n (m := 7) (by show 1000000 ≤ v; omega); omega
        refine own_iload_n (pc' := 29) X23 dd_jdk_33_method_12_28 rfl rfl ?_
        refine own_bipush (pc' := 31) X23 dd_jdk_33_method_12_29 rfl (z := (100 : Int32)) (by decide) ?_
        refine own_idiv (pc' := 32) X23 dd_jdk_33_method_12_31 rfl (by decide) ?_
        rw [own_dv (u := (v / 1000000)) (by omega) (by omega)]
        refine own_istore_n (pc' := 33) X23 dd_jdk_33_method_12_32 rfl (Ls' := #[.val (.int (-(Int32.ofNat (v / 10000)))), .val (.int (Int32.ofNat ix)), .val (.ref a), .val (.int (-(Int32.ofNat (v / 1000000)))), .val (.int (Int32.ofNat ((v / 100) % 100))), .val (.int (Int32.ofNat (ix - 4))), .val (.int (0 : Int32))]) rfl ?_
        refine own_iload_n (pc' := 34) X23 dd_jdk_33_method_12_33 rfl rfl ?_
        refine own_bipush (pc' := 36) X23 dd_jdk_33_method_12_34 rfl (z := (100 : Int32)) (by decide) ?_
        refine own_imul (pc' := 37) X23 dd_jdk_33_method_12_36 rfl (r := ((-(Int32.ofNat (v / 1000000))) * (100 : Int32))) rfl ?_
        refine own_iload_n (pc' := 38) X23 dd_jdk_33_method_12_37 rfl rfl ?_
        refine own_isub (pc' := 39) X23 dd_jdk_33_method_12_38 rfl (r := (Int32.ofNat ((v / 10000) % 100))) (own_rm (by omega) (by omega)) ?_
        refine own_istore (pc' := 41) X23 dd_jdk_33_method_12_39 rfl (Ls' := #[.val (.int (-(Int32.ofNat (v / 10000)))), .val (.int (Int32.ofNat ix)), .val (.ref a), .val (.int (-(Int32.ofNat (v / 1000000)))), .val (.int (Int32.ofNat ((v / 10000) % 100))), .val (.int (Int32.ofNat (ix - 4))), .val (.int (0 : Int32))]) rfl ?_
        refine own_iload_n (pc' := 42) X23 dd_jdk_33_method_12_41 rfl rfl ?_
        refine own_istore_n (pc' := 43) X23 dd_jdk_33_method_12_42 rfl (Ls' := #[.val (.int (-(Int32.ofNat (v / 1000000)))), .val (.int (Int32.ofNat ix)), .val (.ref a), .val (.int (-(Int32.ofNat (v / 1000000)))), .val (.int (Int32.ofNat ((v / 10000) % 100))), .val (.int (Int32.ofNat (ix - 4))), .val (.int (0 : Int32))]) rfl ?_
        refine own_aload_n (pc' := 44) X23 dd_jdk_33_method_12_43 rfl rfl rfl ?_
        refine own_iinc (pc' := 47) X23 dd_jdk_33_method_12_44 rfl rfl (z := (-1 : Int32)) (by decide) (r := (Int32.ofNat (ix - 5))) (own_dec (by omega) (by omega)) (Ls' := #[.val (.int (-(Int32.ofNat (v / 1000000)))), .val (.int (Int32.ofNat ix)), .val (.ref a), .val (.int (-(Int32.ofNat (v / 1000000)))), .val (.int (Int32.ofNat ((v / 10000) % 100))), .val (.int (Int32.ofNat (ix - 5))), .val (.int (0 : Int32))]) rfl ?_
        refine own_iload (pc' := 49) X23 dd_jdk_33_method_12_47 rfl rfl ?_
        refine own_getS (pc' := 52) X23 (W 143 rfl) Via.refl (own_sta X23 gn) dd_jdk_33_method_12_49 rfl ?_
        intro T30 X30
        refine own_iload (pc' := 54) X30 dd_jdk_33_method_12_52 rfl rfl ?_
        have f31 := ((f19.keep K20 (ninS ne_dn nin0)).keep K23 (ninS ne_dn nin0))
        refine own_baload (pc' := 55) (i := ((v / 10000) % 100)) (v := (.int (Int32.ofNat (48 + ((v / 10000) % 100 % 10))))) X30 f31 (own_i32 (by omega)) (own_onv (by omega)) dd_jdk_33_method_12_54 rfl ?_
        refine own_bastore (pc' := 56) (i := (ix - 5)) (y := (Int32.ofNat (48 + ((v / 10000) % 100 % 10)))) X30 B4 (own_i32 (by omega)) (by simp [own_dgl, own_bs]; omega) (own_nar8 (by omega)) n_a (List.mem_of_getElem? (i := 0) rfl) dd_jdk_33_method_12_55 rfl ?_
        intro T32 h32 X32 K32 A32
        have B5 : own_Arr Z h32 a k .byte (vs.take (ix - 5) ++ (own_bs (own_dg v 5) ++ vs.drop ix)) := by rw [own_dgS v 4 (d := (v / 10000) % 100 % 10) (by show (v / 10000) % 100 % 10 = v / 10000 % 10; omega), List.cons_append]; have q := A32; rw [show ix - 4 = ix - 5 + 1 from by omega, own_setT (by omega)] at q; exact q
        refine own_aload_n (pc' := 57) X32 dd_jdk_33_method_12_56 rfl rfl rfl ?_
        refine own_iinc (pc' := 60) X32 dd_jdk_33_method_12_57 rfl rfl (z := (-1 : Int32)) (by decide) (r := (Int32.ofNat (ix - 6))) (own_dec (by omega) (by omega)) (Ls' := #[.val (.int (-(Int32.ofNat (v / 1000000)))), .val (.int (Int32.ofNat ix)), .val (.ref a), .val (.int (-(Int32.ofNat (v / 1000000)))), .val (.int (Int32.ofNat ((v / 10000) % 100))), .val (.int (Int32.ofNat (ix - 6))), .val (.int (0 : Int32))]) rfl ?_
        refine own_iload (pc' := 62) X32 dd_jdk_33_method_12_60 rfl rfl ?_
        refine own_getS (pc' := 65) X32 (W 223 rfl) Via.refl (own_sta X32 gt) dd_jdk_33_method_12_62 rfl ?_
        intro T33 X33
        refine own_iload (pc' := 67) X33 dd_jdk_33_method_12_65 rfl rfl ?_
        have f34 := ((f22.keep K23 (ninS ne_dt nin0)).keep K32 (ninS ne_dt nin0))
        refine own_baload (pc' := 68) (i := ((v / 10000) % 100)) (v := (.int (Int32.ofNat (48 + ((v / 10000) % 100 / 10))))) X33 f34 (own_i32 (by omega)) (own_tev (by omega)) dd_jdk_33_method_12_67 rfl ?_
        refine own_bastore (pc' := 69) (i := (ix - 6)) (y := (Int32.ofNat (48 + ((v / 10000) % 100 / 10)))) X33 B5 (own_i32 (by omega)) (by simp [own_dgl, own_bs]; omega) (own_nar8 (by omega)) n_a (List.mem_of_getElem? (i := 0) rfl) dd_jdk_33_method_12_68 rfl ?_
        intro T35 h35 X35 K35 A35
        have B6 : own_Arr Z h35 a k .byte (vs.take (ix - 6) ++ (own_bs (own_dg v 6) ++ vs.drop ix)) := by rw [own_dgS v 5 (d := (v / 10000) % 100 / 10) (by show (v / 10000) % 100 / 10 = v / 100000 % 10; omega), List.cons_append]; have q := A35; rw [show ix - 5 = ix - 6 + 1 from by omega, own_setT (by omega)] at q; exact q
        refine own_goto (pc' := 22) X35 dd_jdk_33_method_12_69 (by decide) (by decide) ?_
        refine own_iload_n (pc' := 23) X35 dd_jdk_33_method_12_22 rfl rfl ?_
        refine own_bipush (pc' := 25) X35 dd_jdk_33_method_12_23 rfl (z := (-100 : Int32)) (by decide) ?_
        by_cases g3 : (v / 1000000) < 100
        · refine own_icmpY (pc' := 72) X35 dd_jdk_33_method_12_25 ((tlt ((own_gtneg (n := 100) (by decide) (by omega)).mpr g3)).2.2.1) (by decide) (by decide) ?_
          have b_3 : 1 ≤ ix - 6 := by have := own_ixn p_v p_w p_1 p_n (m := 7) (by show 1000000 ≤ v; omega); omega
          refine own_aload_n (pc' := 73) X35 dd_jdk_33_method_12_72 rfl rfl rfl ?_
          refine own_iinc (pc' := 76) X35 dd_jdk_33_method_12_73 rfl rfl (z := (-1 : Int32)) (by decide) (r := (Int32.ofNat (ix - 7))) (own_dec (by omega) (by omega)) (Ls' := #[.val (.int (-(Int32.ofNat (v / 1000000)))), .val (.int (Int32.ofNat ix)), .val (.ref a), .val (.int (-(Int32.ofNat (v / 1000000)))), .val (.int (Int32.ofNat ((v / 10000) % 100))), .val (.int (Int32.ofNat (ix - 7))), .val (.int (0 : Int32))]) rfl ?_
          refine own_iload (pc' := 78) X35 dd_jdk_33_method_12_76 rfl rfl ?_
          refine own_getS (pc' := 81) X35 (W 143 rfl) Via.refl (own_sta X35 gn) dd_jdk_33_method_12_78 rfl ?_
          intro T36 X36
          refine own_iload_n (pc' := 82) X36 dd_jdk_33_method_12_81 rfl rfl ?_
          refine own_ineg (pc' := 83) X36 dd_jdk_33_method_12_82 rfl ?_
          rw [Int32.neg_neg]
          have f37 := ((f31.keep K32 (ninS ne_dn nin0)).keep K35 (ninS ne_dn nin0))
          refine own_baload (pc' := 84) (i := ((v / 1000000))) (v := (.int (Int32.ofNat (48 + ((v / 1000000) % 10))))) X36 f37 (own_i32 (by omega)) (own_onv (by omega)) dd_jdk_33_method_12_83 rfl ?_
          refine own_bastore (pc' := 85) (i := (ix - 7)) (y := (Int32.ofNat (48 + ((v / 1000000) % 10)))) X36 B6 (own_i32 (by omega)) (by simp [own_dgl, own_bs]; omega) (own_nar8 (by omega)) n_a (List.mem_of_getElem? (i := 0) rfl) dd_jdk_33_method_12_84 rfl ?_
          intro T38 h38 X38 K38 A38
          have B7 : own_Arr Z h38 a k .byte (vs.take (ix - 7) ++ (own_bs (own_dg v 7) ++ vs.drop ix)) := by rw [own_dgS v 6 (d := (v / 1000000) % 10) (by show (v / 1000000) % 10 = v / 1000000 % 10; omega), List.cons_append]; have q := A38; rw [show ix - 6 = ix - 7 + 1 from by omega, own_setT (by omega)] at q; exact q
          refine own_iload_n (pc' := 86) X38 dd_jdk_33_method_12_85 rfl rfl ?_
          refine own_bipush (pc' := 88) X38 dd_jdk_33_method_12_86 rfl (z := (-9 : Int32)) (by decide) ?_
          by_cases d3 : (v / 1000000) < 10
          · refine own_icmpY (pc' := 104) X38 dd_jdk_33_method_12_88 ((flt (fun q => absurd ((own_ltneg (n := 9) (by decide) (by omega)).mp q) (by omega))).2.1) (by decide) (by decide) ?_
            refine own_iload (pc' := 106) X38 dd_jdk_33_method_12_104 rfl rfl ?_
            refine own_ifY (pc' := 118) X38 dd_jdk_33_method_12_106 ((teq rfl).1) (by decide) (by decide) ?_
            refine own_iload (pc' := 120) X38 dd_jdk_33_method_12_118 rfl rfl ?_
            have e_n : n = 7 := (own_nduq p_v p_w (m := 7) (by show 1000000 ≤ v; omega) (by show v < 10000000; omega) p_1 (by decide))
            exact own_ret X38 hGe (t := .int) rfl rfl (Or.inl ⟨rfl, by simp, _, rfl⟩) dd_jdk_33_method_12_120 (by decide) (by decide) ⟨_, rfl, ((((((((Keep.refl h0 [a]).trans K8 (allS (Or.inl (List.mem_of_getElem? (i := 0) rfl)) all0)).trans K11 (allS (Or.inl (List.mem_of_getElem? (i := 0) rfl)) all0)).trans K20 (allS (Or.inl (List.mem_of_getElem? (i := 0) rfl)) all0)).trans K23 (allS (Or.inl (List.mem_of_getElem? (i := 0) rfl)) all0)).trans K32 (allS (Or.inl (List.mem_of_getElem? (i := 0) rfl)) all0)).trans K35 (allS (Or.inl (List.mem_of_getElem? (i := 0) rfl)) all0)).trans K38 (allS (Or.inl (List.mem_of_getElem? (i := 0) rfl)) all0)), by rw [e_n]; exact B7⟩ nofun
          · refine own_icmpN (pc' := 91) X38 dd_jdk_33_method_12_88 rfl ((tlt ((own_ltneg (n := 9) (by decide) (by omega)).mpr (by omega))).2.1) ?_
            have c_3 : 1 ≤ ix - 7 := by have := own_ixn p_v p_w p_1 p_n (m := 8) (by show 10000000 ≤ v; omega); omega
            refine own_aload_n (pc' := 92) X38 dd_jdk_33_method_12_91 rfl rfl rfl ?_
            refine own_iinc (pc' := 95) X38 dd_jdk_33_method_12_92 rfl rfl (z := (-1 : Int32)) (by decide) (r := (Int32.ofNat (ix - 8))) (own_dec (by omega) (by omega)) (Ls' := #[.val (.int (-(Int32.ofNat (v / 1000000)))), .val (.int (Int32.ofNat ix)), .val (.ref a), .val (.int (-(Int32.ofNat (v / 1000000)))), .val (.int (Int32.ofNat ((v / 10000) % 100))), .val (.int (Int32.ofNat (ix - 8))), .val (.int (0 : Int32))]) rfl ?_
            refine own_iload (pc' := 97) X38 dd_jdk_33_method_12_95 rfl rfl ?_
            refine own_getS (pc' := 100) X38 (W 223 rfl) Via.refl (own_sta X38 gt) dd_jdk_33_method_12_97 rfl ?_
            intro T39 X39
            refine own_iload_n (pc' := 101) X39 dd_jdk_33_method_12_100 rfl rfl ?_
            refine own_ineg (pc' := 102) X39 dd_jdk_33_method_12_101 rfl ?_
            rw [Int32.neg_neg]
            have f40 := ((f34.keep K35 (ninS ne_dt nin0)).keep K38 (ninS ne_dt nin0))
            refine own_baload (pc' := 103) (i := ((v / 1000000))) (v := (.int (Int32.ofNat (48 + ((v / 1000000) / 10))))) X39 f40 (own_i32 (by omega)) (own_tev (by omega)) dd_jdk_33_method_12_102 rfl ?_
            refine own_bastore (pc' := 104) (i := (ix - 8)) (y := (Int32.ofNat (48 + ((v / 1000000) / 10)))) X39 B7 (own_i32 (by omega)) (by simp [own_dgl, own_bs]; omega) (own_nar8 (by omega)) n_a (List.mem_of_getElem? (i := 0) rfl) dd_jdk_33_method_12_103 rfl ?_
            intro T41 h41 X41 K41 A41
            have B8 : own_Arr Z h41 a k .byte (vs.take (ix - 8) ++ (own_bs (own_dg v 8) ++ vs.drop ix)) := by rw [own_dgS v 7 (d := (v / 1000000) / 10) (by show (v / 1000000) / 10 = v / 10000000 % 10; omega), List.cons_append]; have q := A41; rw [show ix - 7 = ix - 8 + 1 from by omega, own_setT (by omega)] at q; exact q
            refine own_iload (pc' := 106) X41 dd_jdk_33_method_12_104 rfl rfl ?_
            refine own_ifY (pc' := 118) X41 dd_jdk_33_method_12_106 ((teq rfl).1) (by decide) (by decide) ?_
            refine own_iload (pc' := 120) X41 dd_jdk_33_method_12_118 rfl rfl ?_
            have e_n : n = 8 := (own_nduq p_v p_w (m := 8) (by show 10000000 ≤ v; omega) (by show v < 100000000; omega) p_1 (by decide))
            exact own_ret X41 hGe (t := .int) rfl rfl (Or.inl ⟨rfl, by simp, _, rfl⟩) dd_jdk_33_method_12_120 (by decide) (by decide) ⟨_, rfl, (((((((((Keep.refl h0 [a]).trans K8 (allS (Or.inl (List.mem_of_getElem? (i := 0) rfl)) all0)).trans K11 (allS (Or.inl (List.mem_of_getElem? (i := 0) rfl)) all0)).trans K20 (allS (Or.inl (List.mem_of_getElem? (i := 0) rfl)) all0)).trans K23 (allS (Or.inl (List.mem_of_getElem? (i := 0) rfl)) all0)).trans K32 (allS (Or.inl (List.mem_of_getElem? (i := 0) rfl)) all0)).trans K35 (allS (Or.inl (List.mem_of_getElem? (i := 0) rfl)) all0)).trans K38 (allS (Or.inl (List.mem_of_getElem? (i := 0) rfl)) all0)).trans K41 (allS (Or.inl (List.mem_of_getElem? (i := 0) rfl)) all0)), by rw [e_n]; exact B8⟩ nofun
        · refine own_icmpN (pc' := 28) X35 dd_jdk_33_method_12_25 rfl ((flt (fun q => g3 ((own_gtneg (n := 100) (by decide) (by omega)).mp q))).2.2.1) ?_
          have b_3 : 2 ≤ ix - 6 := by have := own_ixn p_v p_w p_1 p_n (m := 9) (by show 100000000 ≤ v; omega); omega
          refine own_iload_n (pc' := 29) X35 dd_jdk_33_method_12_28 rfl rfl ?_
          refine own_bipush (pc' := 31) X35 dd_jdk_33_method_12_29 rfl (z := (100 : Int32)) (by decide) ?_
          refine own_idiv (pc' := 32) X35 dd_jdk_33_method_12_31 rfl (by decide) ?_
          rw [own_dv (u := (v / 100000000)) (by omega) (by omega)]
          refine own_istore_n (pc' := 33) X35 dd_jdk_33_method_12_32 rfl (Ls' := #[.val (.int (-(Int32.ofNat (v / 1000000)))), .val (.int (Int32.ofNat ix)), .val (.ref a), .val (.int (-(Int32.ofNat (v / 100000000)))), .val (.int (Int32.ofNat ((v / 10000) % 100))), .val (.int (Int32.ofNat (ix - 6))), .val (.int (0 : Int32))]) rfl ?_
          refine own_iload_n (pc' := 34) X35 dd_jdk_33_method_12_33 rfl rfl ?_
          refine own_bipush (pc' := 36) X35 dd_jdk_33_method_12_34 rfl (z := (100 : Int32)) (by decide) ?_
          refine own_imul (pc' := 37) X35 dd_jdk_33_method_12_36 rfl (r := ((-(Int32.ofNat (v / 100000000))) * (100 : Int32))) rfl ?_
          refine own_iload_n (pc' := 38) X35 dd_jdk_33_method_12_37 rfl rfl ?_
          refine own_isub (pc' := 39) X35 dd_jdk_33_method_12_38 rfl (r := (Int32.ofNat ((v / 1000000) % 100))) (own_rm (by omega) (by omega)) ?_
          refine own_istore (pc' := 41) X35 dd_jdk_33_method_12_39 rfl (Ls' := #[.val (.int (-(Int32.ofNat (v / 1000000)))), .val (.int (Int32.ofNat ix)), .val (.ref a), .val (.int (-(Int32.ofNat (v / 100000000)))), .val (.int (Int32.ofNat ((v / 1000000) % 100))), .val (.int (Int32.ofNat (ix - 6))), .val (.int (0 : Int32))]) rfl ?_
          refine own_iload_n (pc' := 42) X35 dd_jdk_33_method_12_41 rfl rfl ?_
          refine own_istore_n (pc' := 43) X35 dd_jdk_33_method_12_42 rfl (Ls' := #[.val (.int (-(Int32.ofNat (v / 100000000)))), .val (.int (Int32.ofNat ix)), .val (.ref a), .val (.int (-(Int32.ofNat (v / 100000000)))), .val (.int (Int32.ofNat ((v / 1000000) % 100))), .val (.int (Int32.ofNat (ix - 6))), .val (.int (0 : Int32))]) rfl ?_
          refine own_aload_n (pc' := 44) X35 dd_jdk_33_method_12_43 rfl rfl rfl ?_
          refine own_iinc (pc' := 47) X35 dd_jdk_33_method_12_44 rfl rfl (z := (-1 : Int32)) (by decide) (r := (Int32.ofNat (ix - 7))) (own_dec (by omega) (by omega)) (Ls' := #[.val (.int (-(Int32.ofNat (v / 100000000)))), .val (.int (Int32.ofNat ix)), .val (.ref a), .val (.int (-(Int32.ofNat (v / 100000000)))), .val (.int (Int32.ofNat ((v / 1000000) % 100))), .val (.int (Int32.ofNat (ix - 7))), .val (.int (0 : Int32))]) rfl ?_
          refine own_iload (pc' := 49) X35 dd_jdk_33_method_12_47 rfl rfl ?_
          refine own_getS (pc' := 52) X35 (W 143 rfl) Via.refl (own_sta X35 gn) dd_jdk_33_method_12_49 rfl ?_
          intro T42 X42
          refine own_iload (pc' := 54) X42 dd_jdk_33_method_12_52 rfl rfl ?_
          have f43 := ((f31.keep K32 (ninS ne_dn nin0)).keep K35 (ninS ne_dn nin0))
          refine own_baload (pc' := 55) (i := ((v / 1000000) % 100)) (v := (.int (Int32.ofNat (48 + ((v / 1000000) % 100 % 10))))) X42 f43 (own_i32 (by omega)) (own_onv (by omega)) dd_jdk_33_method_12_54 rfl ?_
          refine own_bastore (pc' := 56) (i := (ix - 7)) (y := (Int32.ofNat (48 + ((v / 1000000) % 100 % 10)))) X42 B6 (own_i32 (by omega)) (by simp [own_dgl, own_bs]; omega) (own_nar8 (by omega)) n_a (List.mem_of_getElem? (i := 0) rfl) dd_jdk_33_method_12_55 rfl ?_
          intro T44 h44 X44 K44 A44
          have B7 : own_Arr Z h44 a k .byte (vs.take (ix - 7) ++ (own_bs (own_dg v 7) ++ vs.drop ix)) := by rw [own_dgS v 6 (d := (v / 1000000) % 100 % 10) (by show (v / 1000000) % 100 % 10 = v / 1000000 % 10; omega), List.cons_append]; have q := A44; rw [show ix - 6 = ix - 7 + 1 from by omega, own_setT (by omega)] at q; exact q
          refine own_aload_n (pc' := 57) X44 dd_jdk_33_method_12_56 rfl rfl rfl ?_
          refine own_iinc (pc' := 60) X44 dd_jdk_33_method_12_57 rfl rfl (z := (-1 : Int32)) (by decide) (r := (Int32.ofNat (ix - 8))) (own_dec (by omega) (by omega)) (Ls' := #[.val (.int (-(Int32.ofNat (v / 100000000)))), .val (.int (Int32.ofNat ix)), .val (.ref a), .val (.int (-(Int32.ofNat (v / 100000000)))), .val (.int (Int32.ofNat ((v / 1000000) % 100))), .val (.int (Int32.ofNat (ix - 8))), .val (.int (0 : Int32))]) rfl ?_
          refine own_iload (pc' := 62) X44 dd_jdk_33_method_12_60 rfl rfl ?_
          refine own_getS (pc' := 65) X44 (W 223 rfl) Via.refl (own_sta X44 gt) dd_jdk_33_method_12_62 rfl ?_
          intro T45 X45
          refine own_iload (pc' := 67) X45 dd_jdk_33_method_12_65 rfl rfl ?_
          have f46 := ((f34.keep K35 (ninS ne_dt nin0)).keep K44 (ninS ne_dt nin0))
          refine own_baload (pc' := 68) (i := ((v / 1000000) % 100)) (v := (.int (Int32.ofNat (48 + ((v / 1000000) % 100 / 10))))) X45 f46 (own_i32 (by omega)) (own_tev (by omega)) dd_jdk_33_method_12_67 rfl ?_
          refine own_bastore (pc' := 69) (i := (ix - 8)) (y := (Int32.ofNat (48 + ((v / 1000000) % 100 / 10)))) X45 B7 (own_i32 (by omega)) (by simp [own_dgl, own_bs]; omega) (own_nar8 (by omega)) n_a (List.mem_of_getElem? (i := 0) rfl) dd_jdk_33_method_12_68 rfl ?_
          intro T47 h47 X47 K47 A47
          have B8 : own_Arr Z h47 a k .byte (vs.take (ix - 8) ++ (own_bs (own_dg v 8) ++ vs.drop ix)) := by rw [own_dgS v 7 (d := (v / 1000000) % 100 / 10) (by show (v / 1000000) % 100 / 10 = v / 10000000 % 10; omega), List.cons_append]; have q := A47; rw [show ix - 7 = ix - 8 + 1 from by omega, own_setT (by omega)] at q; exact q
          refine own_goto (pc' := 22) X47 dd_jdk_33_method_12_69 (by decide) (by decide) ?_
          refine own_iload_n (pc' := 23) X47 dd_jdk_33_method_12_22 rfl rfl ?_
          refine own_bipush (pc' := 25) X47 dd_jdk_33_method_12_23 rfl (z := (-100 : Int32)) (by decide) ?_
          have g4 : (v / 100000000) < 100 := by omega
          refine own_icmpY (pc' := 72) X47 dd_jdk_33_method_12_25 ((tlt ((own_gtneg (n := 100) (by decide) (by omega)).mpr g4)).2.2.1) (by decide) (by decide) ?_
          have b_4 : 1 ≤ ix - 8 := by have := own_ixn p_v p_w p_1 p_n (m := 9) (by show 100000000 ≤ v; omega); omega
          refine own_aload_n (pc' := 73) X47 dd_jdk_33_method_12_72 rfl rfl rfl ?_
          refine own_iinc (pc' := 76) X47 dd_jdk_33_method_12_73 rfl rfl (z := (-1 : Int32)) (by decide) (r := (Int32.ofNat (ix - 9))) (own_dec (by omega) (by omega)) (Ls' := #[.val (.int (-(Int32.ofNat (v / 100000000)))), .val (.int (Int32.ofNat ix)), .val (.ref a), .val (.int (-(Int32.ofNat (v / 100000000)))), .val (.int (Int32.ofNat ((v / 1000000) % 100))), .val (.int (Int32.ofNat (ix - 9))), .val (.int (0 : Int32))]) rfl ?_
          refine own_iload (pc' := 78) X47 dd_jdk_33_method_12_76 rfl rfl ?_
          refine own_getS (pc' := 81) X47 (W 143 rfl) Via.refl (own_sta X47 gn) dd_jdk_33_method_12_78 rfl ?_
          intro T48 X48
          refine own_iload_n (pc' := 82) X48 dd_jdk_33_method_12_81 rfl rfl ?_
          refine own_ineg (pc' := 83) X48 dd_jdk_33_method_12_82 rfl ?_
          rw [Int32.neg_neg]
          have f49 := ((f43.keep K44 (ninS ne_dn nin0)).keep K47 (ninS ne_dn nin0))
          refine own_baload (pc' := 84) (i := ((v / 100000000))) (v := (.int (Int32.ofNat (48 + ((v / 100000000) % 10))))) X48 f49 (own_i32 (by omega)) (own_onv (by omega)) dd_jdk_33_method_12_83 rfl ?_
          refine own_bastore (pc' := 85) (i := (ix - 9)) (y := (Int32.ofNat (48 + ((v / 100000000) % 10)))) X48 B8 (own_i32 (by omega)) (by simp [own_dgl, own_bs]; omega) (own_nar8 (by omega)) n_a (List.mem_of_getElem? (i := 0) rfl) dd_jdk_33_method_12_84 rfl ?_
          intro T50 h50 X50 K50 A50
          have B9 : own_Arr Z h50 a k .byte (vs.take (ix - 9) ++ (own_bs (own_dg v 9) ++ vs.drop ix)) := by rw [own_dgS v 8 (d := (v / 100000000) % 10) (by show (v / 100000000) % 10 = v / 100000000 % 10; omega), List.cons_append]; have q := A50; rw [show ix - 8 = ix - 9 + 1 from by omega, own_setT (by omega)] at q; exact q
          refine own_iload_n (pc' := 86) X50 dd_jdk_33_method_12_85 rfl rfl ?_
          refine own_bipush (pc' := 88) X50 dd_jdk_33_method_12_86 rfl (z := (-9 : Int32)) (by decide) ?_
          by_cases d4 : (v / 100000000) < 10
          · refine own_icmpY (pc' := 104) X50 dd_jdk_33_method_12_88 ((flt (fun q => absurd ((own_ltneg (n := 9) (by decide) (by omega)).mp q) (by omega))).2.1) (by decide) (by decide) ?_
            refine own_iload (pc' := 106) X50 dd_jdk_33_method_12_104 rfl rfl ?_
            refine own_ifY (pc' := 118) X50 dd_jdk_33_method_12_106 ((teq rfl).1) (by decide) (by decide) ?_
            refine own_iload (pc' := 120) X50 dd_jdk_33_method_12_118 rfl rfl ?_
            have e_n : n = 9 := (own_nduq p_v p_w (m := 9) (by show 100000000 ≤ v; omega) (by show v < 1000000000; omega) p_1 (by decide))
            exact own_ret X50 hGe (t := .int) rfl rfl (Or.inl ⟨rfl, by simp, _, rfl⟩) dd_jdk_33_method_12_120 (by decide) (by decide) ⟨_, rfl, ((((((((((Keep.refl h0 [a]).trans K8 (allS (Or.inl (List.mem_of_getElem? (i := 0) rfl)) all0)).trans K11 (allS (Or.inl (List.mem_of_getElem? (i := 0) rfl)) all0)).trans K20 (allS (Or.inl (List.mem_of_getElem? (i := 0) rfl)) all0)).trans K23 (allS (Or.inl (List.mem_of_getElem? (i := 0) rfl)) all0)).trans K32 (allS (Or.inl (List.mem_of_getElem? (i := 0) rfl)) all0)).trans K35 (allS (Or.inl (List.mem_of_getElem? (i := 0) rfl)) all0)).trans K44 (allS (Or.inl (List.mem_of_getElem? (i := 0) rfl)) all0)).trans K47 (allS (Or.inl (List.mem_of_getElem? (i := 0) rfl)) all0)).trans K50 (allS (Or.inl (List.mem_of_getElem? (i := 0) rfl)) all0)), by rw [e_n]; exact B9⟩ nofun
          · refine own_icmpN (pc' := 91) X50 dd_jdk_33_method_12_88 rfl ((tlt ((own_ltneg (n := 9) (by decide) (by omega)).mpr (by omega))).2.1) ?_
            have c_4 : 1 ≤ ix - 9 := by have := own_ixn p_v p_w p_1 p_n (m := 10) (by show 1000000000 ≤ v; omega); omega
            refine own_aload_n (pc' := 92) X50 dd_jdk_33_method_12_91 rfl rfl rfl ?_
            refine own_iinc (pc' := 95) X50 dd_jdk_33_method_12_92 rfl rfl (z := (-1 : Int32)) (by decide) (r := (Int32.ofNat (ix - 10))) (own_dec (by omega) (by omega)) (Ls' := #[.val (.int (-(Int32.ofNat (v / 100000000)))), .val (.int (Int32.ofNat ix)), .val (.ref a), .val (.int (-(Int32.ofNat (v / 100000000)))), .val (.int (Int32.ofNat ((v / 1000000) % 100))), .val (.int (Int32.ofNat (ix - 10))), .val (.int (0 : Int32))]) rfl ?_
            refine own_iload (pc' := 97) X50 dd_jdk_33_method_12_95 rfl rfl ?_
            refine own_getS (pc' := 100) X50 (W 223 rfl) Via.refl (own_sta X50 gt) dd_jdk_33_method_12_97 rfl ?_
            intro T51 X51
            refine own_iload_n (pc' := 101) X51 dd_jdk_33_method_12_100 rfl rfl ?_
            refine own_ineg (pc' := 102) X51 dd_jdk_33_method_12_101 rfl ?_
            rw [Int32.neg_neg]
            have f52 := ((f46.keep K47 (ninS ne_dt nin0)).keep K50 (ninS ne_dt nin0))
            refine own_baload (pc' := 103) (i := ((v / 100000000))) (v := (.int (Int32.ofNat (48 + ((v / 100000000) / 10))))) X51 f52 (own_i32 (by omega)) (own_tev (by omega)) dd_jdk_33_method_12_102 rfl ?_
            refine own_bastore (pc' := 104) (i := (ix - 10)) (y := (Int32.ofNat (48 + ((v / 100000000) / 10)))) X51 B9 (own_i32 (by omega)) (by simp [own_dgl, own_bs]; omega) (own_nar8 (by omega)) n_a (List.mem_of_getElem? (i := 0) rfl) dd_jdk_33_method_12_103 rfl ?_
            intro T53 h53 X53 K53 A53
            have B10 : own_Arr Z h53 a k .byte (vs.take (ix - 10) ++ (own_bs (own_dg v 10) ++ vs.drop ix)) := by rw [own_dgS v 9 (d := (v / 100000000) / 10) (by show (v / 100000000) / 10 = v / 1000000000 % 10; omega), List.cons_append]; have q := A53; rw [show ix - 9 = ix - 10 + 1 from by omega, own_setT (by omega)] at q; exact q
            refine own_iload (pc' := 106) X53 dd_jdk_33_method_12_104 rfl rfl ?_
            refine own_ifY (pc' := 118) X53 dd_jdk_33_method_12_106 ((teq rfl).1) (by decide) (by decide) ?_
            refine own_iload (pc' := 120) X53 dd_jdk_33_method_12_118 rfl rfl ?_
            have e_n : n = 10 := (own_nduq p_v p_w (m := 10) (by show 1000000000 ≤ v; omega) (by show v < 10000000000; omega) p_1 (by decide))
            exact own_ret X53 hGe (t := .int) rfl rfl (Or.inl ⟨rfl, by simp, _, rfl⟩) dd_jdk_33_method_12_120 (by decide) (by decide) ⟨_, rfl, (((((((((((Keep.refl h0 [a]).trans K8 (allS (Or.inl (List.mem_of_getElem? (i := 0) rfl)) all0)).trans K11 (allS (Or.inl (List.mem_of_getElem? (i := 0) rfl)) all0)).trans K20 (allS (Or.inl (List.mem_of_getElem? (i := 0) rfl)) all0)).trans K23 (allS (Or.inl (List.mem_of_getElem? (i := 0) rfl)) all0)).trans K32 (allS (Or.inl (List.mem_of_getElem? (i := 0) rfl)) all0)).trans K35 (allS (Or.inl (List.mem_of_getElem? (i := 0) rfl)) all0)).trans K44 (allS (Or.inl (List.mem_of_getElem? (i := 0) rfl)) all0)).trans K47 (allS (Or.inl (List.mem_of_getElem? (i := 0) rfl)) all0)).trans K50 (allS (Or.inl (List.mem_of_getElem? (i := 0) rfl)) all0)).trans K53 (allS (Or.inl (List.mem_of_getElem? (i := 0) rfl)) all0)), by rw [e_n]; exact B10⟩ nofun
theorem dd_jdk_68_method_68_0 : decode jdk_68_method_68_code 0 = .ok (.getstatic 18, 3) := by decide +kernel
theorem dd_jdk_68_method_68_3 : decode jdk_68_method_68_code 3 = .ok (.ifCond .eq 14, 3) := by decide +kernel
theorem dd_jdk_68_method_68_6 : decode jdk_68_method_68_code 6 = .ok (.aload_n 0, 1) := by decide +kernel
theorem dd_jdk_68_method_68_7 : decode jdk_68_method_68_code 7 = .ok (.getfield 22, 3) := by decide +kernel
theorem dd_jdk_68_method_68_10 : decode jdk_68_method_68_code 10 = .ok (.ifCond .ne 7, 3) := by decide +kernel
theorem dd_jdk_68_method_68_13 : decode jdk_68_method_68_code 13 = .ok (.iconst 1, 1) := by decide +kernel
theorem dd_jdk_68_method_68_14 : decode jdk_68_method_68_code 14 = .ok (.goto 4, 3) := by decide +kernel
theorem dd_jdk_68_method_68_18 : decode jdk_68_method_68_code 18 = .ok (.ireturn, 1) := by decide +kernel
theorem ef_own_isl (m : MethodId) (x0 : Addr) : entryFrame m #[(.ref x0)] 1 = mkF m 0 #[.val (.ref x0)] [] := by first | (simp [entryFrame, mkF, argsToLocals, Value.category]; done) | rfl
set_option maxRecDepth 65536 in
set_option maxHeartbeats 40000000 in
theorem own_isl (l : Launch) (Z : State) (a0 : Array Value) (hw : ∀ d ∈ tables_1, d.before a0 Z = true) (EWf : own_EW Z own_EL) (n0 : Nat) (b : Addr) (h0 : Heap) (O0 : Old Z n0 h0) (p_C : Fld Z h0 b "java/lang/AbstractStringBuilder" "coder" "B" (.int 0)) (CS : own_CS Z) :
    own_Met l Z own_EL [] false n0 (⟨"java/lang/AbstractStringBuilder", "isLatin1", "()Z"⟩ : MethodName) jdk_68_method_68_code 1 (some .boolean) ({ frames := 0, cells := 0, slots := 0, locals := 0 } : Room) #[(.ref b)] h0 (fun v h => v = some (.int 1) ∧ h0 = h) := by
  refine own_enter (own := "java/lang/AbstractStringBuilder") (nm := "isLatin1") (plainFor_of_name pn_0) rfl rfl O0 EWf ?_
  have W : ∀ (k : Nat) {d : Jvm.Cond}, tables_1[k]? = some d → d.before a0 Z = true := fun k d q => hw d (List.mem_of_getElem? q)
  intro G p e s m below meth c T0 hGe X0
  rw [ef_own_isl m b]
  obtain ⟨zc, hS, hz⟩ := CS
  refine own_getS (pc' := 3) X0 (W 67 rfl) Via.refl (own_sta X0 hS) dd_jdk_68_method_68_0 rfl ?_
  intro T1 X1
  refine own_ifN (pc' := 6) X1 dd_jdk_68_method_68_3 rfl ((feq hz).1) ?_
  refine own_aload_n (pc' := 7) X1 dd_jdk_68_method_68_6 rfl rfl rfl ?_
  refine own_get (pc' := 10) X1 (host := "") (Or.inl (W 70 rfl)) Via.refl p_C dd_jdk_68_method_68_7 rfl ?_
  intro T2 X2
  refine own_ifN (pc' := 13) X2 dd_jdk_68_method_68_10 rfl ((teq rfl).2) ?_
  refine own_iconst (pc' := 14) X2 dd_jdk_68_method_68_13 rfl (z := (1 : Int32)) (by decide) ?_
  refine own_goto (pc' := 18) X2 dd_jdk_68_method_68_14 (by decide) (by decide) ?_
  exact own_ret X2 hGe (t := .boolean) rfl rfl (Or.inl ⟨rfl, by simp, _, rfl⟩) dd_jdk_68_method_68_18 (by decide) (by decide) ⟨rfl, rfl⟩ nofun
theorem dd_jdk_68_method_32_0 : decode jdk_68_method_32_code 0 = .ok (.aload_n 0, 1) := by decide +kernel
theorem dd_jdk_68_method_32_1 : decode jdk_68_method_32_code 1 = .ok (.getfield 79, 3) := by decide +kernel
theorem dd_jdk_68_method_32_4 : decode jdk_68_method_32_code 4 = .ok (.istore_n 2, 1) := by decide +kernel
theorem dd_jdk_68_method_32_5 : decode jdk_68_method_32_code 5 = .ok (.iload_n 2, 1) := by decide +kernel
theorem dd_jdk_68_method_32_6 : decode jdk_68_method_32_code 6 = .ok (.iload_n 1, 1) := by decide +kernel
theorem dd_jdk_68_method_32_7 : decode jdk_68_method_32_code 7 = .ok (.invokestatic 245, 3) := by decide +kernel
theorem dd_jdk_68_method_32_10 : decode jdk_68_method_32_code 10 = .ok (.iadd, 1) := by decide +kernel
theorem dd_jdk_68_method_32_11 : decode jdk_68_method_32_code 11 = .ok (.istore_n 3, 1) := by decide +kernel
theorem dd_jdk_68_method_32_12 : decode jdk_68_method_32_code 12 = .ok (.aload_n 0, 1) := by decide +kernel
theorem dd_jdk_68_method_32_13 : decode jdk_68_method_32_code 13 = .ok (.iload_n 3, 1) := by decide +kernel
theorem dd_jdk_68_method_32_14 : decode jdk_68_method_32_code 14 = .ok (.invokevirtual 100, 3) := by decide +kernel
theorem dd_jdk_68_method_32_17 : decode jdk_68_method_32_code 17 = .ok (.aload_n 0, 1) := by decide +kernel
theorem dd_jdk_68_method_32_18 : decode jdk_68_method_32_code 18 = .ok (.invokevirtual 83, 3) := by decide +kernel
theorem pd_11 : parseMethodDescriptor "()Z" = some ⟨[], some .boolean⟩ := by decide +kernel
theorem dd_jdk_68_method_32_21 : decode jdk_68_method_32_code 21 = .ok (.ifCond .eq 16, 3) := by decide +kernel
theorem dd_jdk_68_method_32_24 : decode jdk_68_method_32_code 24 = .ok (.iload_n 1, 1) := by decide +kernel
theorem dd_jdk_68_method_32_25 : decode jdk_68_method_32_code 25 = .ok (.iload_n 3, 1) := by decide +kernel
theorem dd_jdk_68_method_32_26 : decode jdk_68_method_32_code 26 = .ok (.aload_n 0, 1) := by decide +kernel
theorem dd_jdk_68_method_32_27 : decode jdk_68_method_32_code 27 = .ok (.getfield 15, 3) := by decide +kernel
theorem dd_jdk_68_method_32_30 : decode jdk_68_method_32_code 30 = .ok (.invokestatic 248, 3) := by decide +kernel
theorem pd_12 : parseMethodDescriptor "(II[B)I" = some ⟨[.int, .int, (.array .byte)], some .int⟩ := by decide +kernel
theorem dd_jdk_68_method_32_33 : decode jdk_68_method_32_code 33 = .ok (.pop, 1) := by decide +kernel
theorem dd_jdk_68_method_32_34 : decode jdk_68_method_32_code 34 = .ok (.goto 14, 3) := by decide +kernel
theorem dd_jdk_68_method_32_48 : decode jdk_68_method_32_code 48 = .ok (.aload_n 0, 1) := by decide +kernel
theorem dd_jdk_68_method_32_49 : decode jdk_68_method_32_code 49 = .ok (.iload_n 3, 1) := by decide +kernel
theorem dd_jdk_68_method_32_50 : decode jdk_68_method_32_code 50 = .ok (.putfield 79, 3) := by decide +kernel
theorem dd_jdk_68_method_32_53 : decode jdk_68_method_32_code 53 = .ok (.aload_n 0, 1) := by decide +kernel
theorem dd_jdk_68_method_32_54 : decode jdk_68_method_32_code 54 = .ok (.areturn, 1) := by decide +kernel
theorem ef_own_api (m : MethodId) (x0 : Addr) (x1 : Int32) : entryFrame m #[(.ref x0), (.int x1)] 4 = mkF m 0 #[.val (.ref x0), .val (.int x1), .unset, .unset] [] := by first | (simp [entryFrame, mkF, argsToLocals, Value.category]; done) | rfl
set_option maxRecDepth 65536 in
set_option maxHeartbeats 40000000 in
theorem own_api (l : Launch) (Z : State) (a0 : Array Value) (hw : ∀ d ∈ tables_1, d.before a0 Z = true) (EWf : own_EW Z own_EL) (n0 : Nat) (b dn dt : Addr) (cs : List Int32) (v n N : Nat) (h0 : Heap) (O0 : Old Z n0 h0) (p_B : own_SB Z N h0 b cs) (p_1 : 1 ≤ n) (p_v : 10 ^ (n - 1) ≤ v) (p_w : v < 10 ^ n) (p_b : v < 2 ^ 31) (p_34 : cs.length + n ≤ 34) (p_N0 : n0 ≤ N) (p_Nh : N ≤ h0.size) (DG : own_DG Z dn dt) (CS : own_CS Z) :
    own_Met l Z own_EL [] false n0 (⟨"java/lang/AbstractStringBuilder", "append", "(I)Ljava/lang/AbstractStringBuilder;"⟩ : MethodName) jdk_68_method_32_code 4 (some (.object "java/lang/AbstractStringBuilder")) ({ frames := 4, cells := 1, slots := 34, locals := 62 } : Room) #[(.ref b), (.int (Int32.ofNat v))] h0 (fun v' h => v' = some (.ref b) ∧ ∃ a : Addr, N ≤ a ∧ Exa Z h0 a "[B" ∧ Keep h0 h [b, a] ∧ own_SB Z N h b (cs ++ own_dg v n)) := by
  refine own_enter (own := "java/lang/AbstractStringBuilder") (nm := "append") (plainFor_of_name pn_0) rfl rfl O0 EWf ?_
  have W : ∀ (k : Nat) {d : Jvm.Cond}, tables_1[k]? = some d → d.before a0 Z = true := fun k d q => hw d (List.mem_of_getElem? q)
  intro G p e s m below meth c T0 hGe X0
  rw [ef_own_api m b ((Int32.ofNat v))]
  obtain ⟨a, k, r, p_R⟩ := p_B
  obtain ⟨⟨p_E, p_V, p_C, p_N⟩, p_A, l_c, l_m, n_a, n_b, p_K⟩ := p_R
  have l_b := own_bsl cs
  have l_n : (own_bs cs ++ r).length = cs.length + r.length := by rw [List.length_append, own_bsl]
  refine own_aload_n (pc' := 1) X0 dd_jdk_68_method_32_0 rfl rfl rfl ?_
  refine own_get (pc' := 4) X0 (host := "") (Or.inl (W 92 rfl)) Via.refl p_N dd_jdk_68_method_32_1 rfl ?_
  intro T1 X1
  refine own_istore_n (pc' := 5) X1 dd_jdk_68_method_32_4 rfl (Ls' := #[.val (.ref b), .val (.int (Int32.ofNat v)), .val (.int (Int32.ofNat cs.length)), .unset]) rfl ?_
  refine own_iload_n (pc' := 6) X1 dd_jdk_68_method_32_5 rfl rfl ?_
  refine own_iload_n (pc' := 7) X1 dd_jdk_68_method_32_6 rfl rfl ?_
  refine own_callSM (pc' := 10) (cells' := 0) (slots' := 0) (argsL := [(.int (Int32.ofNat v))]) (rest := [(.int (Int32.ofNat cs.length))]) (W := 1) (y := (⟨"java/lang/Integer", "stringSize", "(I)I"⟩ : MethodName)) X1 (W 131 rfl) (W 132 rfl) (by decide) (own_ssz l Z a0 hw EWf n0 v n h0 (own_old X1) p_1 p_v p_w p_b) all0 (W 134 rfl) (W 133 rfl) (by decide) (by decide) rfl (lenOf pd_4 rfl) rfl rfl dd_jdk_68_method_32_7 rfl rfl rfl rfl (by decide) (by decide) ?_
  intro v2 T2 h2 s2 X2 q2 r2
  obtain ⟨rfl, rfl⟩ := q2
  show G T2 (mkF m 10 #[.val (.ref b), .val (.int (Int32.ofNat v)), .val (.int (Int32.ofNat cs.length)), .unset] [(.int (Int32.ofNat n)), (.int (Int32.ofNat cs.length))])
  refine own_iadd (pc' := 11) X2 dd_jdk_68_method_32_10 rfl (r := (Int32.ofNat (cs.length + n))) (own_i32add (by omega)) ?_
  refine own_istore_n (pc' := 12) X2 dd_jdk_68_method_32_11 rfl (Ls' := #[.val (.ref b), .val (.int (Int32.ofNat v)), .val (.int (Int32.ofNat cs.length)), .val (.int (Int32.ofNat (cs.length + n)))]) rfl ?_
  refine own_aload_n (pc' := 13) X2 dd_jdk_68_method_32_12 rfl rfl rfl ?_
  refine own_iload_n (pc' := 14) X2 dd_jdk_68_method_32_13 rfl rfl ?_
  refine own_callPQ (pc' := 17) (cells' := 1) (slots' := 34) (argsL := [(.int (Int32.ofNat (cs.length + n)))]) (rest := []) (W := 0) (y := (⟨"java/lang/AbstractStringBuilder", "ensureCapacityInternal", "(I)V"⟩ : MethodName)) (a := b) X2 (W 94 rfl) (W 95 rfl) (W 96 rfl) (W 97 rfl) (by decide) p_E (own_ens l Z a0 hw EWf n0 b a k r cs (cs.length + n) N h0 (own_old X2) ⟨⟨p_E, p_V, p_C, p_N⟩, p_A, l_c, (Nat.zero_le _), n_a, n_b, p_K⟩ p_34 p_N0 (Nat.le_trans p_Nh (Nat.le_refl _))) all0 (W 98 rfl) (W 64 rfl) (by decide) (by decide) rfl (lenOf pd_0 rfl) rfl rfl dd_jdk_68_method_32_14 rfl rfl rfl rfl (by decide) (by decide) ?_
  intro v3 T3 h3 s3 X3 q3 r3
  obtain ⟨rfl, K3, a3, k3, r3, al3, R3⟩ := q3
  obtain ⟨⟨p_E3, p_V3, p_C3, p_N3⟩, p_A3, l_c3, l_m3, n_a3, n_b3, p_K3⟩ := R3
  have l_n3 : (own_bs cs ++ r3).length = cs.length + r3.length := by rw [List.length_append, own_bsl]
  have ne_b3 : b ≠ a3 := Exa.ne p_E3 p_K3 (by decide)
  show G T3 (mkF m 17 #[.val (.ref b), .val (.int (Int32.ofNat v)), .val (.int (Int32.ofNat cs.length)), .val (.int (Int32.ofNat (cs.length + n)))] [])
  refine own_aload_n (pc' := 18) X3 dd_jdk_68_method_32_17 rfl rfl rfl ?_
  refine own_callVM (pc' := 21) (cells' := 1) (slots' := 34) (argsL := []) (rest := []) (W := 0) (y := (⟨"java/lang/AbstractStringBuilder", "isLatin1", "()Z"⟩ : MethodName)) (z := (⟨"java/lang/AbstractStringBuilder", "isLatin1", "()Z"⟩ : MethodName)) (a := b) X3 (W 135 rfl) (W 136 rfl) (fun s' hZ' => notFace_of_selects (args := #[]) (mvT hZ' (W 138 rfl))) (W 138 rfl) (W 137 rfl) (by decide) p_E3 (own_isl l Z a0 hw EWf n0 b h3 (own_old X3) p_C3 CS) all0 (W 139 rfl) (W 64 rfl) (by decide) (by decide) rfl (lenOf pd_11 rfl) rfl rfl dd_jdk_68_method_32_18 rfl rfl rfl rfl (by decide) (by decide) ?_
  intro v4 T4 h4 s4 X4 q4 r4
  obtain ⟨rfl, rfl⟩ := q4
  show G T4 (mkF m 21 #[.val (.ref b), .val (.int (Int32.ofNat v)), .val (.int (Int32.ofNat cs.length)), .val (.int (Int32.ofNat (cs.length + n)))] [(.int (1 : Int32))])
  refine own_ifN (pc' := 24) X4 dd_jdk_68_method_32_21 rfl ((feq (by decide)).1) ?_
  refine own_iload_n (pc' := 25) X4 dd_jdk_68_method_32_24 rfl rfl ?_
  refine own_iload_n (pc' := 26) X4 dd_jdk_68_method_32_25 rfl rfl ?_
  refine own_aload_n (pc' := 27) X4 dd_jdk_68_method_32_26 rfl rfl rfl ?_
  refine own_get (pc' := 30) X4 (host := "") (Or.inl (W 68 rfl)) Via.refl p_V3 dd_jdk_68_method_32_27 rfl ?_
  intro T5 X5
  refine own_callSM (pc' := 33) (cells' := 1) (slots' := 34) (argsL := [(.int (Int32.ofNat v)), (.int (Int32.ofNat (cs.length + n))), (.ref a3)]) (rest := []) (W := 0) (y := (⟨"java/lang/Integer", "getChars", "(II[B)I"⟩ : MethodName)) X5 (W 140 rfl) (W 141 rfl) (by decide) (own_gch l Z a0 hw EWf n0 v (cs.length + n) n a3 dn dt k3 (own_bs cs ++ r3) h3 (own_old X5) p_1 p_v p_w p_b p_A3 (Nat.le_trans p_N0 n_a3) (by omega) (by omega) (by omega) (by omega) DG) all0 (W 142 rfl) (W 133 rfl) (by decide) (by decide) rfl (lenOf pd_12 rfl) rfl rfl dd_jdk_68_method_32_30 rfl rfl rfl rfl (by decide) (by decide) ?_
  intro v6 T6 h6 s6 X6 q6 r6
  obtain ⟨z6, rfl, K6, A6⟩ := q6
  have A6' : own_Arr Z h6 a3 k3 .byte (own_bs (cs ++ own_dg v n) ++ r3.drop n) := by have q := A6; rw [show cs.length + n - n = cs.length from by omega, List.take_left' l_b, show cs.length + n = (own_bs cs).length + n from by rw [l_b], List.drop_append, List.drop_eq_nil_of_le (by omega), List.nil_append, Nat.add_sub_cancel_left] at q; rw [own_bsa, List.append_assoc]; exact q
  show G T6 (mkF m 33 #[.val (.ref b), .val (.int (Int32.ofNat v)), .val (.int (Int32.ofNat cs.length)), .val (.int (Int32.ofNat (cs.length + n)))] [(.int z6)])
  refine own_pop (pc' := 34) X6 dd_jdk_68_method_32_33 rfl rfl ?_
  refine own_goto (pc' := 48) X6 dd_jdk_68_method_32_34 (by decide) (by decide) ?_
  refine own_aload_n (pc' := 49) X6 dd_jdk_68_method_32_48 rfl rfl rfl ?_
  refine own_iload_n (pc' := 50) X6 dd_jdk_68_method_32_49 rfl rfl ?_
  have f7 := (p_N3.keep K6 (ninS ne_b3 nin0))
  have f8 := (p_E3.keep K6)
  refine own_put (pc' := 53) X6 (host := "") (Or.inl (W 92 rfl)) Via.refl f7 f8 (Or.inl (W 93 rfl)) (W 55 rfl) (ty := .int) (by decide) rfl rfl (Nat.le_trans p_N0 n_b3) (Or.inl ⟨by decide, by decide⟩) dd_jdk_68_method_32_50 rfl ?_
  intro T9 h9 X9 W9 K9
  have f9_ := f7.same W9
  refine own_aload_n (pc' := 54) X9 dd_jdk_68_method_32_53 rfl rfl rfl ?_
  have ll : (cs ++ own_dg v n).length = cs.length + n := by rw [List.length_append, own_dgl]
  have f10 := (A6'.keep K9 (ninS (Ne.symm ne_b3) nin0))
  have N' : Fld Z h9 b "java/lang/AbstractStringBuilder" "count" "I" (.int (Int32.ofNat (cs ++ own_dg v n).length)) := by rw [ll]; exact f9_
  have f11 := (f8.keep K9)
  have f12 := ((p_V3.keep K6 (ninS ne_b3 nin0)).other W9 (Or.inr (slot_ne (Or.inl (W 69 rfl)) (Or.inl (W 93 rfl)) (by decide) (t := (.array .byte)) (t' := .int) (by decide) (by decide))))
  have f13 := ((p_C3.keep K6 (ninS ne_b3 nin0)).other W9 (Or.inr (slot_ne (Or.inl (W 71 rfl)) (Or.inl (W 93 rfl)) (by decide) (t := .byte) (t' := .int) (by decide) (by decide))))
  have f14 := ((p_K3.keep K6).keep K9)
  exact own_ret X9 hGe (t := (.object "java/lang/AbstractStringBuilder")) rfl rfl (Or.inr (Or.inr (Or.inr (Or.inr ⟨rfl, rfl, rfl⟩)))) dd_jdk_68_method_32_54 (by decide) (by decide) ⟨rfl, a, n_a, p_K, ((((Keep.refl h0 [b, a]).trans K3 (allS (Or.inl (List.mem_of_getElem? (i := 0) rfl)) all0)).trans K6 (allS (al3.imp (fun q => by rw [← q]; exact List.mem_of_getElem? (i := 1) rfl) (fun q => Nat.le_trans (Nat.le_refl _) q)) all0)).trans K9 (allS (Or.inl (List.mem_of_getElem? (i := 0) rfl)) all0)), ⟨a3, _, _, ⟨f11, f12, f13, N'⟩, f10, by rw [ll]; simp; omega, Nat.zero_le _, n_a3, n_b3, f14⟩⟩ nofun
theorem dd_jdk_67_method_15_0 : decode jdk_67_method_15_code 0 = .ok (.aload_n 0, 1) := by decide +kernel
theorem dd_jdk_67_method_15_1 : decode jdk_67_method_15_code 1 = .ok (.iload_n 1, 1) := by decide +kernel
theorem dd_jdk_67_method_15_2 : decode jdk_67_method_15_code 2 = .ok (.invokespecial 53, 3) := by decide +kernel
theorem pd_13 : parseMethodDescriptor "(I)Ljava/lang/AbstractStringBuilder;" = some ⟨[.int], some (.object "java/lang/AbstractStringBuilder")⟩ := by decide +kernel
theorem dd_jdk_67_method_15_5 : decode jdk_67_method_15_code 5 = .ok (.pop, 1) := by decide +kernel
theorem dd_jdk_67_method_15_6 : decode jdk_67_method_15_code 6 = .ok (.aload_n 0, 1) := by decide +kernel
theorem dd_jdk_67_method_15_7 : decode jdk_67_method_15_code 7 = .ok (.areturn, 1) := by decide +kernel
theorem ef_own_sbI (m : MethodId) (x0 : Addr) (x1 : Int32) : entryFrame m #[(.ref x0), (.int x1)] 2 = mkF m 0 #[.val (.ref x0), .val (.int x1)] [] := by first | (simp [entryFrame, mkF, argsToLocals, Value.category]; done) | rfl
set_option maxRecDepth 65536 in
set_option maxHeartbeats 40000000 in
theorem own_sbI (l : Launch) (Z : State) (a0 : Array Value) (hw : ∀ d ∈ tables_1, d.before a0 Z = true) (EWf : own_EW Z own_EL) (n0 : Nat) (b dn dt : Addr) (cs : List Int32) (v n N : Nat) (h0 : Heap) (O0 : Old Z n0 h0) (p_B : own_SB Z N h0 b cs) (p_1 : 1 ≤ n) (p_v : 10 ^ (n - 1) ≤ v) (p_w : v < 10 ^ n) (p_b : v < 2 ^ 31) (p_34 : cs.length + n ≤ 34) (p_N0 : n0 ≤ N) (p_Nh : N ≤ h0.size) (DG : own_DG Z dn dt) (CS : own_CS Z) :
    own_Met l Z own_EL [] false n0 (⟨"java/lang/StringBuilder", "append", "(I)Ljava/lang/StringBuilder;"⟩ : MethodName) jdk_67_method_15_code 2 (some (.object "java/lang/StringBuilder")) ({ frames := 5, cells := 1, slots := 34, locals := 77 } : Room) #[(.ref b), (.int (Int32.ofNat v))] h0 (fun v' h => v' = some (.ref b) ∧ ∃ a : Addr, N ≤ a ∧ Exa Z h0 a "[B" ∧ Keep h0 h [b, a] ∧ own_SB Z N h b (cs ++ own_dg v n)) := by
  refine own_enter (own := "java/lang/StringBuilder") (nm := "append") (plainFor_of_name pn_1) rfl rfl O0 EWf ?_
  have W : ∀ (k : Nat) {d : Jvm.Cond}, tables_1[k]? = some d → d.before a0 Z = true := fun k d q => hw d (List.mem_of_getElem? q)
  intro G p e s m below meth c T0 hGe X0
  rw [ef_own_sbI m b ((Int32.ofNat v))]
  refine own_aload_n (pc' := 1) X0 dd_jdk_67_method_15_0 rfl rfl rfl ?_
  refine own_iload_n (pc' := 2) X0 dd_jdk_67_method_15_1 rfl rfl ?_
  refine own_callUM (pc' := 5) (cells' := 1) (slots' := 34) (argsL := [(.int (Int32.ofNat v))]) (rest := []) (W := 0) (y := (⟨"java/lang/AbstractStringBuilder", "append", "(I)Ljava/lang/AbstractStringBuilder;"⟩ : MethodName)) (a := b) X0 (W 127 rfl) (own_declSame (W 129 rfl) (W 97 rfl) rfl (by decide)) (W 128 rfl) (W 79 rfl) (by decide) (Ins.self p_B.exa) (own_api l Z a0 hw EWf n0 b dn dt cs v n N h0 (own_old X0) p_B p_1 p_v p_w p_b p_34 p_N0 p_Nh DG CS) all0 (W 130 rfl) (W 64 rfl) (by decide) (by decide) rfl (lenOf pd_13 rfl) rfl rfl dd_jdk_67_method_15_2 rfl rfl rfl rfl (by decide) (by decide) ?_
  intro v1 T1 h1 s1 X1 q1 r1
  obtain ⟨rfl, y1, o1, E1, K1, S1⟩ := q1
  show G T1 (mkF m 5 #[.val (.ref b), .val (.int (Int32.ofNat v))] [(.ref b)])
  refine own_pop (pc' := 6) X1 dd_jdk_67_method_15_5 rfl rfl ?_
  refine own_aload_n (pc' := 7) X1 dd_jdk_67_method_15_6 rfl rfl rfl ?_
  exact own_ret X1 hGe (t := (.object "java/lang/StringBuilder")) rfl rfl (Or.inr (Or.inr (Or.inr (Or.inr ⟨rfl, rfl, rfl⟩)))) dd_jdk_67_method_15_7 (by decide) (by decide) ⟨rfl, y1, o1, E1, ((Keep.refl h0 [b, y1]).trans K1 (allS (Or.inl (List.mem_of_getElem? (i := 0) rfl)) (allS (Or.inl (List.mem_of_getElem? (i := 1) rfl)) all0))), S1⟩ nofun
theorem dd_jdk_68_method_64_0 : decode jdk_68_method_64_code 0 = .ok (.aload_n 0, 1) := by decide +kernel
theorem dd_jdk_68_method_64_1 : decode jdk_68_method_64_code 1 = .ok (.getfield 15, 3) := by decide +kernel
theorem dd_jdk_68_method_64_4 : decode jdk_68_method_64_code 4 = .ok (.areturn, 1) := by decide +kernel
theorem ef_own_gv (m : MethodId) (x0 : Addr) : entryFrame m #[(.ref x0)] 1 = mkF m 0 #[.val (.ref x0)] [] := by first | (simp [entryFrame, mkF, argsToLocals, Value.category]; done) | rfl
set_option maxRecDepth 65536 in
set_option maxHeartbeats 40000000 in
theorem own_gv (l : Launch) (Z : State) (a0 : Array Value) (hw : ∀ d ∈ tables_1, d.before a0 Z = true) (EWf : own_EW Z own_EL) (n0 : Nat) (b a : Addr) (h0 : Heap) (O0 : Old Z n0 h0) (p_V : Fld Z h0 b "java/lang/AbstractStringBuilder" "value" "[B" (.ref a)) :
    own_Met l Z own_EL [] false n0 (⟨"java/lang/AbstractStringBuilder", "getValue", "()[B"⟩ : MethodName) jdk_68_method_64_code 1 (some (.array .byte)) ({ frames := 0, cells := 0, slots := 0, locals := 0 } : Room) #[(.ref b)] h0 (fun v h => v = some (.ref a) ∧ h0 = h) := by
  refine own_enter (own := "java/lang/AbstractStringBuilder") (nm := "getValue") (plainFor_of_name pn_0) rfl rfl O0 EWf ?_
  have W : ∀ (k : Nat) {d : Jvm.Cond}, tables_1[k]? = some d → d.before a0 Z = true := fun k d q => hw d (List.mem_of_getElem? q)
  intro G p e s m below meth c T0 hGe X0
  rw [ef_own_gv m b]
  refine own_aload_n (pc' := 1) X0 dd_jdk_68_method_64_0 rfl rfl rfl ?_
  refine own_get (pc' := 4) X0 (host := "") (Or.inl (W 68 rfl)) Via.refl p_V dd_jdk_68_method_64_1 rfl ?_
  intro T1 X1
  exact own_ret X1 hGe (t := (.array .byte)) rfl rfl (Or.inr (Or.inr (Or.inr (Or.inr ⟨rfl, rfl, rfl⟩)))) dd_jdk_68_method_64_4 (by decide) (by decide) ⟨rfl, rfl⟩ nofun
theorem dd_jdk_68_method_6_0 : decode jdk_68_method_6_code 0 = .ok (.aload_n 0, 1) := by decide +kernel
theorem dd_jdk_68_method_6_1 : decode jdk_68_method_6_code 1 = .ok (.getfield 79, 3) := by decide +kernel
theorem dd_jdk_68_method_6_4 : decode jdk_68_method_6_code 4 = .ok (.ireturn, 1) := by decide +kernel
theorem ef_own_asl (m : MethodId) (x0 : Addr) : entryFrame m #[(.ref x0)] 1 = mkF m 0 #[.val (.ref x0)] [] := by first | (simp [entryFrame, mkF, argsToLocals, Value.category]; done) | rfl
set_option maxRecDepth 65536 in
set_option maxHeartbeats 40000000 in
theorem own_asl (l : Launch) (Z : State) (a0 : Array Value) (hw : ∀ d ∈ tables_1, d.before a0 Z = true) (EWf : own_EW Z own_EL) (n0 : Nat) (b : Addr) (z : Int32) (h0 : Heap) (O0 : Old Z n0 h0) (p_N : Fld Z h0 b "java/lang/AbstractStringBuilder" "count" "I" (.int z)) :
    own_Met l Z own_EL [] false n0 (⟨"java/lang/AbstractStringBuilder", "length", "()I"⟩ : MethodName) jdk_68_method_6_code 1 (some .int) ({ frames := 0, cells := 0, slots := 0, locals := 0 } : Room) #[(.ref b)] h0 (fun v h => v = some (.int z) ∧ h0 = h) := by
  refine own_enter (own := "java/lang/AbstractStringBuilder") (nm := "length") (plainFor_of_name pn_0) rfl rfl O0 EWf ?_
  have W : ∀ (k : Nat) {d : Jvm.Cond}, tables_1[k]? = some d → d.before a0 Z = true := fun k d q => hw d (List.mem_of_getElem? q)
  intro G p e s m below meth c T0 hGe X0
  rw [ef_own_asl m b]
  refine own_aload_n (pc' := 1) X0 dd_jdk_68_method_6_0 rfl rfl rfl ?_
  refine own_get (pc' := 4) X0 (host := "") (Or.inl (W 92 rfl)) Via.refl p_N dd_jdk_68_method_6_1 rfl ?_
  intro T1 X1
  exact own_ret X1 hGe (t := .int) rfl rfl (Or.inl ⟨rfl, by simp, _, rfl⟩) dd_jdk_68_method_6_4 (by decide) (by decide) ⟨rfl, rfl⟩ nofun
theorem dd_jdk_67_method_93_0 : decode jdk_67_method_93_code 0 = .ok (.aload_n 0, 1) := by decide +kernel
theorem dd_jdk_67_method_93_1 : decode jdk_67_method_93_code 1 = .ok (.invokespecial 343, 3) := by decide +kernel
theorem dd_jdk_67_method_93_4 : decode jdk_67_method_93_code 4 = .ok (.ireturn, 1) := by decide +kernel
theorem ef_own_sbl (m : MethodId) (x0 : Addr) : entryFrame m #[(.ref x0)] 1 = mkF m 0 #[.val (.ref x0)] [] := by first | (simp [entryFrame, mkF, argsToLocals, Value.category]; done) | rfl
set_option maxRecDepth 65536 in
set_option maxHeartbeats 40000000 in
theorem own_sbl (l : Launch) (Z : State) (a0 : Array Value) (hw : ∀ d ∈ tables_1, d.before a0 Z = true) (EWf : own_EW Z own_EL) (n0 : Nat) (b : Addr) (z : Int32) (h0 : Heap) (O0 : Old Z n0 h0) (p_E : Exa Z h0 b "java/lang/StringBuilder") (p_N : Fld Z h0 b "java/lang/AbstractStringBuilder" "count" "I" (.int z)) :
    own_Met l Z own_EL [] false n0 (⟨"java/lang/StringBuilder", "length", "()I"⟩ : MethodName) jdk_67_method_93_code 1 (some .int) ({ frames := 1, cells := 0, slots := 0, locals := 12 } : Room) #[(.ref b)] h0 (fun v h => v = some (.int z) ∧ h0 = h) := by
  refine own_enter (own := "java/lang/StringBuilder") (nm := "length") (plainFor_of_name pn_1) rfl rfl O0 EWf ?_
  have W : ∀ (k : Nat) {d : Jvm.Cond}, tables_1[k]? = some d → d.before a0 Z = true := fun k d q => hw d (List.mem_of_getElem? q)
  intro G p e s m below meth c T0 hGe X0
  rw [ef_own_sbl m b]
  refine own_aload_n (pc' := 1) X0 dd_jdk_67_method_93_0 rfl rfl rfl ?_
  refine own_callUM (pc' := 4) (cells' := 0) (slots' := 0) (argsL := []) (rest := []) (W := 0) (y := (⟨"java/lang/AbstractStringBuilder", "length", "()I"⟩ : MethodName)) (a := b) X0 (W 167 rfl) (own_declSame (W 162 rfl) (W 97 rfl) rfl (by decide)) (W 163 rfl) (W 79 rfl) (by decide) (Ins.self p_E) (own_asl l Z a0 hw EWf n0 b z h0 (own_old X0) p_N) all0 (W 168 rfl) (W 64 rfl) (by decide) (by decide) rfl (lenOf pd_8 rfl) rfl rfl dd_jdk_67_method_93_1 rfl rfl rfl rfl (by decide) (by decide) ?_
  intro v1 T1 h1 s1 X1 q1 r1
  obtain ⟨rfl, rfl⟩ := q1
  show G T1 (mkF m 4 #[.val (.ref b)] [(.int z)])
  exact own_ret X1 hGe (t := .int) rfl rfl (Or.inl ⟨rfl, by simp, _, rfl⟩) dd_jdk_67_method_93_4 (by decide) (by decide) ⟨rfl, rfl⟩ nofun
theorem dd_jdk_65_method_131_0 : decode jdk_65_method_131_code 0 = .ok (.iload_n 1, 1) := by decide +kernel
theorem dd_jdk_65_method_131_1 : decode jdk_65_method_131_code 1 = .ok (.iload_n 0, 1) := by decide +kernel
theorem dd_jdk_65_method_131_2 : decode jdk_65_method_131_code 2 = .ok (.if_icmp .ge 35, 3) := by decide +kernel
theorem dd_jdk_65_method_131_37 : decode jdk_65_method_131_code 37 = .ok (.return_, 1) := by decide +kernel
theorem ef_own_ckl (m : MethodId) (x0 : Int32) (x1 : Int32) : entryFrame m #[(.int x0), (.int x1)] 2 = mkF m 0 #[.val (.int x0), .val (.int x1)] [] := by first | (simp [entryFrame, mkF, argsToLocals, Value.category]; done) | rfl
set_option maxRecDepth 65536 in
set_option maxHeartbeats 40000000 in
theorem own_ckl (l : Launch) (Z : State) (a0 : Array Value) (hw : ∀ d ∈ tables_1, d.before a0 Z = true) (EWf : own_EW Z own_EL) (n0 : Nat) (n : Nat) (h0 : Heap) (O0 : Old Z n0 h0) (p_n : n < 2 ^ 31) :
    own_Met l Z own_EL [] false n0 (⟨"java/util/Arrays", "checkLength", "(II)V"⟩ : MethodName) jdk_65_method_131_code 2 none ({ frames := 0, cells := 0, slots := 0, locals := 0 } : Room) #[(.int (0 : Int32)), (.int (Int32.ofNat n))] h0 (fun v h => v = none ∧ h0 = h) := by
  refine own_enter (own := "java/util/Arrays") (nm := "checkLength") (plainFor_of_name pn_6) rfl rfl O0 EWf ?_
  have W : ∀ (k : Nat) {d : Jvm.Cond}, tables_1[k]? = some d → d.before a0 Z = true := fun k d q => hw d (List.mem_of_getElem? q)
  intro G p e s m below meth c T0 hGe X0
  rw [ef_own_ckl m ((0 : Int32)) ((Int32.ofNat n))]
  refine own_iload_n (pc' := 1) X0 dd_jdk_65_method_131_0 rfl rfl ?_
  refine own_iload_n (pc' := 2) X0 dd_jdk_65_method_131_1 rfl rfl ?_
  refine own_icmpY (pc' := 37) X0 dd_jdk_65_method_131_2 ((flt (own_i32le (n := 0) (Nat.zero_le _) p_n)).2.1) (by decide) (by decide) ?_
  exact own_retV X0 hGe rfl dd_jdk_65_method_131_37 (by decide) (by decide) ⟨rfl, rfl⟩
theorem dd_jdk_65_method_133_0 : decode jdk_65_method_133_code 0 = .ok (.iload_n 1, 1) := by decide +kernel
theorem dd_jdk_65_method_133_1 : decode jdk_65_method_133_code 1 = .ok (.iload_n 2, 1) := by decide +kernel
theorem dd_jdk_65_method_133_2 : decode jdk_65_method_133_code 2 = .ok (.invokestatic 343, 3) := by decide +kernel
theorem pd_14 : parseMethodDescriptor "(II)V" = some ⟨[.int, .int], none⟩ := by decide +kernel
theorem dd_jdk_65_method_133_5 : decode jdk_65_method_133_code 5 = .ok (.iload_n 2, 1) := by decide +kernel
theorem dd_jdk_65_method_133_6 : decode jdk_65_method_133_code 6 = .ok (.iload_n 1, 1) := by decide +kernel
theorem dd_jdk_65_method_133_7 : decode jdk_65_method_133_code 7 = .ok (.isub, 1) := by decide +kernel
theorem dd_jdk_65_method_133_8 : decode jdk_65_method_133_code 8 = .ok (.istore_n 3, 1) := by decide +kernel
theorem dd_jdk_65_method_133_9 : decode jdk_65_method_133_code 9 = .ok (.iload_n 3, 1) := by decide +kernel
theorem dd_jdk_65_method_133_10 : decode jdk_65_method_133_code 10 = .ok (.newarray .byte, 2) := by decide +kernel
theorem dd_jdk_65_method_133_12 : decode jdk_65_method_133_code 12 = .ok (.astore 4, 2) := by decide +kernel
theorem dd_jdk_65_method_133_14 : decode jdk_65_method_133_code 14 = .ok (.aload_n 0, 1) := by decide +kernel
theorem dd_jdk_65_method_133_15 : decode jdk_65_method_133_code 15 = .ok (.iload_n 1, 1) := by decide +kernel
theorem dd_jdk_65_method_133_16 : decode jdk_65_method_133_code 16 = .ok (.aload 4, 2) := by decide +kernel
theorem dd_jdk_65_method_133_18 : decode jdk_65_method_133_code 18 = .ok (.iconst 0, 1) := by decide +kernel
theorem dd_jdk_65_method_133_19 : decode jdk_65_method_133_code 19 = .ok (.aload_n 0, 1) := by decide +kernel
theorem dd_jdk_65_method_133_20 : decode jdk_65_method_133_code 20 = .ok (.arraylength, 1) := by decide +kernel
theorem dd_jdk_65_method_133_21 : decode jdk_65_method_133_code 21 = .ok (.iload_n 1, 1) := by decide +kernel
theorem dd_jdk_65_method_133_22 : decode jdk_65_method_133_code 22 = .ok (.isub, 1) := by decide +kernel
theorem dd_jdk_65_method_133_23 : decode jdk_65_method_133_code 23 = .ok (.iload_n 3, 1) := by decide +kernel
theorem dd_jdk_65_method_133_24 : decode jdk_65_method_133_code 24 = .ok (.invokestatic 304, 3) := by decide +kernel
theorem dd_jdk_65_method_133_27 : decode jdk_65_method_133_code 27 = .ok (.invokestatic 150, 3) := by decide +kernel
theorem dd_jdk_65_method_133_30 : decode jdk_65_method_133_code 30 = .ok (.aload 4, 2) := by decide +kernel
theorem dd_jdk_65_method_133_32 : decode jdk_65_method_133_code 32 = .ok (.areturn, 1) := by decide +kernel
theorem ef_own_crb (m : MethodId) (x0 : Addr) (x1 : Int32) (x2 : Int32) : entryFrame m #[(.ref x0), (.int x1), (.int x2)] 5 = mkF m 0 #[.val (.ref x0), .val (.int x1), .val (.int x2), .unset, .unset] [] := by first | (simp [entryFrame, mkF, argsToLocals, Value.category]; done) | rfl
set_option maxRecDepth 65536 in
set_option maxHeartbeats 40000000 in
theorem own_crb (l : Launch) (Z : State) (a0 : Array Value) (hw : ∀ d ∈ tables_1, d.before a0 Z = true) (EWf : own_EW Z own_EL) (n0 : Nat) (a : Addr) (k : ClassId) (vs : List Value) (n : Nat) (h0 : Heap) (O0 : Old Z n0 h0) (p_A : own_Arr Z h0 a k .byte vs) (p_n : n ≤ vs.length) (p_34 : vs.length ≤ 34) :
    own_Met l Z own_EL [] true n0 (⟨"java/util/Arrays", "copyOfRangeByte", "([BII)[B"⟩ : MethodName) jdk_65_method_133_code 5 (some (.array .byte)) ({ frames := 1, cells := 1, slots := 34, locals := 20 } : Room) #[(.ref a), (.int (0 : Int32)), (.int (Int32.ofNat n))] h0 (fun v h => ∃ (d : Addr) (kd : ClassId), v = some (.ref d) ∧ Keep h0 h [] ∧ h0.size ≤ d ∧ own_Arr Z h d kd .byte (vs.take n) ∧ Exa Z h d "[B") := by
  refine own_enter (own := "java/util/Arrays") (nm := "copyOfRangeByte") (plainFor_of_name pn_6) rfl rfl O0 EWf ?_
  have W : ∀ (k : Nat) {d : Jvm.Cond}, tables_1[k]? = some d → d.before a0 Z = true := fun k d q => hw d (List.mem_of_getElem? q)
  intro G p e s m below meth c T0 hGe X0
  rw [ef_own_crb m a ((0 : Int32)) ((Int32.ofNat n))]
  refine own_iload_n (pc' := 1) X0 dd_jdk_65_method_133_0 rfl rfl ?_
  refine own_iload_n (pc' := 2) X0 dd_jdk_65_method_133_1 rfl rfl ?_
  refine own_callSM (pc' := 5) (cells' := 0) (slots' := 0) (argsL := [(.int (0 : Int32)), (.int (Int32.ofNat n))]) (rest := []) (W := 0) (y := (⟨"java/util/Arrays", "checkLength", "(II)V"⟩ : MethodName)) X0 (W 177 rfl) (W 178 rfl) (by decide) (own_ckl l Z a0 hw EWf n0 n h0 (own_old X0) (by omega)) all0 (W 179 rfl) (W 172 rfl) (by decide) (by decide) rfl (lenOf pd_14 rfl) rfl rfl dd_jdk_65_method_133_2 rfl rfl rfl rfl (by decide) (by decide) ?_
  intro v1 T1 h1 s1 X1 q1 r1
  obtain ⟨rfl, rfl⟩ := q1
  show G T1 (mkF m 5 #[.val (.ref a), .val (.int (0 : Int32)), .val (.int (Int32.ofNat n)), .unset, .unset] [])
  refine own_iload_n (pc' := 6) X1 dd_jdk_65_method_133_5 rfl rfl ?_
  refine own_iload_n (pc' := 7) X1 dd_jdk_65_method_133_6 rfl rfl ?_
  refine own_isub (pc' := 8) X1 dd_jdk_65_method_133_7 rfl (r := (Int32.ofNat n)) (Int32.sub_zero _) ?_
  refine own_istore_n (pc' := 9) X1 dd_jdk_65_method_133_8 rfl (Ls' := #[.val (.ref a), .val (.int (0 : Int32)), .val (.int (Int32.ofNat n)), .val (.int (Int32.ofNat n)), .unset]) rfl ?_
  refine own_iload_n (pc' := 10) X1 dd_jdk_65_method_133_9 rfl rfl ?_
  refine own_newarrayF (pc' := 12) (cells' := 1) (slots' := 34) (n := n) (cap := 34) (dv := (.int 0)) X1 (W 20 rfl) rfl (ad := "[B") (by decide) rfl (own_i32 (by omega)) (by omega) dd_jdk_65_method_133_10 rfl rfl (by omega) (by decide) rfl (by decide) (by decide) ?_
  intro T2 h2 a2 k2 g2 X2 K2 A2 E2
  have n_a2 : n0 ≤ a2 := by rw [g2]; exact own_n0 X1
  refine own_astore (pc' := 14) X2 dd_jdk_65_method_133_12 rfl rfl (Ls' := #[.val (.ref a), .val (.int (0 : Int32)), .val (.int (Int32.ofNat n)), .val (.int (Int32.ofNat n)), .val (.ref a2)]) rfl ?_
  refine own_aload_n (pc' := 15) X2 dd_jdk_65_method_133_14 rfl rfl rfl ?_
  refine own_iload_n (pc' := 16) X2 dd_jdk_65_method_133_15 rfl rfl ?_
  refine own_aload (pc' := 18) X2 dd_jdk_65_method_133_16 rfl rfl rfl ?_
  refine own_iconst (pc' := 19) X2 dd_jdk_65_method_133_18 rfl (z := (0 : Int32)) (by decide) ?_
  refine own_aload_n (pc' := 20) X2 dd_jdk_65_method_133_19 rfl rfl rfl ?_
  have f3 := (p_A.keep K2 nin0)
  refine own_arraylength (pc' := 21) (z := (Int32.ofNat vs.length)) X2 f3 rfl dd_jdk_65_method_133_20 rfl ?_
  refine own_iload_n (pc' := 22) X2 dd_jdk_65_method_133_21 rfl rfl ?_
  refine own_isub (pc' := 23) X2 dd_jdk_65_method_133_22 rfl (r := (Int32.ofNat vs.length)) (Int32.sub_zero _) ?_
  refine own_iload_n (pc' := 24) X2 dd_jdk_65_method_133_23 rfl rfl ?_
  refine own_callSM (pc' := 27) (cells' := 1) (slots' := 34) (argsL := [(.int (Int32.ofNat vs.length)), (.int (Int32.ofNat n))]) (rest := [(.int (0 : Int32)), (.ref a2), (.int (0 : Int32)), (.ref a)]) (W := 4) (y := (⟨"java/lang/Math", "min", "(II)I"⟩ : MethodName)) X2 (W 180 rfl) (W 181 rfl) (by decide) (own_mn l Z a0 hw EWf n0 vs.length n h2 (own_old X2) (by omega) (by omega)) all0 (W 183 rfl) (W 182 rfl) (by decide) (by decide) rfl (lenOf pd_2 rfl) rfl rfl dd_jdk_65_method_133_24 rfl rfl rfl rfl (by decide) (by decide) ?_
  intro v4 T4 h4 s4 X4 q4 r4
  obtain ⟨rfl, rfl⟩ := q4
  show G T4 (mkF m 27 #[.val (.ref a), .val (.int (0 : Int32)), .val (.int (Int32.ofNat n)), .val (.int (Int32.ofNat n)), .val (.ref a2)] [(.int (Int32.ofNat (min vs.length n))), (.int (0 : Int32)), (.ref a2), (.int (0 : Int32)), (.ref a)])
  rw [Nat.min_eq_right p_n]
  refine own_arraycopyP (pc' := 30) (W := 0) (sp := 0) (dp := 0) (n := n) X4 (W 184 rfl) (W 118 rfl) (W 116 rfl) (W 117 rfl) f3 A2 (Or.inl ⟨rfl, rfl⟩) (by decide) (by decide) (own_i32 (by omega)) (by omega) (by simp) n_a2 (List.mem_of_getElem? (i := 0) rfl) rfl rfl dd_jdk_65_method_133_27 rfl (by decide) (by decide) ?_
  intro T5 h5 X5 K5 A5
  have A5' : own_Arr Z h5 a2 k2 .byte (vs.take n) := by simpa using A5
  refine own_aload (pc' := 32) X5 dd_jdk_65_method_133_30 rfl rfl rfl ?_
  have age_a2 : h0.size ≤ a2 := Nat.le_trans (Nat.le_refl _) (Nat.le_of_eq (Eq.symm g2))
  have f6 := (E2.keep K5)
  exact own_ret X5 hGe (t := (.array .byte)) rfl rfl (Or.inr (Or.inr (Or.inr (Or.inr ⟨rfl, rfl, rfl⟩)))) dd_jdk_65_method_133_32 (by decide) (by decide) ⟨a2, _, rfl, (((Keep.refl h0 []).trans K2 all0).trans K5 (allS (Or.inr age_a2) all0)), age_a2, A5', f6⟩ (fun _ b q => by cases q; exact (List.mem_of_getElem? (i := 0) rfl))
theorem dd_jdk_65_method_132_0 : decode jdk_65_method_132_code 0 = .ok (.iload_n 1, 1) := by decide +kernel
theorem dd_jdk_65_method_132_1 : decode jdk_65_method_132_code 1 = .ok (.ifCond .ne 9, 3) := by decide +kernel
theorem dd_jdk_65_method_132_4 : decode jdk_65_method_132_code 4 = .ok (.iload_n 2, 1) := by decide +kernel
theorem dd_jdk_65_method_132_5 : decode jdk_65_method_132_code 5 = .ok (.aload_n 0, 1) := by decide +kernel
theorem dd_jdk_65_method_132_6 : decode jdk_65_method_132_code 6 = .ok (.arraylength, 1) := by decide +kernel
theorem dd_jdk_65_method_132_7 : decode jdk_65_method_132_code 7 = .ok (.if_icmp .eq 10, 3) := by decide +kernel
theorem dd_jdk_65_method_132_17 : decode jdk_65_method_132_code 17 = .ok (.aload_n 0, 1) := by decide +kernel
theorem dd_jdk_65_method_132_18 : decode jdk_65_method_132_code 18 = .ok (.invokevirtual 310, 3) := by decide +kernel
theorem dd_jdk_65_method_132_21 : decode jdk_65_method_132_code 21 = .ok (.checkcast 311, 3) := by decide +kernel
theorem dd_jdk_65_method_132_24 : decode jdk_65_method_132_code 24 = .ok (.areturn, 1) := by decide +kernel
theorem dd_jdk_65_method_132_10 : decode jdk_65_method_132_code 10 = .ok (.aload_n 0, 1) := by decide +kernel
theorem dd_jdk_65_method_132_11 : decode jdk_65_method_132_code 11 = .ok (.iload_n 1, 1) := by decide +kernel
theorem dd_jdk_65_method_132_12 : decode jdk_65_method_132_code 12 = .ok (.iload_n 2, 1) := by decide +kernel
theorem dd_jdk_65_method_132_13 : decode jdk_65_method_132_code 13 = .ok (.invokestatic 339, 3) := by decide +kernel
theorem pd_15 : parseMethodDescriptor "([BII)[B" = some ⟨[(.array .byte), .int, .int], some (.array .byte)⟩ := by decide +kernel
theorem dd_jdk_65_method_132_16 : decode jdk_65_method_132_code 16 = .ok (.areturn, 1) := by decide +kernel
theorem ef_own_cor (m : MethodId) (x0 : Addr) (x1 : Int32) (x2 : Int32) : entryFrame m #[(.ref x0), (.int x1), (.int x2)] 3 = mkF m 0 #[.val (.ref x0), .val (.int x1), .val (.int x2)] [] := by first | (simp [entryFrame, mkF, argsToLocals, Value.category]; done) | rfl
set_option maxRecDepth 65536 in
set_option maxHeartbeats 40000000 in
theorem own_cor (l : Launch) (Z : State) (a0 : Array Value) (hw : ∀ d ∈ tables_1, d.before a0 Z = true) (EWf : own_EW Z own_EL) (n0 : Nat) (a : Addr) (k : ClassId) (vs : List Value) (n : Nat) (h0 : Heap) (O0 : Old Z n0 h0) (p_A : own_Arr Z h0 a k .byte vs) (p_n : n ≤ vs.length) (p_34 : vs.length ≤ 34) (p_K : Exa Z h0 a "[B") :
    own_Met l Z own_EL [] true n0 (⟨"java/util/Arrays", "copyOfRange", "([BII)[B"⟩ : MethodName) jdk_65_method_132_code 3 (some (.array .byte)) ({ frames := 2, cells := 1, slots := 34, locals := 36 } : Room) #[(.ref a), (.int (0 : Int32)), (.int (Int32.ofNat n))] h0 (fun v h => ∃ (d : Addr) (kd : ClassId), v = some (.ref d) ∧ Keep h0 h [] ∧ h0.size ≤ d ∧ own_Arr Z h d kd .byte (vs.take n) ∧ Exa Z h d "[B") := by
  refine own_enter (own := "java/util/Arrays") (nm := "copyOfRange") (plainFor_of_name pn_6) rfl rfl O0 EWf ?_
  have W : ∀ (k : Nat) {d : Jvm.Cond}, tables_1[k]? = some d → d.before a0 Z = true := fun k d q => hw d (List.mem_of_getElem? q)
  intro G p e s m below meth c T0 hGe X0
  rw [ef_own_cor m a ((0 : Int32)) ((Int32.ofNat n))]
  refine own_iload_n (pc' := 1) X0 dd_jdk_65_method_132_0 rfl rfl ?_
  refine own_ifN (pc' := 4) X0 dd_jdk_65_method_132_1 rfl ((teq rfl).2) ?_
  refine own_iload_n (pc' := 5) X0 dd_jdk_65_method_132_4 rfl rfl ?_
  refine own_aload_n (pc' := 6) X0 dd_jdk_65_method_132_5 rfl rfl rfl ?_
  refine own_arraylength (pc' := 7) (z := (Int32.ofNat vs.length)) X0 p_A rfl dd_jdk_65_method_132_6 rfl ?_
  by_cases hn : n = vs.length
  · refine own_icmpY (pc' := 17) X0 dd_jdk_65_method_132_7 ((teq (by rw [hn])).1) (by decide) (by decide) ?_
    refine own_aload_n (pc' := 18) X0 dd_jdk_65_method_132_17 rfl rfl rfl ?_
    refine own_clone (pc' := 21) (cells' := 1) (slots' := 34) (W := 0) (cap := 34) X0 (W 247 rfl) (W 248 rfl) (W 252 rfl) (W 250 rfl) (W 251 rfl) (W 253 rfl) p_A p_K rfl rfl dd_jdk_65_method_132_18 rfl (by decide) (by decide) p_34 rfl rfl (by decide) (by decide) ?_
    intro T1 h1 a1 g1 X1 K1 A1 E1
    have n_a1 : n0 ≤ a1 := by rw [g1]; exact own_n0 X0
    refine own_castY (pc' := 24) X1 (W 254 rfl) (Ins.self E1) dd_jdk_65_method_132_21 rfl ?_
    intro T2 X2
    have age_a1 : h0.size ≤ a1 := Nat.le_trans (Nat.le_refl _) (Nat.le_of_eq (Eq.symm g1))
    exact own_ret X2 hGe (t := (.array .byte)) rfl rfl (Or.inr (Or.inr (Or.inr (Or.inr ⟨rfl, rfl, rfl⟩)))) dd_jdk_65_method_132_24 (by decide) (by decide) ⟨a1, _, rfl, ((Keep.refl h0 []).trans K1 all0), age_a1, by rw [hn, List.take_length]; exact A1, E1⟩ (fun _ b q => by cases q; exact (List.mem_of_getElem? (i := 0) rfl))
  · refine own_icmpN (pc' := 10) X0 dd_jdk_65_method_132_7 rfl ((feq (fun q => hn (by have z := congrArg Int32.toInt q; rw [own_i32 (by omega), own_i32 (by omega)] at z; omega))).1) ?_
    refine own_aload_n (pc' := 11) X0 dd_jdk_65_method_132_10 rfl rfl rfl ?_
    refine own_iload_n (pc' := 12) X0 dd_jdk_65_method_132_11 rfl rfl ?_
    refine own_iload_n (pc' := 13) X0 dd_jdk_65_method_132_12 rfl rfl ?_
    refine own_callSM (pc' := 16) (cells' := 1) (slots' := 34) (argsL := [(.ref a), (.int (0 : Int32)), (.int (Int32.ofNat n))]) (rest := []) (W := 0) (y := (⟨"java/util/Arrays", "copyOfRangeByte", "([BII)[B"⟩ : MethodName)) X0 (W 174 rfl) (W 175 rfl) (by decide) (own_crb l Z a0 hw EWf n0 a k vs n h0 (own_old X0) p_A p_n p_34) all0 (W 176 rfl) (W 172 rfl) (by decide) (by decide) rfl (lenOf pd_15 rfl) rfl rfl dd_jdk_65_method_132_13 rfl rfl rfl rfl (by decide) (by decide) ?_
    intro v3 T3 h3 s3 X3 q3 r3
    obtain ⟨d3, k3, rfl, K3, z3, A3, E3⟩ := q3
    have X3' := own_addP X3 (r3 rfl d3 rfl)
    show G T3 (mkF m 16 #[.val (.ref a), .val (.int (0 : Int32)), .val (.int (Int32.ofNat n))] [(.ref d3)])
    have age_d3 : h0.size ≤ d3 := Nat.le_trans (Nat.le_refl _) z3
    exact own_ret X3' hGe (t := (.array .byte)) rfl rfl (Or.inr (Or.inr (Or.inr (Or.inr ⟨rfl, rfl, rfl⟩)))) dd_jdk_65_method_132_16 (by decide) (by decide) ⟨d3, _, rfl, ((Keep.refl h0 []).trans K3 all0), age_d3, A3, E3⟩ (fun _ b q => by cases q; exact (List.mem_of_getElem? (i := 0) rfl))
theorem dd_jdk_42_method_150_0 : decode jdk_42_method_150_code 0 = .ok (.aload_n 0, 1) := by decide +kernel
theorem dd_jdk_42_method_150_1 : decode jdk_42_method_150_code 1 = .ok (.invokespecial 1, 3) := by decide +kernel
theorem dd_jdk_42_method_150_4 : decode jdk_42_method_150_code 4 = .ok (.aload_n 1, 1) := by decide +kernel
theorem dd_jdk_42_method_150_5 : decode jdk_42_method_150_code 5 = .ok (.invokevirtual 552, 3) := by decide +kernel
theorem pd_16 : parseMethodDescriptor "()[B" = some ⟨[], some (.array .byte)⟩ := by decide +kernel
theorem dd_jdk_42_method_150_8 : decode jdk_42_method_150_code 8 = .ok (.astore_n 3, 1) := by decide +kernel
theorem dd_jdk_42_method_150_9 : decode jdk_42_method_150_code 9 = .ok (.aload_n 1, 1) := by decide +kernel
theorem dd_jdk_42_method_150_10 : decode jdk_42_method_150_code 10 = .ok (.invokevirtual 549, 3) := by decide +kernel
theorem dd_jdk_42_method_150_13 : decode jdk_42_method_150_code 13 = .ok (.istore 4, 2) := by decide +kernel
theorem dd_jdk_42_method_150_15 : decode jdk_42_method_150_code 15 = .ok (.aload_n 1, 1) := by decide +kernel
theorem dd_jdk_42_method_150_16 : decode jdk_42_method_150_code 16 = .ok (.invokevirtual 1047, 3) := by decide +kernel
theorem dd_jdk_42_method_150_19 : decode jdk_42_method_150_code 19 = .ok (.ifCond .eq 22, 3) := by decide +kernel
theorem dd_jdk_42_method_150_22 : decode jdk_42_method_150_code 22 = .ok (.aload_n 0, 1) := by decide +kernel
theorem dd_jdk_42_method_150_23 : decode jdk_42_method_150_code 23 = .ok (.iconst 0, 1) := by decide +kernel
theorem dd_jdk_42_method_150_24 : decode jdk_42_method_150_code 24 = .ok (.putfield 15, 3) := by decide +kernel
theorem dd_jdk_42_method_150_27 : decode jdk_42_method_150_code 27 = .ok (.aload_n 0, 1) := by decide +kernel
theorem dd_jdk_42_method_150_28 : decode jdk_42_method_150_code 28 = .ok (.aload_n 3, 1) := by decide +kernel
theorem dd_jdk_42_method_150_29 : decode jdk_42_method_150_code 29 = .ok (.iconst 0, 1) := by decide +kernel
theorem dd_jdk_42_method_150_30 : decode jdk_42_method_150_code 30 = .ok (.iload 4, 2) := by decide +kernel
theorem dd_jdk_42_method_150_32 : decode jdk_42_method_150_code 32 = .ok (.invokestatic 54, 3) := by decide +kernel
theorem dd_jdk_42_method_150_35 : decode jdk_42_method_150_code 35 = .ok (.putfield 9, 3) := by decide +kernel
theorem dd_jdk_42_method_150_38 : decode jdk_42_method_150_code 38 = .ok (.goto 59, 3) := by decide +kernel
theorem dd_jdk_42_method_150_97 : decode jdk_42_method_150_code 97 = .ok (.return_, 1) := by decide +kernel
theorem ef_own_sxa (m : MethodId) (x0 : Addr) (x1 : Addr) : entryFrame m #[(.ref x0), (.ref x1), .null] 5 = mkF m 0 #[.val (.ref x0), .val (.ref x1), .val .null, .unset, .unset] [] := by first | (simp [entryFrame, mkF, argsToLocals, Value.category]; done) | rfl
set_option maxRecDepth 65536 in
set_option maxHeartbeats 40000000 in
theorem own_sxa (l : Launch) (Z : State) (a0 : Array Value) (hw : ∀ d ∈ tables_1, d.before a0 Z = true) (EWf : own_EW Z own_EL) (n0 : Nat) (x b : Addr) (cs : List Int32) (N : Nat) (h0 : Heap) (O0 : Old Z n0 h0) (n_x : n0 ≤ x) (p_Ex : Exa Z h0 x "java/lang/String") (p_Vx : Fld Z h0 x "java/lang/String" "value" "[B" .null) (p_Cx : Fld Z h0 x "java/lang/String" "coder" "B" (.int 0)) (p_B : own_SB Z N h0 b cs) (hp : ∀ c ∈ cs, ¬ c < 0 ∧ ¬ (255 : Int32) < c) (CS : own_CS Z) :
    own_Met l Z own_EL [x] false n0 (⟨"java/lang/String", "<init>", "(Ljava/lang/AbstractStringBuilder;Ljava/lang/Void;)V"⟩ : MethodName) jdk_42_method_150_code 5 none ({ frames := 3, cells := 1, slots := 34, locals := 51 } : Room) #[(.ref x), (.ref b), .null] h0 (fun v h => v = none ∧ Keep h0 h [x] ∧ ∃ t, own_Str Z h x t cs) := by
  refine own_enter (own := "java/lang/String") (nm := "<init>") (plainFor_of_name pn_2) rfl rfl O0 EWf ?_
  have W : ∀ (k : Nat) {d : Jvm.Cond}, tables_1[k]? = some d → d.before a0 Z = true := fun k d q => hw d (List.mem_of_getElem? q)
  intro G p e s m below meth c T0 hGe X0
  rw [ef_own_sxa m x b]
  obtain ⟨a, k, r, p_R⟩ := p_B
  obtain ⟨⟨p_E, p_V, p_C, p_N⟩, p_A, l_c, l_m, n_a, n_b, p_K⟩ := p_R
  have l_b := own_bsl cs
  have l_n : (own_bs cs ++ r).length = cs.length + r.length := by rw [List.length_append, own_bsl]
  refine own_aload_n (pc' := 1) X0 dd_jdk_42_method_150_0 rfl rfl rfl ?_
  refine own_initO (pc' := 4) (W := 0) X0 (W 12 rfl) (W 13 rfl) (W 14 rfl) rfl dd_jdk_42_method_150_1 rfl (by decide) rfl (by decide) ?_
  intro T1 X1
  refine own_aload_n (pc' := 5) X1 dd_jdk_42_method_150_4 rfl rfl rfl ?_
  refine own_callVM (pc' := 8) (cells' := 0) (slots' := 0) (argsL := []) (rest := []) (W := 0) (y := (⟨"java/lang/AbstractStringBuilder", "getValue", "()[B"⟩ : MethodName)) (z := (⟨"java/lang/AbstractStringBuilder", "getValue", "()[B"⟩ : MethodName)) (a := b) X1 (W 156 rfl) (W 157 rfl) (fun s' hZ' => notFace_of_selects (args := #[]) (mvT hZ' (W 159 rfl))) (W 159 rfl) (W 158 rfl) (by decide) p_E (own_gv l Z a0 hw EWf n0 b a h0 (own_old X1) p_V) all0 (W 160 rfl) (W 64 rfl) (by decide) (by decide) rfl (lenOf pd_16 rfl) rfl rfl dd_jdk_42_method_150_5 rfl rfl rfl rfl (by decide) (by decide) ?_
  intro v2 T2 h2 s2 X2 q2 r2
  obtain ⟨rfl, rfl⟩ := q2
  show G T2 (mkF m 8 #[.val (.ref x), .val (.ref b), .val .null, .unset, .unset] [(.ref a)])
  refine own_astore_n (pc' := 9) X2 dd_jdk_42_method_150_8 rfl rfl (Ls' := #[.val (.ref x), .val (.ref b), .val .null, .val (.ref a), .unset]) rfl ?_
  refine own_aload_n (pc' := 10) X2 dd_jdk_42_method_150_9 rfl rfl rfl ?_
  refine own_callVM (pc' := 13) (cells' := 0) (slots' := 0) (argsL := []) (rest := []) (W := 0) (y := (⟨"java/lang/AbstractStringBuilder", "length", "()I"⟩ : MethodName)) (z := (⟨"java/lang/StringBuilder", "length", "()I"⟩ : MethodName)) (a := b) X2 (W 161 rfl) (W 162 rfl) (fun s' hZ' => own_nfs (mvT hZ' (W 138 rfl)) rfl) (W 164 rfl) (W 165 rfl) (by decide) p_E (own_sbl l Z a0 hw EWf n0 b (Int32.ofNat cs.length) h0 (own_old X2) p_E p_N) all0 (W 166 rfl) (W 56 rfl) (by decide) (by decide) rfl (lenOf pd_8 rfl) rfl rfl dd_jdk_42_method_150_10 rfl rfl rfl rfl (by decide) (by decide) ?_
  intro v3 T3 h3 s3 X3 q3 r3
  obtain ⟨rfl, rfl⟩ := q3
  show G T3 (mkF m 13 #[.val (.ref x), .val (.ref b), .val .null, .val (.ref a), .unset] [(.int (Int32.ofNat cs.length))])
  refine own_istore (pc' := 15) X3 dd_jdk_42_method_150_13 rfl (Ls' := #[.val (.ref x), .val (.ref b), .val .null, .val (.ref a), .val (.int (Int32.ofNat cs.length))]) rfl ?_
  refine own_aload_n (pc' := 16) X3 dd_jdk_42_method_150_15 rfl rfl rfl ?_
  refine own_callVM (pc' := 19) (cells' := 0) (slots' := 0) (argsL := []) (rest := []) (W := 0) (y := (⟨"java/lang/AbstractStringBuilder", "isLatin1", "()Z"⟩ : MethodName)) (z := (⟨"java/lang/AbstractStringBuilder", "isLatin1", "()Z"⟩ : MethodName)) (a := b) X3 (W 169 rfl) (W 136 rfl) (fun s' hZ' => notFace_of_selects (args := #[]) (mvT hZ' (W 138 rfl))) (W 138 rfl) (W 137 rfl) (by decide) p_E (own_isl l Z a0 hw EWf n0 b h0 (own_old X3) p_C CS) all0 (W 139 rfl) (W 64 rfl) (by decide) (by decide) rfl (lenOf pd_11 rfl) rfl rfl dd_jdk_42_method_150_16 rfl rfl rfl rfl (by decide) (by decide) ?_
  intro v4 T4 h4 s4 X4 q4 r4
  obtain ⟨rfl, rfl⟩ := q4
  show G T4 (mkF m 19 #[.val (.ref x), .val (.ref b), .val .null, .val (.ref a), .val (.int (Int32.ofNat cs.length))] [(.int (1 : Int32))])
  refine own_ifN (pc' := 22) X4 dd_jdk_42_method_150_19 rfl ((feq (by decide)).1) ?_
  refine own_aload_n (pc' := 23) X4 dd_jdk_42_method_150_22 rfl rfl rfl ?_
  refine own_iconst (pc' := 24) X4 dd_jdk_42_method_150_23 rfl (z := (0 : Int32)) (by decide) ?_
  refine own_put (pc' := 27) X4 (host := "") (Or.inl (W 27 rfl)) Via.refl p_Cx p_Ex (Or.inr ⟨(W 28 rfl), rfl, rfl⟩) (W 2 rfl) (ty := .byte) (by decide) rfl rfl n_x (Or.inr (List.mem_of_getElem? (i := 0) rfl)) dd_jdk_42_method_150_24 rfl ?_
  intro T5 h5 X5 W5 K5
  have f5_ := p_Cx.same W5
  refine own_aload_n (pc' := 28) X5 dd_jdk_42_method_150_27 rfl rfl rfl ?_
  refine own_aload_n (pc' := 29) X5 dd_jdk_42_method_150_28 rfl rfl rfl ?_
  refine own_iconst (pc' := 30) X5 dd_jdk_42_method_150_29 rfl (z := (0 : Int32)) (by decide) ?_
  refine own_iload (pc' := 32) X5 dd_jdk_42_method_150_30 rfl rfl ?_
  have ne_x_a : x ≠ a := own_neA p_Ex (W 2 rfl) p_A
  have f6 := (p_A.keep K5 (ninS (Ne.symm ne_x_a) nin0))
  have f7 := (p_K.keep K5)
  refine own_callSM (pc' := 35) (cells' := 1) (slots' := 34) (argsL := [(.ref a), (.int (0 : Int32)), (.int (Int32.ofNat cs.length))]) (rest := [(.ref x)]) (W := 1) (y := (⟨"java/util/Arrays", "copyOfRange", "([BII)[B"⟩ : MethodName)) X5 (W 170 rfl) (W 171 rfl) (by decide) (own_cor l Z a0 hw EWf n0 a k (own_bs cs ++ r) cs.length h5 (own_old X5) f6 (by omega) (by omega) f7) all0 (W 173 rfl) (W 172 rfl) (by decide) (by decide) rfl (lenOf pd_15 rfl) rfl rfl dd_jdk_42_method_150_32 rfl rfl rfl rfl (by decide) (by decide) ?_
  intro v8 T8 h8 s8 X8 q8 r8
  obtain ⟨d8, k8, rfl, K8, z8, A8, E8⟩ := q8
  have X8' := own_addP X8 (r8 rfl d8 rfl)
  show G T8 (mkF m 35 #[.val (.ref x), .val (.ref b), .val .null, .val (.ref a), .val (.int (Int32.ofNat cs.length))] [(.ref d8), (.ref x)])
  have f9 := ((p_Vx.other W5 (Or.inr (slot_ne (Or.inr (W 30 rfl)) (Or.inr (W 28 rfl)) (by decide) (t := (.array .byte)) (t' := .byte) (by decide) (by decide)))).keep K8 nin0)
  have f10 := ((p_Ex.keep K5).keep K8)
  refine own_put (pc' := 38) X8' (host := "") (Or.inl (W 29 rfl)) Via.refl f9 f10 (Or.inr ⟨(W 30 rfl), rfl, rfl⟩) (W 2 rfl) (ty := (.array .byte)) (by decide) rfl rfl n_x (Or.inr (List.mem_of_getElem? (i := 1) rfl)) dd_jdk_42_method_150_35 rfl ?_
  intro T11 h11 X11 W11 K11
  have f11_ := f9.same W11
  refine own_goto (pc' := 97) X11 dd_jdk_42_method_150_38 (by decide) (by decide) ?_
  have f12 := (f10.keep K11)
  have f13 := ((f5_.keep K8 nin0).other W11 (Or.inr (slot_ne (Or.inr (W 28 rfl)) (Or.inr (W 30 rfl)) (by decide) (t := .byte) (t' := (.array .byte)) (by decide) (by decide))))
  have ne_x_d8 : x ≠ d8 := own_ne p_Ex.lt (Nat.le_trans K5.1 (Nat.le_refl _)) z8
  have f14 := (A8.keep K11 (ninS (Ne.symm ne_x_d8) nin0))
  exact own_retV X11 hGe rfl dd_jdk_42_method_150_97 (by decide) (by decide) ⟨rfl, ((((Keep.refl h0 [x]).trans K5 (allS (Or.inl (List.mem_of_getElem? (i := 0) rfl)) all0)).trans K8 all0).trans K11 (allS (Or.inl (List.mem_of_getElem? (i := 0) rfl)) all0)), d8, own_StrLit f12 f11_ f13 f14 (List.take_left' l_b).symm hp (by omega)⟩
theorem dd_jdk_42_method_53_0 : decode jdk_42_method_53_code 0 = .ok (.aload_n 0, 1) := by decide +kernel
theorem dd_jdk_42_method_53_1 : decode jdk_42_method_53_code 1 = .ok (.aload_n 1, 1) := by decide +kernel
theorem dd_jdk_42_method_53_2 : decode jdk_42_method_53_code 2 = .ok (.aconst_null, 1) := by decide +kernel
theorem dd_jdk_42_method_53_3 : decode jdk_42_method_53_code 3 = .ok (.invokespecial 489, 3) := by decide +kernel
theorem pd_17 : parseMethodDescriptor "(Ljava/lang/AbstractStringBuilder;Ljava/lang/Void;)V" = some ⟨[(.object "java/lang/AbstractStringBuilder"), (.object "java/lang/Void")], none⟩ := by decide +kernel
theorem dd_jdk_42_method_53_6 : decode jdk_42_method_53_code 6 = .ok (.return_, 1) := by decide +kernel
theorem ef_own_sxb (m : MethodId) (x0 : Addr) (x1 : Addr) : entryFrame m #[(.ref x0), (.ref x1)] 2 = mkF m 0 #[.val (.ref x0), .val (.ref x1)] [] := by first | (simp [entryFrame, mkF, argsToLocals, Value.category]; done) | rfl
set_option maxRecDepth 65536 in
set_option maxHeartbeats 40000000 in
theorem own_sxb (l : Launch) (Z : State) (a0 : Array Value) (hw : ∀ d ∈ tables_1, d.before a0 Z = true) (EWf : own_EW Z own_EL) (n0 : Nat) (x b : Addr) (cs : List Int32) (N : Nat) (h0 : Heap) (O0 : Old Z n0 h0) (n_x : n0 ≤ x) (p_Ex : Exa Z h0 x "java/lang/String") (p_Vx : Fld Z h0 x "java/lang/String" "value" "[B" .null) (p_Cx : Fld Z h0 x "java/lang/String" "coder" "B" (.int 0)) (p_B : own_SB Z N h0 b cs) (hp : ∀ c ∈ cs, ¬ c < 0 ∧ ¬ (255 : Int32) < c) (CS : own_CS Z) :
    own_Met l Z own_EL [x] false n0 (⟨"java/lang/String", "<init>", "(Ljava/lang/StringBuilder;)V"⟩ : MethodName) jdk_42_method_53_code 2 none ({ frames := 4, cells := 1, slots := 34, locals := 67 } : Room) #[(.ref x), (.ref b)] h0 (fun v h => v = none ∧ Keep h0 h [x] ∧ ∃ t, own_Str Z h x t cs) := by
  refine own_enter (own := "java/lang/String") (nm := "<init>") (plainFor_of_name pn_2) rfl rfl O0 EWf ?_
  have W : ∀ (k : Nat) {d : Jvm.Cond}, tables_1[k]? = some d → d.before a0 Z = true := fun k d q => hw d (List.mem_of_getElem? q)
  intro G p e s m below meth c T0 hGe X0
  rw [ef_own_sxb m x b]
  refine own_aload_n (pc' := 1) X0 dd_jdk_42_method_53_0 rfl rfl rfl ?_
  refine own_aload_n (pc' := 2) X0 dd_jdk_42_method_53_1 rfl rfl rfl ?_
  refine own_aconst_null (pc' := 3) X0 dd_jdk_42_method_53_2 rfl ?_
  refine own_callIM (pc' := 6) (cells' := 1) (slots' := 34) (argsL := [(.ref b), .null]) (rest := []) (W := 0) (y := (⟨"java/lang/String", "<init>", "(Ljava/lang/AbstractStringBuilder;Ljava/lang/Void;)V"⟩ : MethodName)) (a := x) X0 (W 153 rfl) (W 154 rfl) rfl (by decide) (own_sxa l Z a0 hw EWf n0 x b cs N h0 (own_old X0) n_x p_Ex p_Vx p_Cx p_B hp CS) (allS (List.mem_of_getElem? (i := 0) rfl) all0) (W 155 rfl) (W 3 rfl) (by decide) (by decide) rfl (lenOf pd_17 rfl) rfl rfl dd_jdk_42_method_53_3 rfl rfl rfl rfl (by decide) (by decide) ?_
  intro v1 T1 h1 s1 X1 q1 r1
  obtain ⟨rfl, K1, t1, S1⟩ := q1
  show G T1 (mkF m 6 #[.val (.ref x), .val (.ref b)] [])
  exact own_retV X1 hGe rfl dd_jdk_42_method_53_6 (by decide) (by decide) ⟨rfl, ((Keep.refl h0 [x]).trans K1 (allS (Or.inl (List.mem_of_getElem? (i := 0) rfl)) all0)), t1, S1⟩
theorem dd_jdk_67_method_42_0 : decode jdk_67_method_42_code 0 = .ok (.new 18, 3) := by decide +kernel
theorem dd_jdk_67_method_42_3 : decode jdk_67_method_42_code 3 = .ok (.dup, 1) := by decide +kernel
theorem dd_jdk_67_method_42_4 : decode jdk_67_method_42_code 4 = .ok (.aload_n 0, 1) := by decide +kernel
theorem dd_jdk_67_method_42_5 : decode jdk_67_method_42_code 5 = .ok (.invokespecial 137, 3) := by decide +kernel
theorem pd_18 : parseMethodDescriptor "(Ljava/lang/StringBuilder;)V" = some ⟨[(.object "java/lang/StringBuilder")], none⟩ := by decide +kernel
theorem dd_jdk_67_method_42_8 : decode jdk_67_method_42_code 8 = .ok (.areturn, 1) := by decide +kernel
theorem ef_own_sts (m : MethodId) (x0 : Addr) : entryFrame m #[(.ref x0)] 1 = mkF m 0 #[.val (.ref x0)] [] := by first | (simp [entryFrame, mkF, argsToLocals, Value.category]; done) | rfl
set_option maxRecDepth 65536 in
set_option maxHeartbeats 40000000 in
theorem own_sts (l : Launch) (Z : State) (a0 : Array Value) (hw : ∀ d ∈ tables_1, d.before a0 Z = true) (EWf : own_EW Z own_EL) (n0 : Nat) (b : Addr) (cs : List Int32) (N : Nat) (h0 : Heap) (O0 : Old Z n0 h0) (p_B : own_SB Z N h0 b cs) (hp : ∀ c ∈ cs, ¬ c < 0 ∧ ¬ (255 : Int32) < c) (CS : own_CS Z) :
    own_Met l Z own_EL [] false n0 (⟨"java/lang/StringBuilder", "toString", "()Ljava/lang/String;"⟩ : MethodName) jdk_67_method_42_code 1 (some (.object "java/lang/String")) ({ frames := 5, cells := 2, slots := 38, locals := 81 } : Room) #[(.ref b)] h0 (fun v h => ∃ x t : Addr, v = some (.ref x) ∧ Keep h0 h [] ∧ own_Str Z h x t cs) := by
  refine own_enter (own := "java/lang/StringBuilder") (nm := "toString") (plainFor_of_name pn_1) rfl rfl O0 EWf ?_
  have W : ∀ (k : Nat) {d : Jvm.Cond}, tables_1[k]? = some d → d.before a0 Z = true := fun k d q => hw d (List.mem_of_getElem? q)
  intro G p e s m below meth c T0 hGe X0
  rw [ef_own_sts m b]
  refine own_newK (pc' := 3) (cells' := 1) (slots' := 4) X0 (W 149 rfl) (W 2 rfl) (W 3 rfl) dd_jdk_67_method_42_0 rfl rfl rfl (by decide) (by decide) ?_
  intro T1 h1 a1 g1 X1 K1 E1 D1 U1
  have n_a1 : n0 ≤ a1 := by rw [g1]; exact own_n0 X0
  have F1_coder : Fld Z h1 a1 "java/lang/String" "coder" "B" (.int (0 : Int32)) := D1 (Or.inr (W 28 rfl)) (ty := .byte) (by decide)
  have F1_value : Fld Z h1 a1 "java/lang/String" "value" "[B" .null := D1 (Or.inr (W 30 rfl)) (ty := (.array .byte)) (by decide)
  refine own_dup (pc' := 4) X1 dd_jdk_67_method_42_3 rfl rfl ?_
  refine own_aload_n (pc' := 5) X1 dd_jdk_67_method_42_4 rfl rfl rfl ?_
  have f2 := (p_B.keep K1)
  refine own_callIM (pc' := 8) (cells' := 2) (slots' := 38) (argsL := [(.ref b)]) (rest := [(.ref a1)]) (W := 1) (y := (⟨"java/lang/String", "<init>", "(Ljava/lang/StringBuilder;)V"⟩ : MethodName)) (a := a1) X1 (W 150 rfl) (W 151 rfl) rfl (by decide) (own_sxb l Z a0 hw EWf n0 a1 b cs N h1 (own_old X1) n_a1 E1 F1_value F1_coder f2 hp CS) (allS (List.mem_of_getElem? (i := 0) rfl) all0) (W 152 rfl) (W 3 rfl) (by decide) (by decide) rfl (lenOf pd_18 rfl) rfl rfl dd_jdk_67_method_42_5 rfl rfl rfl rfl (by decide) (by decide) ?_
  intro v3 T3 h3 s3 X3 q3 r3
  obtain ⟨rfl, K3, t3, S3⟩ := q3
  show G T3 (mkF m 8 #[.val (.ref b)] [(.ref a1)])
  have age_a1 : h0.size ≤ a1 := Nat.le_trans (Nat.le_refl _) (Nat.le_of_eq (Eq.symm g1))
  exact own_ret X3 hGe (t := (.object "java/lang/String")) rfl rfl (Or.inr (Or.inr (Or.inr (Or.inr ⟨rfl, rfl, rfl⟩)))) dd_jdk_67_method_42_8 (by decide) (by decide) ⟨a1, t3, rfl, (((Keep.refl h0 []).trans K1 all0).trans K3 (allS (Or.inr age_a1) all0)), S3⟩ nofun
theorem dd_jdk_30_method_1_0 : decode jdk_30_method_1_code 0 = .ok (.aload_n 0, 1) := by decide +kernel
theorem dd_jdk_30_method_1_1 : decode jdk_30_method_1_code 1 = .ok (.invokespecial 1, 3) := by decide +kernel
theorem dd_jdk_30_method_1_4 : decode jdk_30_method_1_code 4 = .ok (.return_, 1) := by decide +kernel
theorem pn_8 : plainName "java/lang/Record" = true := by first | (simp [plainName, overriddenIn]; done) | decide +kernel
theorem ef_own_rec (m : MethodId) (x0 : Addr) : entryFrame m #[(.ref x0)] 1 = mkF m 0 #[.val (.ref x0)] [] := by first | (simp [entryFrame, mkF, argsToLocals, Value.category]; done) | rfl
set_option maxRecDepth 65536 in
set_option maxHeartbeats 40000000 in
theorem own_rec (l : Launch) (Z : State) (a0 : Array Value) (hw : ∀ d ∈ tables_1, d.before a0 Z = true) (EWf : own_EW Z own_EL) (n0 : Nat) (o : Addr) (h0 : Heap) (O0 : Old Z n0 h0)  :
    own_Met l Z own_EL [] false n0 (⟨"java/lang/Record", "<init>", "()V"⟩ : MethodName) jdk_30_method_1_code 1 none ({ frames := 1, cells := 0, slots := 0, locals := 12 } : Room) #[(.ref o)] h0 (fun v h => v = none ∧ h0 = h) := by
  refine own_enter (own := "java/lang/Record") (nm := "<init>") (plainFor_of_name pn_8) rfl rfl O0 EWf ?_
  have W : ∀ (k : Nat) {d : Jvm.Cond}, tables_1[k]? = some d → d.before a0 Z = true := fun k d q => hw d (List.mem_of_getElem? q)
  intro G p e s m below meth c T0 hGe X0
  rw [ef_own_rec m o]
  refine own_aload_n (pc' := 1) X0 dd_jdk_30_method_1_0 rfl rfl rfl ?_
  refine own_initO (pc' := 4) (W := 0) X0 (W 42 rfl) (W 13 rfl) (W 14 rfl) rfl dd_jdk_30_method_1_1 rfl (by decide) rfl (by decide) ?_
  intro T1 X1
  exact own_retV X1 hGe rfl dd_jdk_30_method_1_4 (by decide) (by decide) ⟨rfl, rfl⟩
theorem dd_prog_10_method_1_0 : decode prog_10_method_1_code 0 = .ok (.aload_n 0, 1) := by decide +kernel
theorem dd_prog_10_method_1_1 : decode prog_10_method_1_code 1 = .ok (.invokespecial 1, 3) := by decide +kernel
theorem pd_19 : parseMethodDescriptor "()V" = some ⟨[], none⟩ := by decide +kernel
theorem dd_prog_10_method_1_4 : decode prog_10_method_1_code 4 = .ok (.aload_n 0, 1) := by decide +kernel
theorem dd_prog_10_method_1_5 : decode prog_10_method_1_code 5 = .ok (.aload_n 1, 1) := by decide +kernel
theorem dd_prog_10_method_1_6 : decode prog_10_method_1_code 6 = .ok (.putfield 7, 3) := by decide +kernel
theorem dd_prog_10_method_1_9 : decode prog_10_method_1_code 9 = .ok (.aload_n 0, 1) := by decide +kernel
theorem dd_prog_10_method_1_10 : decode prog_10_method_1_code 10 = .ok (.iload_n 2, 1) := by decide +kernel
theorem dd_prog_10_method_1_11 : decode prog_10_method_1_code 11 = .ok (.putfield 13, 3) := by decide +kernel
theorem dd_prog_10_method_1_14 : decode prog_10_method_1_code 14 = .ok (.aload_n 0, 1) := by decide +kernel
theorem dd_prog_10_method_1_15 : decode prog_10_method_1_code 15 = .ok (.iload_n 3, 1) := by decide +kernel
theorem dd_prog_10_method_1_16 : decode prog_10_method_1_code 16 = .ok (.putfield 17, 3) := by decide +kernel
theorem dd_prog_10_method_1_19 : decode prog_10_method_1_code 19 = .ok (.return_, 1) := by decide +kernel
theorem pn_9 : plainName "com/example/tributary/tributary/Location" = true := by first | (simp [plainName, overriddenIn]; done) | decide +kernel
theorem ef_own_loci (m : MethodId) (x0 : Addr) (x1 : Addr) (x2 : Int32) (x3 : Int32) : entryFrame m #[(.ref x0), (.ref x1), (.int x2), (.int x3)] 4 = mkF m 0 #[.val (.ref x0), .val (.ref x1), .val (.int x2), .val (.int x3)] [] := by first | (simp [entryFrame, mkF, argsToLocals, Value.category]; done) | rfl
set_option maxRecDepth 65536 in
set_option maxHeartbeats 40000000 in
theorem own_loci (l : Launch) (Z : State) (a0 : Array Value) (hw : ∀ d ∈ tables_1, d.before a0 Z = true) (EWf : own_EW Z own_EL) (n0 : Nat) (o x : Addr) (i j : Int32) (h0 : Heap) (O0 : Old Z n0 h0) (n_o : n0 ≤ o) (p_L : (Exa Z h0 o "com/example/tributary/tributary/Location" ∧ Fld Z h0 o "com/example/tributary/tributary/Location" "file" "Ljava/lang/String;" .null ∧ Fld Z h0 o "com/example/tributary/tributary/Location" "line" "I" (.int 0) ∧ Fld Z h0 o "com/example/tributary/tributary/Location" "column" "I" (.int 0))) :
    own_Met l Z own_EL [] false n0 (⟨"com/example/tributary/tributary/Location", "<init>", "(Ljava/lang/String;II)V"⟩ : MethodName) prog_10_method_1_code 4 none ({ frames := 2, cells := 0, slots := 0, locals := 24 } : Room) #[(.ref o), (.ref x), (.int i), (.int j)] h0 (fun v h => v = none ∧ Keep h0 h [o] ∧ (Exa Z h o "com/example/tributary/tributary/Location" ∧ Fld Z h o "com/example/tributary/tributary/Location" "file" "Ljava/lang/String;" (.ref x) ∧ Fld Z h o "com/example/tributary/tributary/Location" "line" "I" (.int i) ∧ Fld Z h o "com/example/tributary/tributary/Location" "column" "I" (.int j))) := by
  refine own_enter (own := "com/example/tributary/tributary/Location") (nm := "<init>") (plainFor_of_name pn_9) rfl rfl O0 EWf ?_
  have W : ∀ (k : Nat) {d : Jvm.Cond}, tables_1[k]? = some d → d.before a0 Z = true := fun k d q => hw d (List.mem_of_getElem? q)
  intro G p e s m below meth c T0 hGe X0
  rw [ef_own_loci m o x i j]
  refine own_aload_n (pc' := 1) X0 dd_prog_10_method_1_0 rfl rfl rfl ?_
  refine own_callIM (pc' := 4) (cells' := 0) (slots' := 0) (argsL := []) (rest := []) (W := 0) (y := (⟨"java/lang/Record", "<init>", "()V"⟩ : MethodName)) (a := o) X0 (W 37 rfl) (W 38 rfl) rfl (by decide) (own_rec l Z a0 hw EWf n0 o h0 (own_old X0) ) all0 (W 41 rfl) (W 40 rfl) (by decide) (by decide) rfl (lenOf pd_19 rfl) rfl rfl dd_prog_10_method_1_1 rfl rfl rfl rfl (by decide) (by decide) ?_
  intro v1 T1 h1 s1 X1 q1 r1
  obtain ⟨rfl, rfl⟩ := q1
  show G T1 (mkF m 4 #[.val (.ref o), .val (.ref x), .val (.int i), .val (.int j)] [])
  refine own_aload_n (pc' := 5) X1 dd_prog_10_method_1_4 rfl rfl rfl ?_
  refine own_aload_n (pc' := 6) X1 dd_prog_10_method_1_5 rfl rfl rfl ?_
  refine own_put (pc' := 9) X1 (host := "") (Or.inl (W 43 rfl)) Via.refl p_L.2.1 p_L.1 (Or.inr ⟨(W 44 rfl), rfl, rfl⟩) (W 32 rfl) (ty := (.object "java/lang/String")) (by decide) rfl rfl n_o (Or.inl ⟨by decide, by decide⟩) dd_prog_10_method_1_6 rfl ?_
  intro T2 h2 X2 W2 K2
  have f2_ := p_L.2.1.same W2
  refine own_aload_n (pc' := 10) X2 dd_prog_10_method_1_9 rfl rfl rfl ?_
  refine own_iload_n (pc' := 11) X2 dd_prog_10_method_1_10 rfl rfl ?_
  have f3 := (p_L.2.2.1.other W2 (Or.inr (slot_ne (Or.inr (W 46 rfl)) (Or.inr (W 44 rfl)) (by decide) (t := .int) (t' := (.object "java/lang/String")) (by decide) (by decide))))
  have f4 := (p_L.1.keep K2)
  refine own_put (pc' := 14) X2 (host := "") (Or.inl (W 45 rfl)) Via.refl f3 f4 (Or.inr ⟨(W 46 rfl), rfl, rfl⟩) (W 32 rfl) (ty := .int) (by decide) rfl rfl n_o (Or.inl ⟨by decide, by decide⟩) dd_prog_10_method_1_11 rfl ?_
  intro T5 h5 X5 W5 K5
  have f5_ := f3.same W5
  refine own_aload_n (pc' := 15) X5 dd_prog_10_method_1_14 rfl rfl rfl ?_
  refine own_iload_n (pc' := 16) X5 dd_prog_10_method_1_15 rfl rfl ?_
  have f6 := ((p_L.2.2.2.other W2 (Or.inr (slot_ne (Or.inr (W 48 rfl)) (Or.inr (W 44 rfl)) (by decide) (t := .int) (t' := (.object "java/lang/String")) (by decide) (by decide)))).other W5 (Or.inr (slot_ne (Or.inr (W 48 rfl)) (Or.inr (W 46 rfl)) (by decide) (t := .int) (t' := .int) (by decide) (by decide))))
  have f7 := (f4.keep K5)
  refine own_put (pc' := 19) X5 (host := "") (Or.inl (W 47 rfl)) Via.refl f6 f7 (Or.inr ⟨(W 48 rfl), rfl, rfl⟩) (W 32 rfl) (ty := .int) (by decide) rfl rfl n_o (Or.inl ⟨by decide, by decide⟩) dd_prog_10_method_1_16 rfl ?_
  intro T8 h8 X8 W8 K8
  have f8_ := f6.same W8
  have f9 := (f7.keep K8)
  have f10 := ((f2_.other W5 (Or.inr (slot_ne (Or.inr (W 44 rfl)) (Or.inr (W 46 rfl)) (by decide) (t := (.object "java/lang/String")) (t' := .int) (by decide) (by decide)))).other W8 (Or.inr (slot_ne (Or.inr (W 44 rfl)) (Or.inr (W 48 rfl)) (by decide) (t := (.object "java/lang/String")) (t' := .int) (by decide) (by decide))))
  have f11 := (f5_.other W8 (Or.inr (slot_ne (Or.inr (W 46 rfl)) (Or.inr (W 48 rfl)) (by decide) (t := .int) (t' := .int) (by decide) (by decide))))
  exact own_retV X8 hGe rfl dd_prog_10_method_1_19 (by decide) (by decide) ⟨rfl, ((((Keep.refl h0 [o]).trans K2 (allS (Or.inl (List.mem_of_getElem? (i := 0) rfl)) all0)).trans K5 (allS (Or.inl (List.mem_of_getElem? (i := 0) rfl)) all0)).trans K8 (allS (Or.inl (List.mem_of_getElem? (i := 0) rfl)) all0)), ⟨f9, f10, f11, f8_⟩⟩
theorem dd_prog_10_method_3_0 : decode prog_10_method_3_code 0 = .ok (.aload_n 0, 1) := by decide +kernel
theorem dd_prog_10_method_3_1 : decode prog_10_method_3_code 1 = .ok (.getfield 13, 3) := by decide +kernel
theorem dd_prog_10_method_3_4 : decode prog_10_method_3_code 4 = .ok (.ifCond .gt 8, 3) := by decide +kernel
theorem dd_prog_10_method_3_7 : decode prog_10_method_3_code 7 = .ok (.aload_n 0, 1) := by decide +kernel
theorem dd_prog_10_method_3_8 : decode prog_10_method_3_code 8 = .ok (.getfield 7, 3) := by decide +kernel
theorem dd_prog_10_method_3_11 : decode prog_10_method_3_code 11 = .ok (.areturn, 1) := by decide +kernel
theorem ef_own_tsA (m : MethodId) (x0 : Addr) : entryFrame m #[(.ref x0)] 1 = mkF m 0 #[.val (.ref x0)] [] := by first | (simp [entryFrame, mkF, argsToLocals, Value.category]; done) | rfl
set_option maxRecDepth 65536 in
set_option maxHeartbeats 40000000 in
theorem own_tsA (l : Launch) (Z : State) (a0 : Array Value) (hw : ∀ d ∈ tables_1, d.before a0 Z = true) (EWf : own_EW Z own_EL) (n0 : Nat) (o x : Addr) (i j : Int32) (h0 : Heap) (O0 : Old Z n0 h0) (p_L : (Exa Z h0 o "com/example/tributary/tributary/Location" ∧ Fld Z h0 o "com/example/tributary/tributary/Location" "file" "Ljava/lang/String;" (.ref x) ∧ Fld Z h0 o "com/example/tributary/tributary/Location" "line" "I" (.int i) ∧ Fld Z h0 o "com/example/tributary/tributary/Location" "column" "I" (.int j))) (p_i : ¬ 0 < i) :
    own_Met l Z own_EL [] false n0 (⟨"com/example/tributary/tributary/Location", "toString", "()Ljava/lang/String;"⟩ : MethodName) prog_10_method_3_code 1 (some (.object "java/lang/String")) ({ frames := 0, cells := 0, slots := 0, locals := 0 } : Room) #[(.ref o)] h0 (fun v h => v = some (.ref x) ∧ h0 = h) := by
  refine own_enter (own := "com/example/tributary/tributary/Location") (nm := "toString") (plainFor_of_name pn_9) rfl rfl O0 EWf ?_
  have W : ∀ (k : Nat) {d : Jvm.Cond}, tables_1[k]? = some d → d.before a0 Z = true := fun k d q => hw d (List.mem_of_getElem? q)
  intro G p e s m below meth c T0 hGe X0
  rw [ef_own_tsA m o]
  refine own_aload_n (pc' := 1) X0 dd_prog_10_method_3_0 rfl rfl rfl ?_
  refine own_get (pc' := 4) X0 (host := "") (Or.inl (W 45 rfl)) Via.refl p_L.2.2.1 dd_prog_10_method_3_1 rfl ?_
  intro T1 X1
  refine own_ifN (pc' := 7) X1 dd_prog_10_method_3_4 rfl ((flt p_i).2.2.1) ?_
  refine own_aload_n (pc' := 8) X1 dd_prog_10_method_3_7 rfl rfl rfl ?_
  refine own_get (pc' := 11) X1 (host := "") (Or.inl (W 43 rfl)) Via.refl p_L.2.1 dd_prog_10_method_3_8 rfl ?_
  intro T2 X2
  exact own_ret X2 hGe (t := (.object "java/lang/String")) rfl rfl (Or.inr (Or.inr (Or.inr (Or.inr ⟨rfl, rfl, rfl⟩)))) dd_prog_10_method_3_11 (by decide) (by decide) ⟨rfl, rfl⟩ nofun
theorem dd_prog_10_method_3_12 : decode prog_10_method_3_code 12 = .ok (.aload_n 0, 1) := by decide +kernel
theorem dd_prog_10_method_3_13 : decode prog_10_method_3_code 13 = .ok (.getfield 17, 3) := by decide +kernel
theorem dd_prog_10_method_3_16 : decode prog_10_method_3_code 16 = .ok (.ifCond .gt 35, 3) := by decide +kernel
theorem dd_prog_10_method_3_19 : decode prog_10_method_3_code 19 = .ok (.new 23, 3) := by decide +kernel
theorem dd_prog_10_method_3_22 : decode prog_10_method_3_code 22 = .ok (.dup, 1) := by decide +kernel
theorem dd_prog_10_method_3_23 : decode prog_10_method_3_code 23 = .ok (.invokespecial 25, 3) := by decide +kernel
theorem dd_prog_10_method_3_26 : decode prog_10_method_3_code 26 = .ok (.aload_n 0, 1) := by decide +kernel
theorem dd_prog_10_method_3_27 : decode prog_10_method_3_code 27 = .ok (.getfield 7, 3) := by decide +kernel
theorem dd_prog_10_method_3_30 : decode prog_10_method_3_code 30 = .ok (.invokevirtual 26, 3) := by decide +kernel
theorem pd_20 : parseMethodDescriptor "(Ljava/lang/String;)Ljava/lang/StringBuilder;" = some ⟨[(.object "java/lang/String")], some (.object "java/lang/StringBuilder")⟩ := by decide +kernel
theorem dd_prog_10_method_3_33 : decode prog_10_method_3_code 33 = .ok (.ldc 30, 2) := by decide +kernel
theorem dd_prog_10_method_3_35 : decode prog_10_method_3_code 35 = .ok (.invokevirtual 26, 3) := by decide +kernel
theorem dd_prog_10_method_3_38 : decode prog_10_method_3_code 38 = .ok (.aload_n 0, 1) := by decide +kernel
theorem dd_prog_10_method_3_39 : decode prog_10_method_3_code 39 = .ok (.getfield 13, 3) := by decide +kernel
theorem dd_prog_10_method_3_42 : decode prog_10_method_3_code 42 = .ok (.invokevirtual 32, 3) := by decide +kernel
theorem pd_21 : parseMethodDescriptor "(I)Ljava/lang/StringBuilder;" = some ⟨[.int], some (.object "java/lang/StringBuilder")⟩ := by decide +kernel
theorem dd_prog_10_method_3_45 : decode prog_10_method_3_code 45 = .ok (.invokevirtual 35, 3) := by decide +kernel
theorem pd_22 : parseMethodDescriptor "()Ljava/lang/String;" = some ⟨[], some (.object "java/lang/String")⟩ := by decide +kernel
theorem dd_prog_10_method_3_48 : decode prog_10_method_3_code 48 = .ok (.goto 44, 3) := by decide +kernel
theorem dd_prog_10_method_3_92 : decode prog_10_method_3_code 92 = .ok (.areturn, 1) := by decide +kernel
theorem ef_own_tsB (m : MethodId) (x0 : Addr) : entryFrame m #[(.ref x0)] 1 = mkF m 0 #[.val (.ref x0)] [] := by first | (simp [entryFrame, mkF, argsToLocals, Value.category]; done) | rfl
set_option maxRecDepth 65536 in
set_option maxHeartbeats 40000000 in
theorem own_tsB (l : Launch) (Z : State) (a0 : Array Value) (hw : ∀ d ∈ tables_1, d.before a0 Z = true) (EWf : own_EW Z own_EL) (n0 : Nat) (o x t dn dt : Addr) (ds : List Int32) (v n : Nat) (j : Int32) (h0 : Heap) (O0 : Old Z n0 h0) (p_L : (Exa Z h0 o "com/example/tributary/tributary/Location" ∧ Fld Z h0 o "com/example/tributary/tributary/Location" "file" "Ljava/lang/String;" (.ref x) ∧ Fld Z h0 o "com/example/tributary/tributary/Location" "line" "I" (.int (Int32.ofNat v)) ∧ Fld Z h0 o "com/example/tributary/tributary/Location" "column" "I" (.int j))) (p_S : own_Str Z h0 x t ds) (hp : ∀ c ∈ ds, ¬ c < 0 ∧ ¬ (255 : Int32) < c) (p_d : ds.length ≤ 2) (p_0 : 0 < v) (p_1 : 1 ≤ n) (p_10 : n ≤ 10) (p_v : 10 ^ (n - 1) ≤ v) (p_w : v < 10 ^ n) (p_b : v < 2 ^ 31) (p_j : ¬ 0 < j) (DG : own_DG Z dn dt) (CS : own_CS Z) :
    own_Met l Z own_EL [] false n0 (⟨"com/example/tributary/tributary/Location", "toString", "()Ljava/lang/String;"⟩ : MethodName) prog_10_method_3_code 1 (some (.object "java/lang/String")) ({ frames := 6, cells := 9, slots := 168, locals := 93 } : Room) #[(.ref o)] h0 (fun v' h => ∃ x t : Addr, v' = some (.ref x) ∧ Keep h0 h [] ∧ own_Str Z h x t (([] ++ ds ++ [58]) ++ own_dg v n) ∧ ∀ c ∈ (([] ++ ds ++ [58]) ++ own_dg v n), ¬ c < 0 ∧ ¬ (255 : Int32) < c) := by
  refine own_enter (own := "com/example/tributary/tributary/Location") (nm := "toString") (plainFor_of_name pn_9) rfl rfl O0 EWf ?_
  have W : ∀ (k : Nat) {d : Jvm.Cond}, tables_1[k]? = some d → d.before a0 Z = true := fun k d q => hw d (List.mem_of_getElem? q)
  intro G p e s m below meth c T0 hGe X0
  rw [ef_own_tsB m o]
  refine own_aload_n (pc' := 1) X0 dd_prog_10_method_3_0 rfl rfl rfl ?_
  refine own_get (pc' := 4) X0 (host := "") (Or.inl (W 45 rfl)) Via.refl p_L.2.2.1 dd_prog_10_method_3_1 rfl ?_
  intro T1 X1
  refine own_ifY (pc' := 12) X1 dd_prog_10_method_3_4 ((tlt (own_i32lt (i := 0) p_0 p_b)).2.2.1) (by decide) (by decide) ?_
  refine own_aload_n (pc' := 13) X1 dd_prog_10_method_3_12 rfl rfl rfl ?_
  refine own_get (pc' := 16) X1 (host := "") (Or.inl (W 47 rfl)) Via.refl p_L.2.2.2 dd_prog_10_method_3_13 rfl ?_
  intro T2 X2
  refine own_ifN (pc' := 19) X2 dd_prog_10_method_3_16 rfl ((flt p_j).2.2.1) ?_
  refine own_new (pc' := 22) (cells' := 1) (slots' := 4) X2 (W 54 rfl) (W 55 rfl) (W 56 rfl) dd_prog_10_method_3_19 rfl rfl rfl (by decide) (by decide) ?_
  intro T3 h3 a3 g3 X3 K3 E3 D3 U3
  have n_a3 : n0 ≤ a3 := by rw [g3]; exact own_n0 X2
  have F3_value : Fld Z h3 a3 "java/lang/AbstractStringBuilder" "value" "[B" .null := D3 (Or.inl (W 69 rfl)) (ty := (.array .byte)) (by decide)
  have F3_coder : Fld Z h3 a3 "java/lang/AbstractStringBuilder" "coder" "B" (.int (0 : Int32)) := D3 (Or.inl (W 71 rfl)) (ty := .byte) (by decide)
  have F3_count : Fld Z h3 a3 "java/lang/AbstractStringBuilder" "count" "I" (.int (0 : Int32)) := D3 (Or.inl (W 93 rfl)) (ty := .int) (by decide)
  refine own_dup (pc' := 23) X3 dd_prog_10_method_3_22 rfl rfl ?_
  have age_a3 : h0.size ≤ a3 := Nat.le_trans (Nat.le_refl _) (Nat.le_of_eq (Eq.symm g3))
  refine own_callIM (pc' := 26) (cells' := 2) (slots' := 20) (argsL := []) (rest := [(.ref a3)]) (W := 1) (y := (⟨"java/lang/StringBuilder", "<init>", "()V"⟩ : MethodName)) (a := a3) X3 (W 57 rfl) (W 58 rfl) rfl (by decide) (own_sbi l Z a0 hw EWf n0 a3 h0.size h3 (own_old X3) age_a3 (own_n0 X0) (Nat.le_trans K3.1 (Nat.le_refl _)) E3 F3_value F3_coder F3_count CS) all0 (W 59 rfl) (W 56 rfl) (by decide) (by decide) rfl (lenOf pd_19 rfl) rfl rfl dd_prog_10_method_3_23 rfl rfl rfl rfl (by decide) (by decide) ?_
  intro v4 T4 h4 s4 X4 q4 r4
  obtain ⟨rfl, K4, S4⟩ := q4
  show G T4 (mkF m 26 #[.val (.ref o)] [(.ref a3)])
  refine own_aload_n (pc' := 27) X4 dd_prog_10_method_3_26 rfl rfl rfl ?_
  have ne_o_a3 : o ≠ a3 := own_ne p_L.1.lt (Nat.le_refl _) (Nat.le_of_eq (Eq.symm g3))
  have f5 := ((p_L.2.1.keep K3 nin0).keep K4 (ninS ne_o_a3 nin0))
  refine own_get (pc' := 30) X4 (host := "") (Or.inl (W 43 rfl)) Via.refl f5 dd_prog_10_method_3_27 rfl ?_
  intro T6 X6
  have ne_x_a3 : x ≠ a3 := own_ne p_S.lt (Nat.le_refl _) (Nat.le_of_eq (Eq.symm g3))
  have ne_t_a3 : t ≠ a3 := own_ne p_S.ltt (Nat.le_refl _) (Nat.le_of_eq (Eq.symm g3))
  have f7 := ((p_S.keep K3 nin0 nin0).keep K4 (ninS ne_x_a3 nin0) (ninS ne_t_a3 nin0))
  have f9 := (E3.keep K4)
  refine own_callVM (pc' := 33) (cells' := 3) (slots' := 54) (argsL := [(.ref x)]) (rest := []) (W := 0) (y := (⟨"java/lang/StringBuilder", "append", "(Ljava/lang/String;)Ljava/lang/StringBuilder;"⟩ : MethodName)) (z := (⟨"java/lang/StringBuilder", "append", "(Ljava/lang/String;)Ljava/lang/StringBuilder;"⟩ : MethodName)) (a := a3) X6 (W 72 rfl) (W 73 rfl) (fun s' hZ' => notFace_of_selects (args := #[]) (mvT hZ' (W 75 rfl))) (W 75 rfl) (W 74 rfl) (by decide) f9 (own_sbs l Z a0 hw EWf n0 a3 x [] ds h0.size h4 (own_old X6) S4 (own_SL.of_str f7 (fun c q => (hp c q).2)) (by simp; omega) (own_n0 X0) (Nat.le_trans K3.1 (Nat.le_trans K4.1 (Nat.le_refl _))) CS) all0 (W 76 rfl) (W 56 rfl) (by decide) (by decide) rfl (lenOf pd_20 rfl) rfl rfl dd_prog_10_method_3_30 rfl rfl rfl rfl (by decide) (by decide) ?_
  intro v8 T8 h8 s8 X8 q8 r8
  obtain ⟨rfl, y8, o8, E8, K8, S8⟩ := q8
  show G T8 (mkF m 33 #[.val (.ref o)] [(.ref a3)])
  refine own_ldcR (pc' := 35) (cells' := 5) (slots' := 62) (n := 4) (text := ":") (vs := [(.int 58)]) X8 (W 119 rfl) (fun d hd => hw d (own_in_atoms d hd)) (List.mem_of_getElem? (i := 0) rfl) ⟨by decide, by decide⟩ (by decide) (by decide) (by decide) dd_prog_10_method_3_33 rfl rfl rfl (by decide) (by decide) ?_
  intro T10 h10 s10 a10 b10 k10 X10 K10 E10 Fc10 Fv10 A10 N10
  have f11 := (S8.keep K10)
  have f13 := ((f9.keep K8).keep K10)
  refine own_callVM (pc' := 38) (cells' := 6) (slots' := 96) (argsL := [(.ref a10)]) (rest := []) (W := 0) (y := (⟨"java/lang/StringBuilder", "append", "(Ljava/lang/String;)Ljava/lang/StringBuilder;"⟩ : MethodName)) (z := (⟨"java/lang/StringBuilder", "append", "(Ljava/lang/String;)Ljava/lang/StringBuilder;"⟩ : MethodName)) (a := a3) X10 (W 72 rfl) (W 73 rfl) (fun s' hZ' => notFace_of_selects (args := #[]) (mvT hZ' (W 75 rfl))) (W 75 rfl) (W 74 rfl) (by decide) f13 (own_sbs l Z a0 hw EWf n0 a3 a10 ([] ++ ds) [58] h0.size h10 (own_old X10) f11 ⟨b10, _, E10, Fv10, Fc10, by rw [show own_bs [58] = [.int 58] from by decide]; exact A10⟩ (by simp; omega) (own_n0 X0) (Nat.le_trans K3.1 (Nat.le_trans K4.1 (Nat.le_trans K8.1 (Nat.le_trans K10.1 (Nat.le_refl _))))) CS) all0 (W 76 rfl) (W 56 rfl) (by decide) (by decide) rfl (lenOf pd_20 rfl) rfl rfl dd_prog_10_method_3_35 rfl rfl rfl rfl (by decide) (by decide) ?_
  intro v12 T12 h12 s12 X12 q12 r12
  obtain ⟨rfl, y12, o12, E12, K12, S12⟩ := q12
  show G T12 (mkF m 38 #[.val (.ref o)] [(.ref a3)])
  refine own_aload_n (pc' := 39) X12 dd_prog_10_method_3_38 rfl rfl rfl ?_
  have ne_o_y8 : o ≠ y8 := own_ne p_L.1.lt (Nat.le_refl _) o8
  have ne_o_y12 : o ≠ y12 := own_ne p_L.1.lt (Nat.le_refl _) o12
  have f14 := (((((p_L.2.2.1.keep K3 nin0).keep K4 (ninS ne_o_a3 nin0)).keep K8 (ninS ne_o_a3 (ninS ne_o_y8 nin0))).keep K10 nin0).keep K12 (ninS ne_o_a3 (ninS ne_o_y12 nin0)))
  refine own_get (pc' := 42) X12 (host := "") (Or.inl (W 45 rfl)) Via.refl f14 dd_prog_10_method_3_39 rfl ?_
  intro T15 X15
  have f17 := (f13.keep K12)
  refine own_callVM (pc' := 45) (cells' := 7) (slots' := 130) (argsL := [(.int (Int32.ofNat v))]) (rest := []) (W := 0) (y := (⟨"java/lang/StringBuilder", "append", "(I)Ljava/lang/StringBuilder;"⟩ : MethodName)) (z := (⟨"java/lang/StringBuilder", "append", "(I)Ljava/lang/StringBuilder;"⟩ : MethodName)) (a := a3) X15 (W 122 rfl) (W 123 rfl) (fun s' hZ' => notFace_of_selects (args := #[]) (mvT hZ' (W 125 rfl))) (W 125 rfl) (W 124 rfl) (by decide) f17 (own_sbI l Z a0 hw EWf n0 a3 dn dt ([] ++ ds ++ [58]) v n h0.size h12 (own_old X15) S12 p_1 p_v p_w p_b (by simp; omega) (own_n0 X0) (Nat.le_trans K3.1 (Nat.le_trans K4.1 (Nat.le_trans K8.1 (Nat.le_trans K10.1 (Nat.le_trans K12.1 (Nat.le_refl _)))))) DG CS) all0 (W 126 rfl) (W 56 rfl) (by decide) (by decide) rfl (lenOf pd_21 rfl) rfl rfl dd_prog_10_method_3_42 rfl rfl rfl rfl (by decide) (by decide) ?_
  intro v16 T16 h16 s16 X16 q16 r16
  obtain ⟨rfl, y16, o16, E16, K16, S16⟩ := q16
  show G T16 (mkF m 45 #[.val (.ref o)] [(.ref a3)])
  have hA : ∀ c ∈ (([] ++ ds ++ [58]) ++ own_dg v n), ¬ c < 0 ∧ ¬ (255 : Int32) < c := own_allT (P := fun c => ¬ c < 0 ∧ ¬ (255 : Int32) < c) hp (by decide) (own_dgb v n)
  have f19 := (f17.keep K16)
  refine own_callVM (pc' := 48) (cells' := 9) (slots' := 168) (argsL := []) (rest := []) (W := 0) (y := (⟨"java/lang/StringBuilder", "toString", "()Ljava/lang/String;"⟩ : MethodName)) (z := (⟨"java/lang/StringBuilder", "toString", "()Ljava/lang/String;"⟩ : MethodName)) (a := a3) X16 (W 144 rfl) (W 145 rfl) (fun s' hZ' => notFace_of_selects (args := #[]) (mvT hZ' (W 147 rfl))) (W 147 rfl) (W 146 rfl) (by decide) f19 (own_sts l Z a0 hw EWf n0 a3 (([] ++ ds ++ [58]) ++ own_dg v n) h0.size h16 (own_old X16) S16 hA CS) all0 (W 148 rfl) (W 56 rfl) (by decide) (by decide) rfl (lenOf pd_22 rfl) rfl rfl dd_prog_10_method_3_45 rfl rfl rfl rfl (by decide) (by decide) ?_
  intro v18 T18 h18 s18 X18 q18 r18
  obtain ⟨x18, t18, rfl, K18, S18⟩ := q18
  show G T18 (mkF m 48 #[.val (.ref o)] [(.ref x18)])
  refine own_goto (pc' := 92) X18 dd_prog_10_method_3_48 (by decide) (by decide) ?_
  have age_y8 : h0.size ≤ y8 := Nat.le_trans (Nat.le_refl _) o8
  have age_y12 : h0.size ≤ y12 := Nat.le_trans (Nat.le_refl _) o12
  have age_y16 : h0.size ≤ y16 := Nat.le_trans (Nat.le_refl _) o16
  exact own_ret X18 hGe (t := (.object "java/lang/String")) rfl rfl (Or.inr (Or.inr (Or.inr (Or.inr ⟨rfl, rfl, rfl⟩)))) dd_prog_10_method_3_92 (by decide) (by decide) ⟨x18, t18, rfl, ((((((((Keep.refl h0 []).trans K3 all0).trans K4 (allS (Or.inr age_a3) all0)).trans K8 (allS (Or.inr age_a3) (allS (Or.inr age_y8) all0))).trans K10 all0).trans K12 (allS (Or.inr age_a3) (allS (Or.inr age_y12) all0))).trans K16 (allS (Or.inr age_a3) (allS (Or.inr age_y16) all0))).trans K18 all0), S18, hA⟩ nofun
theorem dd_prog_10_method_3_51 : decode prog_10_method_3_code 51 = .ok (.new 23, 3) := by decide +kernel
theorem dd_prog_10_method_3_54 : decode prog_10_method_3_code 54 = .ok (.dup, 1) := by decide +kernel
theorem dd_prog_10_method_3_55 : decode prog_10_method_3_code 55 = .ok (.invokespecial 25, 3) := by decide +kernel
theorem dd_prog_10_method_3_58 : decode prog_10_method_3_code 58 = .ok (.aload_n 0, 1) := by decide +kernel
theorem dd_prog_10_method_3_59 : decode prog_10_method_3_code 59 = .ok (.getfield 7, 3) := by decide +kernel
theorem dd_prog_10_method_3_62 : decode prog_10_method_3_code 62 = .ok (.invokevirtual 26, 3) := by decide +kernel
theorem dd_prog_10_method_3_65 : decode prog_10_method_3_code 65 = .ok (.ldc 30, 2) := by decide +kernel
theorem dd_prog_10_method_3_67 : decode prog_10_method_3_code 67 = .ok (.invokevirtual 26, 3) := by decide +kernel
theorem dd_prog_10_method_3_70 : decode prog_10_method_3_code 70 = .ok (.aload_n 0, 1) := by decide +kernel
theorem dd_prog_10_method_3_71 : decode prog_10_method_3_code 71 = .ok (.getfield 13, 3) := by decide +kernel
theorem dd_prog_10_method_3_74 : decode prog_10_method_3_code 74 = .ok (.invokevirtual 32, 3) := by decide +kernel
theorem dd_prog_10_method_3_77 : decode prog_10_method_3_code 77 = .ok (.ldc 30, 2) := by decide +kernel
theorem dd_prog_10_method_3_79 : decode prog_10_method_3_code 79 = .ok (.invokevirtual 26, 3) := by decide +kernel
theorem dd_prog_10_method_3_82 : decode prog_10_method_3_code 82 = .ok (.aload_n 0, 1) := by decide +kernel
theorem dd_prog_10_method_3_83 : decode prog_10_method_3_code 83 = .ok (.getfield 17, 3) := by decide +kernel
theorem dd_prog_10_method_3_86 : decode prog_10_method_3_code 86 = .ok (.invokevirtual 32, 3) := by decide +kernel
theorem dd_prog_10_method_3_89 : decode prog_10_method_3_code 89 = .ok (.invokevirtual 35, 3) := by decide +kernel
theorem ef_own_tsC (m : MethodId) (x0 : Addr) : entryFrame m #[(.ref x0)] 1 = mkF m 0 #[.val (.ref x0)] [] := by first | (simp [entryFrame, mkF, argsToLocals, Value.category]; done) | rfl
set_option maxRecDepth 65536 in
set_option maxHeartbeats 40000000 in
theorem own_tsC (l : Launch) (Z : State) (a0 : Array Value) (hw : ∀ d ∈ tables_1, d.before a0 Z = true) (EWf : own_EW Z own_EL) (n0 : Nat) (o x t dn dt : Addr) (ds : List Int32) (v n : Nat) (j : Int32) (u m2 : Nat) (h0 : Heap) (O0 : Old Z n0 h0) (p_L : (Exa Z h0 o "com/example/tributary/tributary/Location" ∧ Fld Z h0 o "com/example/tributary/tributary/Location" "file" "Ljava/lang/String;" (.ref x) ∧ Fld Z h0 o "com/example/tributary/tributary/Location" "line" "I" (.int (Int32.ofNat v)) ∧ Fld Z h0 o "com/example/tributary/tributary/Location" "column" "I" (.int j))) (p_S : own_Str Z h0 x t ds) (hp : ∀ c ∈ ds, ¬ c < 0 ∧ ¬ (255 : Int32) < c) (p_d : ds.length ≤ 2) (p_0 : 0 < v) (p_1 : 1 ≤ n) (p_10 : n ≤ 10) (p_v : 10 ^ (n - 1) ≤ v) (p_w : v < 10 ^ n) (p_b : v < 2 ^ 31) (p_j : j = Int32.ofNat u) (q_0 : 0 < u) (q_1 : 1 ≤ m2) (q_10 : m2 ≤ 10) (q_v : 10 ^ (m2 - 1) ≤ u) (q_w : u < 10 ^ m2) (q_b : u < 2 ^ 31) (DG : own_DG Z dn dt) (CS : own_CS Z) :
    own_Met l Z own_EL [] false n0 (⟨"com/example/tributary/tributary/Location", "toString", "()Ljava/lang/String;"⟩ : MethodName) prog_10_method_3_code 1 (some (.object "java/lang/String")) ({ frames := 6, cells := 13, slots := 244, locals := 93 } : Room) #[(.ref o)] h0 (fun v' h => ∃ x t : Addr, v' = some (.ref x) ∧ Keep h0 h [] ∧ own_Str Z h x t (((([] ++ ds ++ [58]) ++ own_dg v n) ++ [58]) ++ own_dg u m2) ∧ ∀ c ∈ (((([] ++ ds ++ [58]) ++ own_dg v n) ++ [58]) ++ own_dg u m2), ¬ c < 0 ∧ ¬ (255 : Int32) < c) := by
  refine own_enter (own := "com/example/tributary/tributary/Location") (nm := "toString") (plainFor_of_name pn_9) rfl rfl O0 EWf ?_
  have W : ∀ (k : Nat) {d : Jvm.Cond}, tables_1[k]? = some d → d.before a0 Z = true := fun k d q => hw d (List.mem_of_getElem? q)
  intro G p e s m below meth c T0 hGe X0
  rw [ef_own_tsC m o]
  subst p_j
  refine own_aload_n (pc' := 1) X0 dd_prog_10_method_3_0 rfl rfl rfl ?_
  refine own_get (pc' := 4) X0 (host := "") (Or.inl (W 45 rfl)) Via.refl p_L.2.2.1 dd_prog_10_method_3_1 rfl ?_
  intro T1 X1
  refine own_ifY (pc' := 12) X1 dd_prog_10_method_3_4 ((tlt (own_i32lt (i := 0) p_0 p_b)).2.2.1) (by decide) (by decide) ?_
  refine own_aload_n (pc' := 13) X1 dd_prog_10_method_3_12 rfl rfl rfl ?_
  refine own_get (pc' := 16) X1 (host := "") (Or.inl (W 47 rfl)) Via.refl p_L.2.2.2 dd_prog_10_method_3_13 rfl ?_
  intro T2 X2
  refine own_ifY (pc' := 51) X2 dd_prog_10_method_3_16 ((tlt (own_i32lt (i := 0) q_0 q_b)).2.2.1) (by decide) (by decide) ?_
  refine own_new (pc' := 54) (cells' := 1) (slots' := 4) X2 (W 54 rfl) (W 55 rfl) (W 56 rfl) dd_prog_10_method_3_51 rfl rfl rfl (by decide) (by decide) ?_
  intro T3 h3 a3 g3 X3 K3 E3 D3 U3
  have n_a3 : n0 ≤ a3 := by rw [g3]; exact own_n0 X2
  have F3_value : Fld Z h3 a3 "java/lang/AbstractStringBuilder" "value" "[B" .null := D3 (Or.inl (W 69 rfl)) (ty := (.array .byte)) (by decide)
  have F3_coder : Fld Z h3 a3 "java/lang/AbstractStringBuilder" "coder" "B" (.int (0 : Int32)) := D3 (Or.inl (W 71 rfl)) (ty := .byte) (by decide)
  have F3_count : Fld Z h3 a3 "java/lang/AbstractStringBuilder" "count" "I" (.int (0 : Int32)) := D3 (Or.inl (W 93 rfl)) (ty := .int) (by decide)
  refine own_dup (pc' := 55) X3 dd_prog_10_method_3_54 rfl rfl ?_
  have age_a3 : h0.size ≤ a3 := Nat.le_trans (Nat.le_refl _) (Nat.le_of_eq (Eq.symm g3))
  refine own_callIM (pc' := 58) (cells' := 2) (slots' := 20) (argsL := []) (rest := [(.ref a3)]) (W := 1) (y := (⟨"java/lang/StringBuilder", "<init>", "()V"⟩ : MethodName)) (a := a3) X3 (W 57 rfl) (W 58 rfl) rfl (by decide) (own_sbi l Z a0 hw EWf n0 a3 h0.size h3 (own_old X3) age_a3 (own_n0 X0) (Nat.le_trans K3.1 (Nat.le_refl _)) E3 F3_value F3_coder F3_count CS) all0 (W 59 rfl) (W 56 rfl) (by decide) (by decide) rfl (lenOf pd_19 rfl) rfl rfl dd_prog_10_method_3_55 rfl rfl rfl rfl (by decide) (by decide) ?_
  intro v4 T4 h4 s4 X4 q4 r4
  obtain ⟨rfl, K4, S4⟩ := q4
  show G T4 (mkF m 58 #[.val (.ref o)] [(.ref a3)])
  refine own_aload_n (pc' := 59) X4 dd_prog_10_method_3_58 rfl rfl rfl ?_
  have ne_o_a3 : o ≠ a3 := own_ne p_L.1.lt (Nat.le_refl _) (Nat.le_of_eq (Eq.symm g3))
  have f5 := ((p_L.2.1.keep K3 nin0).keep K4 (ninS ne_o_a3 nin0))
  refine own_get (pc' := 62) X4 (host := "") (Or.inl (W 43 rfl)) Via.refl f5 dd_prog_10_method_3_59 rfl ?_
  intro T6 X6
  have ne_x_a3 : x ≠ a3 := own_ne p_S.lt (Nat.le_refl _) (Nat.le_of_eq (Eq.symm g3))
  have ne_t_a3 : t ≠ a3 := own_ne p_S.ltt (Nat.le_refl _) (Nat.le_of_eq (Eq.symm g3))
  have f7 := ((p_S.keep K3 nin0 nin0).keep K4 (ninS ne_x_a3 nin0) (ninS ne_t_a3 nin0))
  have f9 := (E3.keep K4)
  refine own_callVM (pc' := 65) (cells' := 3) (slots' := 54) (argsL := [(.ref x)]) (rest := []) (W := 0) (y := (⟨"java/lang/StringBuilder", "append", "(Ljava/lang/String;)Ljava/lang/StringBuilder;"⟩ : MethodName)) (z := (⟨"java/lang/StringBuilder", "append", "(Ljava/lang/String;)Ljava/lang/StringBuilder;"⟩ : MethodName)) (a := a3) X6 (W 72 rfl) (W 73 rfl) (fun s' hZ' => notFace_of_selects (args := #[]) (mvT hZ' (W 75 rfl))) (W 75 rfl) (W 74 rfl) (by decide) f9 (own_sbs l Z a0 hw EWf n0 a3 x [] ds h0.size h4 (own_old X6) S4 (own_SL.of_str f7 (fun c q => (hp c q).2)) (by simp; omega) (own_n0 X0) (Nat.le_trans K3.1 (Nat.le_trans K4.1 (Nat.le_refl _))) CS) all0 (W 76 rfl) (W 56 rfl) (by decide) (by decide) rfl (lenOf pd_20 rfl) rfl rfl dd_prog_10_method_3_62 rfl rfl rfl rfl (by decide) (by decide) ?_
  intro v8 T8 h8 s8 X8 q8 r8
  obtain ⟨rfl, y8, o8, E8, K8, S8⟩ := q8
  show G T8 (mkF m 65 #[.val (.ref o)] [(.ref a3)])
  refine own_ldcR (pc' := 67) (cells' := 5) (slots' := 62) (n := 4) (text := ":") (vs := [(.int 58)]) X8 (W 119 rfl) (fun d hd => hw d (own_in_atoms d hd)) (List.mem_of_getElem? (i := 0) rfl) ⟨by decide, by decide⟩ (by decide) (by decide) (by decide) dd_prog_10_method_3_65 rfl rfl rfl (by decide) (by decide) ?_
  intro T10 h10 s10 a10 b10 k10 X10 K10 E10 Fc10 Fv10 A10 N10
  have f11 := (S8.keep K10)
  have f13 := ((f9.keep K8).keep K10)
  refine own_callVM (pc' := 70) (cells' := 6) (slots' := 96) (argsL := [(.ref a10)]) (rest := []) (W := 0) (y := (⟨"java/lang/StringBuilder", "append", "(Ljava/lang/String;)Ljava/lang/StringBuilder;"⟩ : MethodName)) (z := (⟨"java/lang/StringBuilder", "append", "(Ljava/lang/String;)Ljava/lang/StringBuilder;"⟩ : MethodName)) (a := a3) X10 (W 72 rfl) (W 73 rfl) (fun s' hZ' => notFace_of_selects (args := #[]) (mvT hZ' (W 75 rfl))) (W 75 rfl) (W 74 rfl) (by decide) f13 (own_sbs l Z a0 hw EWf n0 a3 a10 ([] ++ ds) [58] h0.size h10 (own_old X10) f11 ⟨b10, _, E10, Fv10, Fc10, by rw [show own_bs [58] = [.int 58] from by decide]; exact A10⟩ (by simp; omega) (own_n0 X0) (Nat.le_trans K3.1 (Nat.le_trans K4.1 (Nat.le_trans K8.1 (Nat.le_trans K10.1 (Nat.le_refl _))))) CS) all0 (W 76 rfl) (W 56 rfl) (by decide) (by decide) rfl (lenOf pd_20 rfl) rfl rfl dd_prog_10_method_3_67 rfl rfl rfl rfl (by decide) (by decide) ?_
  intro v12 T12 h12 s12 X12 q12 r12
  obtain ⟨rfl, y12, o12, E12, K12, S12⟩ := q12
  show G T12 (mkF m 70 #[.val (.ref o)] [(.ref a3)])
  refine own_aload_n (pc' := 71) X12 dd_prog_10_method_3_70 rfl rfl rfl ?_
  have ne_o_y8 : o ≠ y8 := own_ne p_L.1.lt (Nat.le_refl _) o8
  have ne_o_y12 : o ≠ y12 := own_ne p_L.1.lt (Nat.le_refl _) o12
  have f14 := (((((p_L.2.2.1.keep K3 nin0).keep K4 (ninS ne_o_a3 nin0)).keep K8 (ninS ne_o_a3 (ninS ne_o_y8 nin0))).keep K10 nin0).keep K12 (ninS ne_o_a3 (ninS ne_o_y12 nin0)))
  refine own_get (pc' := 74) X12 (host := "") (Or.inl (W 45 rfl)) Via.refl f14 dd_prog_10_method_3_71 rfl ?_
  intro T15 X15
  have f17 := (f13.keep K12)
  refine own_callVM (pc' := 77) (cells' := 7) (slots' := 130) (argsL := [(.int (Int32.ofNat v))]) (rest := []) (W := 0) (y := (⟨"java/lang/StringBuilder", "append", "(I)Ljava/lang/StringBuilder;"⟩ : MethodName)) (z := (⟨"java/lang/StringBuilder", "append", "(I)Ljava/lang/StringBuilder;"⟩ : MethodName)) (a := a3) X15 (W 122 rfl) (W 123 rfl) (fun s' hZ' => notFace_of_selects (args := #[]) (mvT hZ' (W 125 rfl))) (W 125 rfl) (W 124 rfl) (by decide) f17 (own_sbI l Z a0 hw EWf n0 a3 dn dt ([] ++ ds ++ [58]) v n h0.size h12 (own_old X15) S12 p_1 p_v p_w p_b (by simp; omega) (own_n0 X0) (Nat.le_trans K3.1 (Nat.le_trans K4.1 (Nat.le_trans K8.1 (Nat.le_trans K10.1 (Nat.le_trans K12.1 (Nat.le_refl _)))))) DG CS) all0 (W 126 rfl) (W 56 rfl) (by decide) (by decide) rfl (lenOf pd_21 rfl) rfl rfl dd_prog_10_method_3_74 rfl rfl rfl rfl (by decide) (by decide) ?_
  intro v16 T16 h16 s16 X16 q16 r16
  obtain ⟨rfl, y16, o16, E16, K16, S16⟩ := q16
  show G T16 (mkF m 77 #[.val (.ref o)] [(.ref a3)])
  refine own_ldcR (pc' := 79) (cells' := 9) (slots' := 138) (n := 4) (text := ":") (vs := [(.int 58)]) X16 (W 119 rfl) (fun d hd => hw d (own_in_atoms d hd)) (List.mem_of_getElem? (i := 0) rfl) ⟨by decide, by decide⟩ (by decide) (by decide) (by decide) dd_prog_10_method_3_77 rfl rfl rfl (by decide) (by decide) ?_
  intro T18 h18 s18 a18 b18 k18 X18 K18 E18 Fc18 Fv18 A18 N18
  have f19 := (S16.keep K18)
  have f21 := ((f17.keep K16).keep K18)
  refine own_callVM (pc' := 82) (cells' := 10) (slots' := 172) (argsL := [(.ref a18)]) (rest := []) (W := 0) (y := (⟨"java/lang/StringBuilder", "append", "(Ljava/lang/String;)Ljava/lang/StringBuilder;"⟩ : MethodName)) (z := (⟨"java/lang/StringBuilder", "append", "(Ljava/lang/String;)Ljava/lang/StringBuilder;"⟩ : MethodName)) (a := a3) X18 (W 72 rfl) (W 73 rfl) (fun s' hZ' => notFace_of_selects (args := #[]) (mvT hZ' (W 75 rfl))) (W 75 rfl) (W 74 rfl) (by decide) f21 (own_sbs l Z a0 hw EWf n0 a3 a18 (([] ++ ds ++ [58]) ++ own_dg v n) [58] h0.size h18 (own_old X18) f19 ⟨b18, _, E18, Fv18, Fc18, by rw [show own_bs [58] = [.int 58] from by decide]; exact A18⟩ (by simp [own_dgl]; omega) (own_n0 X0) (Nat.le_trans K3.1 (Nat.le_trans K4.1 (Nat.le_trans K8.1 (Nat.le_trans K10.1 (Nat.le_trans K12.1 (Nat.le_trans K16.1 (Nat.le_trans K18.1 (Nat.le_refl _)))))))) CS) all0 (W 76 rfl) (W 56 rfl) (by decide) (by decide) rfl (lenOf pd_20 rfl) rfl rfl dd_prog_10_method_3_79 rfl rfl rfl rfl (by decide) (by decide) ?_
  intro v20 T20 h20 s20 X20 q20 r20
  obtain ⟨rfl, y20, o20, E20, K20, S20⟩ := q20
  show G T20 (mkF m 82 #[.val (.ref o)] [(.ref a3)])
  refine own_aload_n (pc' := 83) X20 dd_prog_10_method_3_82 rfl rfl rfl ?_
  have ne_o_y16 : o ≠ y16 := own_ne p_L.1.lt (Nat.le_refl _) o16
  have ne_o_y20 : o ≠ y20 := own_ne p_L.1.lt (Nat.le_refl _) o20
  have f22 := ((((((((p_L.2.2.2.keep K3 nin0).keep K4 (ninS ne_o_a3 nin0)).keep K8 (ninS ne_o_a3 (ninS ne_o_y8 nin0))).keep K10 nin0).keep K12 (ninS ne_o_a3 (ninS ne_o_y12 nin0))).keep K16 (ninS ne_o_a3 (ninS ne_o_y16 nin0))).keep K18 nin0).keep K20 (ninS ne_o_a3 (ninS ne_o_y20 nin0)))
  refine own_get (pc' := 86) X20 (host := "") (Or.inl (W 47 rfl)) Via.refl f22 dd_prog_10_method_3_83 rfl ?_
  intro T23 X23
  have f25 := (f21.keep K20)
  refine own_callVM (pc' := 89) (cells' := 11) (slots' := 206) (argsL := [(.int (Int32.ofNat u))]) (rest := []) (W := 0) (y := (⟨"java/lang/StringBuilder", "append", "(I)Ljava/lang/StringBuilder;"⟩ : MethodName)) (z := (⟨"java/lang/StringBuilder", "append", "(I)Ljava/lang/StringBuilder;"⟩ : MethodName)) (a := a3) X23 (W 122 rfl) (W 123 rfl) (fun s' hZ' => notFace_of_selects (args := #[]) (mvT hZ' (W 125 rfl))) (W 125 rfl) (W 124 rfl) (by decide) f25 (own_sbI l Z a0 hw EWf n0 a3 dn dt ((([] ++ ds ++ [58]) ++ own_dg v n) ++ [58]) u m2 h0.size h20 (own_old X23) S20 q_1 q_v q_w q_b (by simp [own_dgl]; omega) (own_n0 X0) (Nat.le_trans K3.1 (Nat.le_trans K4.1 (Nat.le_trans K8.1 (Nat.le_trans K10.1 (Nat.le_trans K12.1 (Nat.le_trans K16.1 (Nat.le_trans K18.1 (Nat.le_trans K20.1 (Nat.le_refl _))))))))) DG CS) all0 (W 126 rfl) (W 56 rfl) (by decide) (by decide) rfl (lenOf pd_21 rfl) rfl rfl dd_prog_10_method_3_86 rfl rfl rfl rfl (by decide) (by decide) ?_
  intro v24 T24 h24 s24 X24 q24 r24
  obtain ⟨rfl, y24, o24, E24, K24, S24⟩ := q24
  show G T24 (mkF m 89 #[.val (.ref o)] [(.ref a3)])
  have hA : ∀ c ∈ (([] ++ ds ++ [58]) ++ own_dg v n), ¬ c < 0 ∧ ¬ (255 : Int32) < c := own_allT (P := fun c => ¬ c < 0 ∧ ¬ (255 : Int32) < c) hp (by decide) (own_dgb v n)
  have hB : ∀ c ∈ (((([] ++ ds ++ [58]) ++ own_dg v n) ++ [58]) ++ own_dg u m2), ¬ c < 0 ∧ ¬ (255 : Int32) < c := own_allU (P := fun c => ¬ c < 0 ∧ ¬ (255 : Int32) < c) hA (by decide) (own_dgb u m2)
  have f27 := (f25.keep K24)
  refine own_callVM (pc' := 92) (cells' := 13) (slots' := 244) (argsL := []) (rest := []) (W := 0) (y := (⟨"java/lang/StringBuilder", "toString", "()Ljava/lang/String;"⟩ : MethodName)) (z := (⟨"java/lang/StringBuilder", "toString", "()Ljava/lang/String;"⟩ : MethodName)) (a := a3) X24 (W 144 rfl) (W 145 rfl) (fun s' hZ' => notFace_of_selects (args := #[]) (mvT hZ' (W 147 rfl))) (W 147 rfl) (W 146 rfl) (by decide) f27 (own_sts l Z a0 hw EWf n0 a3 (((([] ++ ds ++ [58]) ++ own_dg v n) ++ [58]) ++ own_dg u m2) h0.size h24 (own_old X24) S24 hB CS) all0 (W 148 rfl) (W 56 rfl) (by decide) (by decide) rfl (lenOf pd_22 rfl) rfl rfl dd_prog_10_method_3_89 rfl rfl rfl rfl (by decide) (by decide) ?_
  intro v26 T26 h26 s26 X26 q26 r26
  obtain ⟨x26, t26, rfl, K26, S26⟩ := q26
  show G T26 (mkF m 92 #[.val (.ref o)] [(.ref x26)])
  have age_y8 : h0.size ≤ y8 := Nat.le_trans (Nat.le_refl _) o8
  have age_y12 : h0.size ≤ y12 := Nat.le_trans (Nat.le_refl _) o12
  have age_y16 : h0.size ≤ y16 := Nat.le_trans (Nat.le_refl _) o16
  have age_y20 : h0.size ≤ y20 := Nat.le_trans (Nat.le_refl _) o20
  have age_y24 : h0.size ≤ y24 := Nat.le_trans (Nat.le_refl _) o24
  exact own_ret X26 hGe (t := (.object "java/lang/String")) rfl rfl (Or.inr (Or.inr (Or.inr (Or.inr ⟨rfl, rfl, rfl⟩)))) dd_prog_10_method_3_92 (by decide) (by decide) ⟨x26, t26, rfl, (((((((((((Keep.refl h0 []).trans K3 all0).trans K4 (allS (Or.inr age_a3) all0)).trans K8 (allS (Or.inr age_a3) (allS (Or.inr age_y8) all0))).trans K10 all0).trans K12 (allS (Or.inr age_a3) (allS (Or.inr age_y12) all0))).trans K16 (allS (Or.inr age_a3) (allS (Or.inr age_y16) all0))).trans K18 all0).trans K20 (allS (Or.inr age_a3) (allS (Or.inr age_y20) all0))).trans K24 (allS (Or.inr age_a3) (allS (Or.inr age_y24) all0))).trans K26 all0), S26, hB⟩ nofun
theorem dd_method_3_0 : decode method_3_code 0 = .ok (.iload_n 0, 1) := by decide +kernel
theorem dd_method_3_1 : decode method_3_code 1 = .ok (.ldc 44, 2) := by decide +kernel
theorem dd_method_3_3 : decode method_3_code 3 = .ok (.if_icmp .lt 6, 3) := by decide +kernel
theorem dd_method_3_9 : decode method_3_code 9 = .ok (.iload_n 0, 1) := by decide +kernel
theorem dd_method_3_10 : decode method_3_code 10 = .ok (.ldc 45, 2) := by decide +kernel
theorem dd_method_3_12 : decode method_3_code 12 = .ok (.if_icmp .lt 6, 3) := by decide +kernel
theorem dd_method_3_18 : decode method_3_code 18 = .ok (.iload_n 0, 1) := by decide +kernel
theorem dd_method_3_19 : decode method_3_code 19 = .ok (.ldc 46, 2) := by decide +kernel
theorem dd_method_3_21 : decode method_3_code 21 = .ok (.if_icmp .lt 6, 3) := by decide +kernel
theorem dd_method_3_27 : decode method_3_code 27 = .ok (.iload_n 0, 1) := by decide +kernel
theorem dd_method_3_28 : decode method_3_code 28 = .ok (.ldc 47, 2) := by decide +kernel
theorem dd_method_3_30 : decode method_3_code 30 = .ok (.if_icmp .lt 6, 3) := by decide +kernel
theorem dd_method_3_36 : decode method_3_code 36 = .ok (.iload_n 0, 1) := by decide +kernel
theorem dd_method_3_37 : decode method_3_code 37 = .ok (.ldc 48, 2) := by decide +kernel
theorem dd_method_3_39 : decode method_3_code 39 = .ok (.if_icmp .lt 6, 3) := by decide +kernel
theorem dd_method_3_45 : decode method_3_code 45 = .ok (.iload_n 0, 1) := by decide +kernel
theorem dd_method_3_46 : decode method_3_code 46 = .ok (.sipush 10000, 3) := by decide +kernel
theorem dd_method_3_49 : decode method_3_code 49 = .ok (.if_icmp .lt 5, 3) := by decide +kernel
theorem dd_method_3_54 : decode method_3_code 54 = .ok (.iload_n 0, 1) := by decide +kernel
theorem dd_method_3_55 : decode method_3_code 55 = .ok (.sipush 1000, 3) := by decide +kernel
theorem dd_method_3_58 : decode method_3_code 58 = .ok (.if_icmp .lt 5, 3) := by decide +kernel
theorem dd_method_3_63 : decode method_3_code 63 = .ok (.iload_n 0, 1) := by decide +kernel
theorem dd_method_3_64 : decode method_3_code 64 = .ok (.bipush 100, 2) := by decide +kernel
theorem dd_method_3_66 : decode method_3_code 66 = .ok (.if_icmp .lt 5, 3) := by decide +kernel
theorem dd_method_3_71 : decode method_3_code 71 = .ok (.iload_n 0, 1) := by decide +kernel
theorem dd_method_3_72 : decode method_3_code 72 = .ok (.bipush 10, 2) := by decide +kernel
theorem dd_method_3_74 : decode method_3_code 74 = .ok (.if_icmp .lt 5, 3) := by decide +kernel
theorem dd_method_3_79 : decode method_3_code 79 = .ok (.iconst 1, 1) := by decide +kernel
theorem dd_method_3_80 : decode method_3_code 80 = .ok (.ireturn, 1) := by decide +kernel
theorem dd_method_3_77 : decode method_3_code 77 = .ok (.iconst 2, 1) := by decide +kernel
theorem dd_method_3_78 : decode method_3_code 78 = .ok (.ireturn, 1) := by decide +kernel
theorem dd_method_3_69 : decode method_3_code 69 = .ok (.iconst 3, 1) := by decide +kernel
theorem dd_method_3_70 : decode method_3_code 70 = .ok (.ireturn, 1) := by decide +kernel
theorem dd_method_3_61 : decode method_3_code 61 = .ok (.iconst 4, 1) := by decide +kernel
theorem dd_method_3_62 : decode method_3_code 62 = .ok (.ireturn, 1) := by decide +kernel
theorem dd_method_3_52 : decode method_3_code 52 = .ok (.iconst 5, 1) := by decide +kernel
theorem dd_method_3_53 : decode method_3_code 53 = .ok (.ireturn, 1) := by decide +kernel
theorem dd_method_3_42 : decode method_3_code 42 = .ok (.bipush 6, 2) := by decide +kernel
theorem dd_method_3_44 : decode method_3_code 44 = .ok (.ireturn, 1) := by decide +kernel
theorem dd_method_3_33 : decode method_3_code 33 = .ok (.bipush 7, 2) := by decide +kernel
theorem dd_method_3_35 : decode method_3_code 35 = .ok (.ireturn, 1) := by decide +kernel
theorem dd_method_3_24 : decode method_3_code 24 = .ok (.bipush 8, 2) := by decide +kernel
theorem dd_method_3_26 : decode method_3_code 26 = .ok (.ireturn, 1) := by decide +kernel
theorem dd_method_3_15 : decode method_3_code 15 = .ok (.bipush 9, 2) := by decide +kernel
theorem dd_method_3_17 : decode method_3_code 17 = .ok (.ireturn, 1) := by decide +kernel
theorem dd_method_3_6 : decode method_3_code 6 = .ok (.bipush 10, 2) := by decide +kernel
theorem dd_method_3_8 : decode method_3_code 8 = .ok (.ireturn, 1) := by decide +kernel
theorem pn_10 : plainName "com/example/tributary/tributary/LocationToStringPinLaw" = true := by first | (simp [plainName, overriddenIn]; done) | decide +kernel
theorem ef_own_nd (m : MethodId) (x0 : Int32) : entryFrame m #[(.int x0)] 1 = mkF m 0 #[.val (.int x0)] [] := by first | (simp [entryFrame, mkF, argsToLocals, Value.category]; done) | rfl
set_option maxRecDepth 65536 in
set_option maxHeartbeats 40000000 in
theorem own_nd (l : Launch) (Z : State) (a0 : Array Value) (hw : ∀ d ∈ tables_1, d.before a0 Z = true) (EWf : own_EW Z own_EL) (n0 : Nat) (v n : Nat) (h0 : Heap) (O0 : Old Z n0 h0) (p_1 : 1 ≤ n) (p_v : 10 ^ (n - 1) ≤ v) (p_w : v < 10 ^ n) (p_b : v < 2 ^ 31) :
    own_Met l Z own_EL [] false n0 (⟨"com/example/tributary/tributary/LocationToStringPinLaw", "nd", "(I)I"⟩ : MethodName) method_3_code 1 (some .int) ({ frames := 0, cells := 0, slots := 0, locals := 0 } : Room) #[(.int (Int32.ofNat v))] h0 (fun v' h => v' = some (.int (Int32.ofNat n)) ∧ h0 = h) := by
  refine own_enter (own := "com/example/tributary/tributary/LocationToStringPinLaw") (nm := "nd") (plainFor_of_name pn_10) rfl rfl O0 EWf ?_
  have W : ∀ (k : Nat) {d : Jvm.Cond}, tables_1[k]? = some d → d.before a0 Z = true := fun k d q => hw d (List.mem_of_getElem? q)
  intro G p e s m below meth c T0 hGe X0
  rw [ef_own_nd m ((Int32.ofNat v))]
  have p_0 : 1 ≤ v := Nat.le_trans (Nat.one_le_pow _ _ (by decide)) p_v
  refine own_iload_n (pc' := 1) X0 dd_method_3_0 rfl rfl ?_
  refine own_ldcI (pc' := 3) X0 (v := (1000000000 : Int32)) (W 189 rfl) dd_method_3_1 rfl ?_
  by_cases h10 : v < 1000000000
  · refine own_icmpY (pc' := 9) X0 dd_method_3_3 ((tlt (own_i32lt (n := 1000000000) h10 (by decide))).1) (by decide) (by decide) ?_
    refine own_iload_n (pc' := 10) X0 dd_method_3_9 rfl rfl ?_
    refine own_ldcI (pc' := 12) X0 (v := (100000000 : Int32)) (W 190 rfl) dd_method_3_10 rfl ?_
    by_cases h9 : v < 100000000
    · refine own_icmpY (pc' := 18) X0 dd_method_3_12 ((tlt (own_i32lt (n := 100000000) h9 (by decide))).1) (by decide) (by decide) ?_
      refine own_iload_n (pc' := 19) X0 dd_method_3_18 rfl rfl ?_
      refine own_ldcI (pc' := 21) X0 (v := (10000000 : Int32)) (W 191 rfl) dd_method_3_19 rfl ?_
      by_cases h8 : v < 10000000
      · refine own_icmpY (pc' := 27) X0 dd_method_3_21 ((tlt (own_i32lt (n := 10000000) h8 (by decide))).1) (by decide) (by decide) ?_
        refine own_iload_n (pc' := 28) X0 dd_method_3_27 rfl rfl ?_
        refine own_ldcI (pc' := 30) X0 (v := (1000000 : Int32)) (W 192 rfl) dd_method_3_28 rfl ?_
        by_cases h7 : v < 1000000
        · refine own_icmpY (pc' := 36) X0 dd_method_3_30 ((tlt (own_i32lt (n := 1000000) h7 (by decide))).1) (by decide) (by decide) ?_
          refine own_iload_n (pc' := 37) X0 dd_method_3_36 rfl rfl ?_
          refine own_ldcI (pc' := 39) X0 (v := (100000 : Int32)) (W 193 rfl) dd_method_3_37 rfl ?_
          by_cases h6 : v < 100000
          · refine own_icmpY (pc' := 45) X0 dd_method_3_39 ((tlt (own_i32lt (n := 100000) h6 (by decide))).1) (by decide) (by decide) ?_
            refine own_iload_n (pc' := 46) X0 dd_method_3_45 rfl rfl ?_
            refine own_sipush (pc' := 49) X0 dd_method_3_46 rfl (z := (10000 : Int32)) (by decide) ?_
            by_cases h5 : v < 10000
            · refine own_icmpY (pc' := 54) X0 dd_method_3_49 ((tlt (own_i32lt (n := 10000) h5 (by decide))).1) (by decide) (by decide) ?_
              refine own_iload_n (pc' := 55) X0 dd_method_3_54 rfl rfl ?_
              refine own_sipush (pc' := 58) X0 dd_method_3_55 rfl (z := (1000 : Int32)) (by decide) ?_
              by_cases h4 : v < 1000
              · refine own_icmpY (pc' := 63) X0 dd_method_3_58 ((tlt (own_i32lt (n := 1000) h4 (by decide))).1) (by decide) (by decide) ?_
                refine own_iload_n (pc' := 64) X0 dd_method_3_63 rfl rfl ?_
                refine own_bipush (pc' := 66) X0 dd_method_3_64 rfl (z := (100 : Int32)) (by decide) ?_
                by_cases h3 : v < 100
                · refine own_icmpY (pc' := 71) X0 dd_method_3_66 ((tlt (own_i32lt (n := 100) h3 (by decide))).1) (by decide) (by decide) ?_
                  refine own_iload_n (pc' := 72) X0 dd_method_3_71 rfl rfl ?_
                  refine own_bipush (pc' := 74) X0 dd_method_3_72 rfl (z := (10 : Int32)) (by decide) ?_
                  by_cases h2 : v < 10
                  · refine own_icmpY (pc' := 79) X0 dd_method_3_74 ((tlt (own_i32lt (n := 10) h2 (by decide))).1) (by decide) (by decide) ?_
                    refine own_iconst (pc' := 80) X0 dd_method_3_79 rfl (z := (1 : Int32)) (by decide) ?_
                    exact own_ret X0 hGe (t := .int) rfl rfl (Or.inl ⟨rfl, by simp, _, rfl⟩) dd_method_3_80 (by decide) (by decide) ⟨by rw [(own_nduq p_v p_w (m := 1) (by show 1 ≤ v; omega) (by show v < 10; omega) p_1 (by decide))]; rfl, rfl⟩ nofun
                  · refine own_icmpN (pc' := 77) X0 dd_method_3_74 rfl ((flt (own_i32le (n := 10) (by omega) p_b)).1) ?_
                    refine own_iconst (pc' := 78) X0 dd_method_3_77 rfl (z := (2 : Int32)) (by decide) ?_
                    exact own_ret X0 hGe (t := .int) rfl rfl (Or.inl ⟨rfl, by simp, _, rfl⟩) dd_method_3_78 (by decide) (by decide) ⟨by rw [(own_nduq p_v p_w (m := 2) (by show 10 ≤ v; omega) (by show v < 100; omega) p_1 (by decide))]; rfl, rfl⟩ nofun
                · refine own_icmpN (pc' := 69) X0 dd_method_3_66 rfl ((flt (own_i32le (n := 100) (by omega) p_b)).1) ?_
                  refine own_iconst (pc' := 70) X0 dd_method_3_69 rfl (z := (3 : Int32)) (by decide) ?_
                  exact own_ret X0 hGe (t := .int) rfl rfl (Or.inl ⟨rfl, by simp, _, rfl⟩) dd_method_3_70 (by decide) (by decide) ⟨by rw [(own_nduq p_v p_w (m := 3) (by show 100 ≤ v; omega) (by show v < 1000; omega) p_1 (by decide))]; rfl, rfl⟩ nofun
              · refine own_icmpN (pc' := 61) X0 dd_method_3_58 rfl ((flt (own_i32le (n := 1000) (by omega) p_b)).1) ?_
                refine own_iconst (pc' := 62) X0 dd_method_3_61 rfl (z := (4 : Int32)) (by decide) ?_
                exact own_ret X0 hGe (t := .int) rfl rfl (Or.inl ⟨rfl, by simp, _, rfl⟩) dd_method_3_62 (by decide) (by decide) ⟨by rw [(own_nduq p_v p_w (m := 4) (by show 1000 ≤ v; omega) (by show v < 10000; omega) p_1 (by decide))]; rfl, rfl⟩ nofun
            · refine own_icmpN (pc' := 52) X0 dd_method_3_49 rfl ((flt (own_i32le (n := 10000) (by omega) p_b)).1) ?_
              refine own_iconst (pc' := 53) X0 dd_method_3_52 rfl (z := (5 : Int32)) (by decide) ?_
              exact own_ret X0 hGe (t := .int) rfl rfl (Or.inl ⟨rfl, by simp, _, rfl⟩) dd_method_3_53 (by decide) (by decide) ⟨by rw [(own_nduq p_v p_w (m := 5) (by show 10000 ≤ v; omega) (by show v < 100000; omega) p_1 (by decide))]; rfl, rfl⟩ nofun
          · refine own_icmpN (pc' := 42) X0 dd_method_3_39 rfl ((flt (own_i32le (n := 100000) (by omega) p_b)).1) ?_
            refine own_bipush (pc' := 44) X0 dd_method_3_42 rfl (z := (6 : Int32)) (by decide) ?_
            exact own_ret X0 hGe (t := .int) rfl rfl (Or.inl ⟨rfl, by simp, _, rfl⟩) dd_method_3_44 (by decide) (by decide) ⟨by rw [(own_nduq p_v p_w (m := 6) (by show 100000 ≤ v; omega) (by show v < 1000000; omega) p_1 (by decide))]; rfl, rfl⟩ nofun
        · refine own_icmpN (pc' := 33) X0 dd_method_3_30 rfl ((flt (own_i32le (n := 1000000) (by omega) p_b)).1) ?_
          refine own_bipush (pc' := 35) X0 dd_method_3_33 rfl (z := (7 : Int32)) (by decide) ?_
          exact own_ret X0 hGe (t := .int) rfl rfl (Or.inl ⟨rfl, by simp, _, rfl⟩) dd_method_3_35 (by decide) (by decide) ⟨by rw [(own_nduq p_v p_w (m := 7) (by show 1000000 ≤ v; omega) (by show v < 10000000; omega) p_1 (by decide))]; rfl, rfl⟩ nofun
      · refine own_icmpN (pc' := 24) X0 dd_method_3_21 rfl ((flt (own_i32le (n := 10000000) (by omega) p_b)).1) ?_
        refine own_bipush (pc' := 26) X0 dd_method_3_24 rfl (z := (8 : Int32)) (by decide) ?_
        exact own_ret X0 hGe (t := .int) rfl rfl (Or.inl ⟨rfl, by simp, _, rfl⟩) dd_method_3_26 (by decide) (by decide) ⟨by rw [(own_nduq p_v p_w (m := 8) (by show 10000000 ≤ v; omega) (by show v < 100000000; omega) p_1 (by decide))]; rfl, rfl⟩ nofun
    · refine own_icmpN (pc' := 15) X0 dd_method_3_12 rfl ((flt (own_i32le (n := 100000000) (by omega) p_b)).1) ?_
      refine own_bipush (pc' := 17) X0 dd_method_3_15 rfl (z := (9 : Int32)) (by decide) ?_
      exact own_ret X0 hGe (t := .int) rfl rfl (Or.inl ⟨rfl, by simp, _, rfl⟩) dd_method_3_17 (by decide) (by decide) ⟨by rw [(own_nduq p_v p_w (m := 9) (by show 100000000 ≤ v; omega) (by show v < 1000000000; omega) p_1 (by decide))]; rfl, rfl⟩ nofun
  · refine own_icmpN (pc' := 6) X0 dd_method_3_3 rfl ((flt (own_i32le (n := 1000000000) (by omega) p_b)).1) ?_
    refine own_bipush (pc' := 8) X0 dd_method_3_6 rfl (z := (10 : Int32)) (by decide) ?_
    exact own_ret X0 hGe (t := .int) rfl rfl (Or.inl ⟨rfl, by simp, _, rfl⟩) dd_method_3_8 (by decide) (by decide) ⟨by rw [(own_nduq p_v p_w (m := 10) (by show 1000000000 ≤ v; omega) (by show v < 10000000000; omega) p_1 (by decide))]; rfl, rfl⟩ nofun
theorem dd_method_5_0 : decode method_5_code 0 = .ok (.iload 4, 2) := by decide +kernel
theorem dd_method_5_2 : decode method_5_code 2 = .ok (.iload_n 3, 1) := by decide +kernel
theorem dd_method_5_3 : decode method_5_code 3 = .ok (.if_icmp .lt 5, 3) := by decide +kernel
theorem dd_method_5_8 : decode method_5_code 8 = .ok (.aload_n 0, 1) := by decide +kernel
theorem dd_method_5_9 : decode method_5_code 9 = .ok (.iload_n 1, 1) := by decide +kernel
theorem dd_method_5_10 : decode method_5_code 10 = .ok (.iload 4, 2) := by decide +kernel
theorem dd_method_5_12 : decode method_5_code 12 = .ok (.isub, 1) := by decide +kernel
theorem dd_method_5_13 : decode method_5_code 13 = .ok (.invokevirtual 36, 3) := by decide +kernel
theorem pd_23 : parseMethodDescriptor "(I)C" = some ⟨[.int], some .char⟩ := by decide +kernel
theorem dd_method_5_16 : decode method_5_code 16 = .ok (.bipush 48, 2) := by decide +kernel
theorem dd_method_5_18 : decode method_5_code 18 = .ok (.iload_n 2, 1) := by decide +kernel
theorem dd_method_5_19 : decode method_5_code 19 = .ok (.iload 5, 2) := by decide +kernel
theorem dd_method_5_21 : decode method_5_code 21 = .ok (.idiv, 1) := by decide +kernel
theorem dd_method_5_22 : decode method_5_code 22 = .ok (.bipush 10, 2) := by decide +kernel
theorem dd_method_5_24 : decode method_5_code 24 = .ok (.irem, 1) := by decide +kernel
theorem dd_method_5_25 : decode method_5_code 25 = .ok (.iadd, 1) := by decide +kernel
theorem dd_method_5_26 : decode method_5_code 26 = .ok (.i2c, 1) := by decide +kernel
theorem dd_method_5_27 : decode method_5_code 27 = .ok (.if_icmp .ne 7, 3) := by decide +kernel
theorem dd_method_5_30 : decode method_5_code 30 = .ok (.iconst 1, 1) := by decide +kernel
theorem dd_method_5_31 : decode method_5_code 31 = .ok (.goto 4, 3) := by decide +kernel
theorem dd_method_5_35 : decode method_5_code 35 = .ok (.ireturn, 1) := by decide +kernel
theorem dd_method_5_6 : decode method_5_code 6 = .ok (.iconst 1, 1) := by decide +kernel
theorem dd_method_5_7 : decode method_5_code 7 = .ok (.ireturn, 1) := by decide +kernel
theorem ef_own_d (m : MethodId) (x0 : Addr) (x1 : Int32) (x2 : Int32) (x3 : Int32) (x4 : Int32) (x5 : Int32) : entryFrame m #[(.ref x0), (.int x1), (.int x2), (.int x3), (.int x4), (.int x5)] 6 = mkF m 0 #[.val (.ref x0), .val (.int x1), .val (.int x2), .val (.int x3), .val (.int x4), .val (.int x5)] [] := by first | (simp [entryFrame, mkF, argsToLocals, Value.category]; done) | rfl
set_option maxRecDepth 65536 in
set_option maxHeartbeats 40000000 in
theorem own_d (l : Launch) (Z : State) (a0 : Array Value) (hw : ∀ d ∈ tables_1, d.before a0 Z = true) (EWf : own_EW Z own_EL) (n0 : Nat) (x t : Addr) (cs : List Int32) (v n ed K qq : Nat) (h0 : Heap) (O0 : Old Z n0 h0) (p_S : own_Str Z h0 x t cs) (hp : ∀ c ∈ cs, ¬ c < 0 ∧ ¬ (255 : Int32) < c) (p_c : ∀ K, K < n → cs[ed - K]? = some (Int32.ofNat (48 + v / 10 ^ K % 10))) (p_e : n ≤ ed + 1) (p_x : ed < 100) (p_b : v < 2 ^ 31) (SF : own_SF Z) (CS : own_CS Z) (p_K : K < 10) (p_q : qq = 10 ^ K) (p_Q : 0 < qq ∧ qq < 2 ^ 31) :
    own_Met l Z own_EL [] false n0 (⟨"com/example/tributary/tributary/LocationToStringPinLaw", "d", "(Ljava/lang/String;IIIII)Z"⟩ : MethodName) method_5_code 6 (some .boolean) ({ frames := 4, cells := 0, slots := 0, locals := 53 } : Room) #[(.ref x), (.int (Int32.ofNat ed)), (.int (Int32.ofNat v)), (.int (Int32.ofNat n)), (.int (Int32.ofNat K)), (.int (Int32.ofNat qq))] h0 (fun v' h => v' = some (.int 1) ∧ h0 = h) := by
  refine own_enter (own := "com/example/tributary/tributary/LocationToStringPinLaw") (nm := "d") (plainFor_of_name pn_10) rfl rfl O0 EWf ?_
  have W : ∀ (k : Nat) {d : Jvm.Cond}, tables_1[k]? = some d → d.before a0 Z = true := fun k d q => hw d (List.mem_of_getElem? q)
  intro G p e s m below meth c T0 hGe X0
  rw [ef_own_d m x ((Int32.ofNat ed)) ((Int32.ofNat v)) ((Int32.ofNat n)) ((Int32.ofNat K)) ((Int32.ofNat qq))]
  refine own_iload (pc' := 2) X0 dd_method_5_0 rfl rfl ?_
  refine own_iload_n (pc' := 3) X0 dd_method_5_2 rfl rfl ?_
  by_cases hK : K < n
  · refine own_icmpY (pc' := 8) X0 dd_method_5_3 ((tlt (own_i32lt hK (by omega))).1) (by decide) (by decide) ?_
    refine own_aload_n (pc' := 9) X0 dd_method_5_8 rfl rfl rfl ?_
    refine own_iload_n (pc' := 10) X0 dd_method_5_9 rfl rfl ?_
    refine own_iload (pc' := 12) X0 dd_method_5_10 rfl rfl ?_
    refine own_isub (pc' := 13) X0 dd_method_5_12 rfl (r := (Int32.ofNat (ed - K))) (own_i32sub (by omega) (by omega)) ?_
    refine own_strchar (pc' := 16) (W := 0) (i' := (ed - K)) (ch := (Int32.ofNat (48 + v / 10 ^ K % 10))) X0 (fun d hd => hw d (own_in_wordsChN d hd)) CS SF (W 195 rfl) (W 196 rfl) (W 198 rfl) (W 197 rfl) (W 2 rfl) p_S (fun c q => (hp c q).2) (p_c K hK) rfl (by decide) (by decide) (lenOf (L := [.int (Int32.ofNat (ed - K))]) pd_23 rfl) rfl rfl dd_method_5_13 rfl (by decide) (by decide) ?_
    intro T1 X1
    refine own_bipush (pc' := 18) X1 dd_method_5_16 rfl (z := (48 : Int32)) (by decide) ?_
    refine own_iload_n (pc' := 19) X1 dd_method_5_18 rfl rfl ?_
    refine own_iload (pc' := 21) X1 dd_method_5_19 rfl rfl ?_
    refine own_idiv (pc' := 22) X1 dd_method_5_21 rfl (fun q => absurd (congrArg Int32.toInt q) (by rw [own_i32 p_Q.2]; have := p_Q.1; show ¬ (qq : Int) = 0; omega)) ?_
    rw [own_i32div p_b p_Q.2]
    have d_l : v / qq < 2 ^ 31 := Nat.lt_of_le_of_lt (Nat.div_le_self _ _) p_b
    refine own_bipush (pc' := 24) X1 dd_method_5_22 rfl (z := (10 : Int32)) (by decide) ?_
    refine own_irem (pc' := 25) X1 dd_method_5_24 rfl (by decide) ?_
    rw [own_i32mod d_l]
    refine own_iadd (pc' := 26) X1 dd_method_5_25 rfl (r := ((48 : Int32) + (Int32.ofNat (v / qq % 10)))) rfl ?_
    refine own_i2c (pc' := 27) X1 dd_method_5_26 rfl ?_
    rw [own_dig16 (Nat.mod_lt _ (by decide))]
    refine own_icmpN (pc' := 30) X1 dd_method_5_27 rfl ((teq (by rw [p_q])).2) ?_
    refine own_iconst (pc' := 31) X1 dd_method_5_30 rfl (z := (1 : Int32)) (by decide) ?_
    refine own_goto (pc' := 35) X1 dd_method_5_31 (by decide) (by decide) ?_
    exact own_ret X1 hGe (t := .boolean) rfl rfl (Or.inl ⟨rfl, by simp, _, rfl⟩) dd_method_5_35 (by decide) (by decide) ⟨rfl, rfl⟩ nofun
  · refine own_icmpN (pc' := 6) X0 dd_method_5_3 rfl ((flt (own_i32le (by omega) (by omega))).1) ?_
    refine own_iconst (pc' := 7) X0 dd_method_5_6 rfl (z := (1 : Int32)) (by decide) ?_
    exact own_ret X0 hGe (t := .boolean) rfl rfl (Or.inl ⟨rfl, by simp, _, rfl⟩) dd_method_5_7 (by decide) (by decide) ⟨rfl, rfl⟩ nofun
theorem dd_method_4_0 : decode method_4_code 0 = .ok (.iload_n 2, 1) := by decide +kernel
theorem dd_method_4_1 : decode method_4_code 1 = .ok (.invokestatic 26, 3) := by decide +kernel
theorem dd_method_4_4 : decode method_4_code 4 = .ok (.istore_n 3, 1) := by decide +kernel
theorem dd_method_4_5 : decode method_4_code 5 = .ok (.aload_n 0, 1) := by decide +kernel
theorem dd_method_4_6 : decode method_4_code 6 = .ok (.iload_n 1, 1) := by decide +kernel
theorem dd_method_4_7 : decode method_4_code 7 = .ok (.iload_n 2, 1) := by decide +kernel
theorem dd_method_4_8 : decode method_4_code 8 = .ok (.iload_n 3, 1) := by decide +kernel
theorem dd_method_4_9 : decode method_4_code 9 = .ok (.iconst 0, 1) := by decide +kernel
theorem dd_method_4_10 : decode method_4_code 10 = .ok (.iconst 1, 1) := by decide +kernel
theorem dd_method_4_11 : decode method_4_code 11 = .ok (.invokestatic 49, 3) := by decide +kernel
theorem pd_24 : parseMethodDescriptor "(Ljava/lang/String;IIIII)Z" = some ⟨[(.object "java/lang/String"), .int, .int, .int, .int, .int], some .boolean⟩ := by decide +kernel
theorem dd_method_4_14 : decode method_4_code 14 = .ok (.ifCond .eq 130, 3) := by decide +kernel
theorem dd_method_4_17 : decode method_4_code 17 = .ok (.aload_n 0, 1) := by decide +kernel
theorem dd_method_4_18 : decode method_4_code 18 = .ok (.iload_n 1, 1) := by decide +kernel
theorem dd_method_4_19 : decode method_4_code 19 = .ok (.iload_n 2, 1) := by decide +kernel
theorem dd_method_4_20 : decode method_4_code 20 = .ok (.iload_n 3, 1) := by decide +kernel
theorem dd_method_4_21 : decode method_4_code 21 = .ok (.iconst 1, 1) := by decide +kernel
theorem dd_method_4_22 : decode method_4_code 22 = .ok (.bipush 10, 2) := by decide +kernel
theorem dd_method_4_24 : decode method_4_code 24 = .ok (.invokestatic 49, 3) := by decide +kernel
theorem dd_method_4_27 : decode method_4_code 27 = .ok (.ifCond .eq 117, 3) := by decide +kernel
theorem dd_method_4_30 : decode method_4_code 30 = .ok (.aload_n 0, 1) := by decide +kernel
theorem dd_method_4_31 : decode method_4_code 31 = .ok (.iload_n 1, 1) := by decide +kernel
theorem dd_method_4_32 : decode method_4_code 32 = .ok (.iload_n 2, 1) := by decide +kernel
theorem dd_method_4_33 : decode method_4_code 33 = .ok (.iload_n 3, 1) := by decide +kernel
theorem dd_method_4_34 : decode method_4_code 34 = .ok (.iconst 2, 1) := by decide +kernel
theorem dd_method_4_35 : decode method_4_code 35 = .ok (.bipush 100, 2) := by decide +kernel
theorem dd_method_4_37 : decode method_4_code 37 = .ok (.invokestatic 49, 3) := by decide +kernel
theorem dd_method_4_40 : decode method_4_code 40 = .ok (.ifCond .eq 104, 3) := by decide +kernel
theorem dd_method_4_43 : decode method_4_code 43 = .ok (.aload_n 0, 1) := by decide +kernel
theorem dd_method_4_44 : decode method_4_code 44 = .ok (.iload_n 1, 1) := by decide +kernel
theorem dd_method_4_45 : decode method_4_code 45 = .ok (.iload_n 2, 1) := by decide +kernel
theorem dd_method_4_46 : decode method_4_code 46 = .ok (.iload_n 3, 1) := by decide +kernel
theorem dd_method_4_47 : decode method_4_code 47 = .ok (.iconst 3, 1) := by decide +kernel
theorem dd_method_4_48 : decode method_4_code 48 = .ok (.sipush 1000, 3) := by decide +kernel
theorem dd_method_4_51 : decode method_4_code 51 = .ok (.invokestatic 49, 3) := by decide +kernel
theorem dd_method_4_54 : decode method_4_code 54 = .ok (.ifCond .eq 90, 3) := by decide +kernel
theorem dd_method_4_57 : decode method_4_code 57 = .ok (.aload_n 0, 1) := by decide +kernel
theorem dd_method_4_58 : decode method_4_code 58 = .ok (.iload_n 1, 1) := by decide +kernel
theorem dd_method_4_59 : decode method_4_code 59 = .ok (.iload_n 2, 1) := by decide +kernel
theorem dd_method_4_60 : decode method_4_code 60 = .ok (.iload_n 3, 1) := by decide +kernel
theorem dd_method_4_61 : decode method_4_code 61 = .ok (.iconst 4, 1) := by decide +kernel
theorem dd_method_4_62 : decode method_4_code 62 = .ok (.sipush 10000, 3) := by decide +kernel
theorem dd_method_4_65 : decode method_4_code 65 = .ok (.invokestatic 49, 3) := by decide +kernel
theorem dd_method_4_68 : decode method_4_code 68 = .ok (.ifCond .eq 76, 3) := by decide +kernel
theorem dd_method_4_71 : decode method_4_code 71 = .ok (.aload_n 0, 1) := by decide +kernel
theorem dd_method_4_72 : decode method_4_code 72 = .ok (.iload_n 1, 1) := by decide +kernel
theorem dd_method_4_73 : decode method_4_code 73 = .ok (.iload_n 2, 1) := by decide +kernel
theorem dd_method_4_74 : decode method_4_code 74 = .ok (.iload_n 3, 1) := by decide +kernel
theorem dd_method_4_75 : decode method_4_code 75 = .ok (.iconst 5, 1) := by decide +kernel
theorem dd_method_4_76 : decode method_4_code 76 = .ok (.ldc 48, 2) := by decide +kernel
theorem dd_method_4_78 : decode method_4_code 78 = .ok (.invokestatic 49, 3) := by decide +kernel
theorem dd_method_4_81 : decode method_4_code 81 = .ok (.ifCond .eq 63, 3) := by decide +kernel
theorem dd_method_4_84 : decode method_4_code 84 = .ok (.aload_n 0, 1) := by decide +kernel
theorem dd_method_4_85 : decode method_4_code 85 = .ok (.iload_n 1, 1) := by decide +kernel
theorem dd_method_4_86 : decode method_4_code 86 = .ok (.iload_n 2, 1) := by decide +kernel
theorem dd_method_4_87 : decode method_4_code 87 = .ok (.iload_n 3, 1) := by decide +kernel
theorem dd_method_4_88 : decode method_4_code 88 = .ok (.bipush 6, 2) := by decide +kernel
theorem dd_method_4_90 : decode method_4_code 90 = .ok (.ldc 47, 2) := by decide +kernel
theorem dd_method_4_92 : decode method_4_code 92 = .ok (.invokestatic 49, 3) := by decide +kernel
theorem dd_method_4_95 : decode method_4_code 95 = .ok (.ifCond .eq 49, 3) := by decide +kernel
theorem dd_method_4_98 : decode method_4_code 98 = .ok (.aload_n 0, 1) := by decide +kernel
theorem dd_method_4_99 : decode method_4_code 99 = .ok (.iload_n 1, 1) := by decide +kernel
theorem dd_method_4_100 : decode method_4_code 100 = .ok (.iload_n 2, 1) := by decide +kernel
theorem dd_method_4_101 : decode method_4_code 101 = .ok (.iload_n 3, 1) := by decide +kernel
theorem dd_method_4_102 : decode method_4_code 102 = .ok (.bipush 7, 2) := by decide +kernel
theorem dd_method_4_104 : decode method_4_code 104 = .ok (.ldc 46, 2) := by decide +kernel
theorem dd_method_4_106 : decode method_4_code 106 = .ok (.invokestatic 49, 3) := by decide +kernel
theorem dd_method_4_109 : decode method_4_code 109 = .ok (.ifCond .eq 35, 3) := by decide +kernel
theorem dd_method_4_112 : decode method_4_code 112 = .ok (.aload_n 0, 1) := by decide +kernel
theorem dd_method_4_113 : decode method_4_code 113 = .ok (.iload_n 1, 1) := by decide +kernel
theorem dd_method_4_114 : decode method_4_code 114 = .ok (.iload_n 2, 1) := by decide +kernel
theorem dd_method_4_115 : decode method_4_code 115 = .ok (.iload_n 3, 1) := by decide +kernel
theorem dd_method_4_116 : decode method_4_code 116 = .ok (.bipush 8, 2) := by decide +kernel
theorem dd_method_4_118 : decode method_4_code 118 = .ok (.ldc 45, 2) := by decide +kernel
theorem dd_method_4_120 : decode method_4_code 120 = .ok (.invokestatic 49, 3) := by decide +kernel
theorem dd_method_4_123 : decode method_4_code 123 = .ok (.ifCond .eq 21, 3) := by decide +kernel
theorem dd_method_4_126 : decode method_4_code 126 = .ok (.aload_n 0, 1) := by decide +kernel
theorem dd_method_4_127 : decode method_4_code 127 = .ok (.iload_n 1, 1) := by decide +kernel
theorem dd_method_4_128 : decode method_4_code 128 = .ok (.iload_n 2, 1) := by decide +kernel
theorem dd_method_4_129 : decode method_4_code 129 = .ok (.iload_n 3, 1) := by decide +kernel
theorem dd_method_4_130 : decode method_4_code 130 = .ok (.bipush 9, 2) := by decide +kernel
theorem dd_method_4_132 : decode method_4_code 132 = .ok (.ldc 44, 2) := by decide +kernel
theorem dd_method_4_134 : decode method_4_code 134 = .ok (.invokestatic 49, 3) := by decide +kernel
theorem dd_method_4_137 : decode method_4_code 137 = .ok (.ifCond .eq 7, 3) := by decide +kernel
theorem dd_method_4_140 : decode method_4_code 140 = .ok (.iconst 1, 1) := by decide +kernel
theorem dd_method_4_141 : decode method_4_code 141 = .ok (.goto 4, 3) := by decide +kernel
theorem dd_method_4_145 : decode method_4_code 145 = .ok (.ireturn, 1) := by decide +kernel
theorem ef_own_digs (m : MethodId) (x0 : Addr) (x1 : Int32) (x2 : Int32) : entryFrame m #[(.ref x0), (.int x1), (.int x2)] 4 = mkF m 0 #[.val (.ref x0), .val (.int x1), .val (.int x2), .unset] [] := by first | (simp [entryFrame, mkF, argsToLocals, Value.category]; done) | rfl
set_option maxRecDepth 65536 in
set_option maxHeartbeats 40000000 in
theorem own_digs (l : Launch) (Z : State) (a0 : Array Value) (hw : ∀ d ∈ tables_1, d.before a0 Z = true) (EWf : own_EW Z own_EL) (n0 : Nat) (x t : Addr) (cs : List Int32) (v n ed : Nat) (h0 : Heap) (O0 : Old Z n0 h0) (p_S : own_Str Z h0 x t cs) (hp : ∀ c ∈ cs, ¬ c < 0 ∧ ¬ (255 : Int32) < c) (p_c : ∀ K, K < n → cs[ed - K]? = some (Int32.ofNat (48 + v / 10 ^ K % 10))) (p_e : n ≤ ed + 1) (p_x : ed < 100) (p_b : v < 2 ^ 31) (SF : own_SF Z) (CS : own_CS Z) (p_1 : 1 ≤ n) (p_10 : n ≤ 10) (p_v : 10 ^ (n - 1) ≤ v) (p_w : v < 10 ^ n) :
    own_Met l Z own_EL [] false n0 (⟨"com/example/tributary/tributary/LocationToStringPinLaw", "digits", "(Ljava/lang/String;II)Z"⟩ : MethodName) method_4_code 4 (some .boolean) ({ frames := 5, cells := 0, slots := 0, locals := 70 } : Room) #[(.ref x), (.int (Int32.ofNat ed)), (.int (Int32.ofNat v))] h0 (fun v' h => v' = some (.int 1) ∧ h0 = h) := by
  refine own_enter (own := "com/example/tributary/tributary/LocationToStringPinLaw") (nm := "digits") (plainFor_of_name pn_10) rfl rfl O0 EWf ?_
  have W : ∀ (k : Nat) {d : Jvm.Cond}, tables_1[k]? = some d → d.before a0 Z = true := fun k d q => hw d (List.mem_of_getElem? q)
  intro G p e s m below meth c T0 hGe X0
  rw [ef_own_digs m x ((Int32.ofNat ed)) ((Int32.ofNat v))]
  refine own_iload_n (pc' := 1) X0 dd_method_4_0 rfl rfl ?_
  refine own_callSM (pc' := 4) (cells' := 0) (slots' := 0) (argsL := [(.int (Int32.ofNat v))]) (rest := []) (W := 0) (y := (⟨"com/example/tributary/tributary/LocationToStringPinLaw", "nd", "(I)I"⟩ : MethodName)) X0 (W 185 rfl) (W 186 rfl) (by decide) (own_nd l Z a0 hw EWf n0 v n h0 (own_old X0) p_1 p_v p_w p_b) all0 (W 188 rfl) (W 187 rfl) (by decide) (by decide) rfl (lenOf pd_4 rfl) rfl rfl dd_method_4_1 rfl rfl rfl rfl (by decide) (by decide) ?_
  intro v1 T1 h1 s1 X1 q1 r1
  obtain ⟨rfl, rfl⟩ := q1
  show G T1 (mkF m 4 #[.val (.ref x), .val (.int (Int32.ofNat ed)), .val (.int (Int32.ofNat v)), .unset] [(.int (Int32.ofNat n))])
  refine own_istore_n (pc' := 5) X1 dd_method_4_4 rfl (Ls' := #[.val (.ref x), .val (.int (Int32.ofNat ed)), .val (.int (Int32.ofNat v)), .val (.int (Int32.ofNat n))]) rfl ?_
  refine own_aload_n (pc' := 6) X1 dd_method_4_5 rfl rfl rfl ?_
  refine own_iload_n (pc' := 7) X1 dd_method_4_6 rfl rfl ?_
  refine own_iload_n (pc' := 8) X1 dd_method_4_7 rfl rfl ?_
  refine own_iload_n (pc' := 9) X1 dd_method_4_8 rfl rfl ?_
  refine own_iconst (pc' := 10) X1 dd_method_4_9 rfl (z := (0 : Int32)) (by decide) ?_
  refine own_iconst (pc' := 11) X1 dd_method_4_10 rfl (z := (1 : Int32)) (by decide) ?_
  refine own_callSM (pc' := 14) (cells' := 0) (slots' := 0) (argsL := [(.ref x), (.int (Int32.ofNat ed)), (.int (Int32.ofNat v)), (.int (Int32.ofNat n)), (.int (0 : Int32)), (.int (1 : Int32))]) (rest := []) (W := 0) (y := (⟨"com/example/tributary/tributary/LocationToStringPinLaw", "d", "(Ljava/lang/String;IIIII)Z"⟩ : MethodName)) X1 (W 220 rfl) (W 221 rfl) (by decide) (own_d l Z a0 hw EWf n0 x t cs v n ed 0 1 h0 (own_old X1) p_S hp p_c p_e p_x p_b SF CS (by decide) (by decide) (by decide)) all0 (W 222 rfl) (W 187 rfl) (by decide) (by decide) rfl (lenOf pd_24 rfl) rfl rfl dd_method_4_11 rfl rfl rfl rfl (by decide) (by decide) ?_
  intro v2 T2 h2 s2 X2 q2 r2
  obtain ⟨rfl, rfl⟩ := q2
  show G T2 (mkF m 14 #[.val (.ref x), .val (.int (Int32.ofNat ed)), .val (.int (Int32.ofNat v)), .val (.int (Int32.ofNat n))] [(.int (1 : Int32))])
  refine own_ifN (pc' := 17) X2 dd_method_4_14 rfl ((feq (by decide)).1) ?_
  refine own_aload_n (pc' := 18) X2 dd_method_4_17 rfl rfl rfl ?_
  refine own_iload_n (pc' := 19) X2 dd_method_4_18 rfl rfl ?_
  refine own_iload_n (pc' := 20) X2 dd_method_4_19 rfl rfl ?_
  refine own_iload_n (pc' := 21) X2 dd_method_4_20 rfl rfl ?_
  refine own_iconst (pc' := 22) X2 dd_method_4_21 rfl (z := (1 : Int32)) (by decide) ?_
  refine own_bipush (pc' := 24) X2 dd_method_4_22 rfl (z := (10 : Int32)) (by decide) ?_
  refine own_callSM (pc' := 27) (cells' := 0) (slots' := 0) (argsL := [(.ref x), (.int (Int32.ofNat ed)), (.int (Int32.ofNat v)), (.int (Int32.ofNat n)), (.int (1 : Int32)), (.int (10 : Int32))]) (rest := []) (W := 0) (y := (⟨"com/example/tributary/tributary/LocationToStringPinLaw", "d", "(Ljava/lang/String;IIIII)Z"⟩ : MethodName)) X2 (W 220 rfl) (W 221 rfl) (by decide) (own_d l Z a0 hw EWf n0 x t cs v n ed 1 10 h0 (own_old X2) p_S hp p_c p_e p_x p_b SF CS (by decide) (by decide) (by decide)) all0 (W 222 rfl) (W 187 rfl) (by decide) (by decide) rfl (lenOf pd_24 rfl) rfl rfl dd_method_4_24 rfl rfl rfl rfl (by decide) (by decide) ?_
  intro v3 T3 h3 s3 X3 q3 r3
  obtain ⟨rfl, rfl⟩ := q3
  show G T3 (mkF m 27 #[.val (.ref x), .val (.int (Int32.ofNat ed)), .val (.int (Int32.ofNat v)), .val (.int (Int32.ofNat n))] [(.int (1 : Int32))])
  refine own_ifN (pc' := 30) X3 dd_method_4_27 rfl ((feq (by decide)).1) ?_
  refine own_aload_n (pc' := 31) X3 dd_method_4_30 rfl rfl rfl ?_
  refine own_iload_n (pc' := 32) X3 dd_method_4_31 rfl rfl ?_
  refine own_iload_n (pc' := 33) X3 dd_method_4_32 rfl rfl ?_
  refine own_iload_n (pc' := 34) X3 dd_method_4_33 rfl rfl ?_
  refine own_iconst (pc' := 35) X3 dd_method_4_34 rfl (z := (2 : Int32)) (by decide) ?_
  refine own_bipush (pc' := 37) X3 dd_method_4_35 rfl (z := (100 : Int32)) (by decide) ?_
  refine own_callSM (pc' := 40) (cells' := 0) (slots' := 0) (argsL := [(.ref x), (.int (Int32.ofNat ed)), (.int (Int32.ofNat v)), (.int (Int32.ofNat n)), (.int (2 : Int32)), (.int (100 : Int32))]) (rest := []) (W := 0) (y := (⟨"com/example/tributary/tributary/LocationToStringPinLaw", "d", "(Ljava/lang/String;IIIII)Z"⟩ : MethodName)) X3 (W 220 rfl) (W 221 rfl) (by decide) (own_d l Z a0 hw EWf n0 x t cs v n ed 2 100 h0 (own_old X3) p_S hp p_c p_e p_x p_b SF CS (by decide) (by decide) (by decide)) all0 (W 222 rfl) (W 187 rfl) (by decide) (by decide) rfl (lenOf pd_24 rfl) rfl rfl dd_method_4_37 rfl rfl rfl rfl (by decide) (by decide) ?_
  intro v4 T4 h4 s4 X4 q4 r4
  obtain ⟨rfl, rfl⟩ := q4
  show G T4 (mkF m 40 #[.val (.ref x), .val (.int (Int32.ofNat ed)), .val (.int (Int32.ofNat v)), .val (.int (Int32.ofNat n))] [(.int (1 : Int32))])
  refine own_ifN (pc' := 43) X4 dd_method_4_40 rfl ((feq (by decide)).1) ?_
  refine own_aload_n (pc' := 44) X4 dd_method_4_43 rfl rfl rfl ?_
  refine own_iload_n (pc' := 45) X4 dd_method_4_44 rfl rfl ?_
  refine own_iload_n (pc' := 46) X4 dd_method_4_45 rfl rfl ?_
  refine own_iload_n (pc' := 47) X4 dd_method_4_46 rfl rfl ?_
  refine own_iconst (pc' := 48) X4 dd_method_4_47 rfl (z := (3 : Int32)) (by decide) ?_
  refine own_sipush (pc' := 51) X4 dd_method_4_48 rfl (z := (1000 : Int32)) (by decide) ?_
  refine own_callSM (pc' := 54) (cells' := 0) (slots' := 0) (argsL := [(.ref x), (.int (Int32.ofNat ed)), (.int (Int32.ofNat v)), (.int (Int32.ofNat n)), (.int (3 : Int32)), (.int (1000 : Int32))]) (rest := []) (W := 0) (y := (⟨"com/example/tributary/tributary/LocationToStringPinLaw", "d", "(Ljava/lang/String;IIIII)Z"⟩ : MethodName)) X4 (W 220 rfl) (W 221 rfl) (by decide) (own_d l Z a0 hw EWf n0 x t cs v n ed 3 1000 h0 (own_old X4) p_S hp p_c p_e p_x p_b SF CS (by decide) (by decide) (by decide)) all0 (W 222 rfl) (W 187 rfl) (by decide) (by decide) rfl (lenOf pd_24 rfl) rfl rfl dd_method_4_51 rfl rfl rfl rfl (by decide) (by decide) ?_
  intro v5 T5 h5 s5 X5 q5 r5
  obtain ⟨rfl, rfl⟩ := q5
  show G T5 (mkF m 54 #[.val (.ref x), .val (.int (Int32.ofNat ed)), .val (.int (Int32.ofNat v)), .val (.int (Int32.ofNat n))] [(.int (1 : Int32))])
  refine own_ifN (pc' := 57) X5 dd_method_4_54 rfl ((feq (by decide)).1) ?_
  refine own_aload_n (pc' := 58) X5 dd_method_4_57 rfl rfl rfl ?_
  refine own_iload_n (pc' := 59) X5 dd_method_4_58 rfl rfl ?_
  refine own_iload_n (pc' := 60) X5 dd_method_4_59 rfl rfl ?_
  refine own_iload_n (pc' := 61) X5 dd_method_4_60 rfl rfl ?_
  refine own_iconst (pc' := 62) X5 dd_method_4_61 rfl (z := (4 : Int32)) (by decide) ?_
  refine own_sipush (pc' := 65) X5 dd_method_4_62 rfl (z := (10000 : Int32)) (by decide) ?_
  refine own_callSM (pc' := 68) (cells' := 0) (slots' := 0) (argsL := [(.ref x), (.int (Int32.ofNat ed)), (.int (Int32.ofNat v)), (.int (Int32.ofNat n)), (.int (4 : Int32)), (.int (10000 : Int32))]) (rest := []) (W := 0) (y := (⟨"com/example/tributary/tributary/LocationToStringPinLaw", "d", "(Ljava/lang/String;IIIII)Z"⟩ : MethodName)) X5 (W 220 rfl) (W 221 rfl) (by decide) (own_d l Z a0 hw EWf n0 x t cs v n ed 4 10000 h0 (own_old X5) p_S hp p_c p_e p_x p_b SF CS (by decide) (by decide) (by decide)) all0 (W 222 rfl) (W 187 rfl) (by decide) (by decide) rfl (lenOf pd_24 rfl) rfl rfl dd_method_4_65 rfl rfl rfl rfl (by decide) (by decide) ?_
  intro v6 T6 h6 s6 X6 q6 r6
  obtain ⟨rfl, rfl⟩ := q6
  show G T6 (mkF m 68 #[.val (.ref x), .val (.int (Int32.ofNat ed)), .val (.int (Int32.ofNat v)), .val (.int (Int32.ofNat n))] [(.int (1 : Int32))])
  refine own_ifN (pc' := 71) X6 dd_method_4_68 rfl ((feq (by decide)).1) ?_
  refine own_aload_n (pc' := 72) X6 dd_method_4_71 rfl rfl rfl ?_
  refine own_iload_n (pc' := 73) X6 dd_method_4_72 rfl rfl ?_
  refine own_iload_n (pc' := 74) X6 dd_method_4_73 rfl rfl ?_
  refine own_iload_n (pc' := 75) X6 dd_method_4_74 rfl rfl ?_
  refine own_iconst (pc' := 76) X6 dd_method_4_75 rfl (z := (5 : Int32)) (by decide) ?_
  refine own_ldcI (pc' := 78) X6 (v := (100000 : Int32)) (W 193 rfl) dd_method_4_76 rfl ?_
  refine own_callSM (pc' := 81) (cells' := 0) (slots' := 0) (argsL := [(.ref x), (.int (Int32.ofNat ed)), (.int (Int32.ofNat v)), (.int (Int32.ofNat n)), (.int (5 : Int32)), (.int (100000 : Int32))]) (rest := []) (W := 0) (y := (⟨"com/example/tributary/tributary/LocationToStringPinLaw", "d", "(Ljava/lang/String;IIIII)Z"⟩ : MethodName)) X6 (W 220 rfl) (W 221 rfl) (by decide) (own_d l Z a0 hw EWf n0 x t cs v n ed 5 100000 h0 (own_old X6) p_S hp p_c p_e p_x p_b SF CS (by decide) (by decide) (by decide)) all0 (W 222 rfl) (W 187 rfl) (by decide) (by decide) rfl (lenOf pd_24 rfl) rfl rfl dd_method_4_78 rfl rfl rfl rfl (by decide) (by decide) ?_
  intro v7 T7 h7 s7 X7 q7 r7
  obtain ⟨rfl, rfl⟩ := q7
  show G T7 (mkF m 81 #[.val (.ref x), .val (.int (Int32.ofNat ed)), .val (.int (Int32.ofNat v)), .val (.int (Int32.ofNat n))] [(.int (1 : Int32))])
  refine own_ifN (pc' := 84) X7 dd_method_4_81 rfl ((feq (by decide)).1) ?_
  refine own_aload_n (pc' := 85) X7 dd_method_4_84 rfl rfl rfl ?_
  refine own_iload_n (pc' := 86) X7 dd_method_4_85 rfl rfl ?_
  refine own_iload_n (pc' := 87) X7 dd_method_4_86 rfl rfl ?_
  refine own_iload_n (pc' := 88) X7 dd_method_4_87 rfl rfl ?_
  refine own_bipush (pc' := 90) X7 dd_method_4_88 rfl (z := (6 : Int32)) (by decide) ?_
  refine own_ldcI (pc' := 92) X7 (v := (1000000 : Int32)) (W 192 rfl) dd_method_4_90 rfl ?_
  refine own_callSM (pc' := 95) (cells' := 0) (slots' := 0) (argsL := [(.ref x), (.int (Int32.ofNat ed)), (.int (Int32.ofNat v)), (.int (Int32.ofNat n)), (.int (6 : Int32)), (.int (1000000 : Int32))]) (rest := []) (W := 0) (y := (⟨"com/example/tributary/tributary/LocationToStringPinLaw", "d", "(Ljava/lang/String;IIIII)Z"⟩ : MethodName)) X7 (W 220 rfl) (W 221 rfl) (by decide) (own_d l Z a0 hw EWf n0 x t cs v n ed 6 1000000 h0 (own_old X7) p_S hp p_c p_e p_x p_b SF CS (by decide) (by decide) (by decide)) all0 (W 222 rfl) (W 187 rfl) (by decide) (by decide) rfl (lenOf pd_24 rfl) rfl rfl dd_method_4_92 rfl rfl rfl rfl (by decide) (by decide) ?_
  intro v8 T8 h8 s8 X8 q8 r8
  obtain ⟨rfl, rfl⟩ := q8
  show G T8 (mkF m 95 #[.val (.ref x), .val (.int (Int32.ofNat ed)), .val (.int (Int32.ofNat v)), .val (.int (Int32.ofNat n))] [(.int (1 : Int32))])
  refine own_ifN (pc' := 98) X8 dd_method_4_95 rfl ((feq (by decide)).1) ?_
  refine own_aload_n (pc' := 99) X8 dd_method_4_98 rfl rfl rfl ?_
  refine own_iload_n (pc' := 100) X8 dd_method_4_99 rfl rfl ?_
  refine own_iload_n (pc' := 101) X8 dd_method_4_100 rfl rfl ?_
  refine own_iload_n (pc' := 102) X8 dd_method_4_101 rfl rfl ?_
  refine own_bipush (pc' := 104) X8 dd_method_4_102 rfl (z := (7 : Int32)) (by decide) ?_
  refine own_ldcI (pc' := 106) X8 (v := (10000000 : Int32)) (W 191 rfl) dd_method_4_104 rfl ?_
  refine own_callSM (pc' := 109) (cells' := 0) (slots' := 0) (argsL := [(.ref x), (.int (Int32.ofNat ed)), (.int (Int32.ofNat v)), (.int (Int32.ofNat n)), (.int (7 : Int32)), (.int (10000000 : Int32))]) (rest := []) (W := 0) (y := (⟨"com/example/tributary/tributary/LocationToStringPinLaw", "d", "(Ljava/lang/String;IIIII)Z"⟩ : MethodName)) X8 (W 220 rfl) (W 221 rfl) (by decide) (own_d l Z a0 hw EWf n0 x t cs v n ed 7 10000000 h0 (own_old X8) p_S hp p_c p_e p_x p_b SF CS (by decide) (by decide) (by decide)) all0 (W 222 rfl) (W 187 rfl) (by decide) (by decide) rfl (lenOf pd_24 rfl) rfl rfl dd_method_4_106 rfl rfl rfl rfl (by decide) (by decide) ?_
  intro v9 T9 h9 s9 X9 q9 r9
  obtain ⟨rfl, rfl⟩ := q9
  show G T9 (mkF m 109 #[.val (.ref x), .val (.int (Int32.ofNat ed)), .val (.int (Int32.ofNat v)), .val (.int (Int32.ofNat n))] [(.int (1 : Int32))])
  refine own_ifN (pc' := 112) X9 dd_method_4_109 rfl ((feq (by decide)).1) ?_
  refine own_aload_n (pc' := 113) X9 dd_method_4_112 rfl rfl rfl ?_
  refine own_iload_n (pc' := 114) X9 dd_method_4_113 rfl rfl ?_
  refine own_iload_n (pc' := 115) X9 dd_method_4_114 rfl rfl ?_
  refine own_iload_n (pc' := 116) X9 dd_method_4_115 rfl rfl ?_
  refine own_bipush (pc' := 118) X9 dd_method_4_116 rfl (z := (8 : Int32)) (by decide) ?_
  refine own_ldcI (pc' := 120) X9 (v := (100000000 : Int32)) (W 190 rfl) dd_method_4_118 rfl ?_
  refine own_callSM (pc' := 123) (cells' := 0) (slots' := 0) (argsL := [(.ref x), (.int (Int32.ofNat ed)), (.int (Int32.ofNat v)), (.int (Int32.ofNat n)), (.int (8 : Int32)), (.int (100000000 : Int32))]) (rest := []) (W := 0) (y := (⟨"com/example/tributary/tributary/LocationToStringPinLaw", "d", "(Ljava/lang/String;IIIII)Z"⟩ : MethodName)) X9 (W 220 rfl) (W 221 rfl) (by decide) (own_d l Z a0 hw EWf n0 x t cs v n ed 8 100000000 h0 (own_old X9) p_S hp p_c p_e p_x p_b SF CS (by decide) (by decide) (by decide)) all0 (W 222 rfl) (W 187 rfl) (by decide) (by decide) rfl (lenOf pd_24 rfl) rfl rfl dd_method_4_120 rfl rfl rfl rfl (by decide) (by decide) ?_
  intro v10 T10 h10 s10 X10 q10 r10
  obtain ⟨rfl, rfl⟩ := q10
  show G T10 (mkF m 123 #[.val (.ref x), .val (.int (Int32.ofNat ed)), .val (.int (Int32.ofNat v)), .val (.int (Int32.ofNat n))] [(.int (1 : Int32))])
  refine own_ifN (pc' := 126) X10 dd_method_4_123 rfl ((feq (by decide)).1) ?_
  refine own_aload_n (pc' := 127) X10 dd_method_4_126 rfl rfl rfl ?_
  refine own_iload_n (pc' := 128) X10 dd_method_4_127 rfl rfl ?_
  refine own_iload_n (pc' := 129) X10 dd_method_4_128 rfl rfl ?_
  refine own_iload_n (pc' := 130) X10 dd_method_4_129 rfl rfl ?_
  refine own_bipush (pc' := 132) X10 dd_method_4_130 rfl (z := (9 : Int32)) (by decide) ?_
  refine own_ldcI (pc' := 134) X10 (v := (1000000000 : Int32)) (W 189 rfl) dd_method_4_132 rfl ?_
  refine own_callSM (pc' := 137) (cells' := 0) (slots' := 0) (argsL := [(.ref x), (.int (Int32.ofNat ed)), (.int (Int32.ofNat v)), (.int (Int32.ofNat n)), (.int (9 : Int32)), (.int (1000000000 : Int32))]) (rest := []) (W := 0) (y := (⟨"com/example/tributary/tributary/LocationToStringPinLaw", "d", "(Ljava/lang/String;IIIII)Z"⟩ : MethodName)) X10 (W 220 rfl) (W 221 rfl) (by decide) (own_d l Z a0 hw EWf n0 x t cs v n ed 9 1000000000 h0 (own_old X10) p_S hp p_c p_e p_x p_b SF CS (by decide) (by decide) (by decide)) all0 (W 222 rfl) (W 187 rfl) (by decide) (by decide) rfl (lenOf pd_24 rfl) rfl rfl dd_method_4_134 rfl rfl rfl rfl (by decide) (by decide) ?_
  intro v11 T11 h11 s11 X11 q11 r11
  obtain ⟨rfl, rfl⟩ := q11
  show G T11 (mkF m 137 #[.val (.ref x), .val (.int (Int32.ofNat ed)), .val (.int (Int32.ofNat v)), .val (.int (Int32.ofNat n))] [(.int (1 : Int32))])
  refine own_ifN (pc' := 140) X11 dd_method_4_137 rfl ((feq (by decide)).1) ?_
  refine own_iconst (pc' := 141) X11 dd_method_4_140 rfl (z := (1 : Int32)) (by decide) ?_
  refine own_goto (pc' := 145) X11 dd_method_4_141 (by decide) (by decide) ?_
  exact own_ret X11 hGe (t := .boolean) rfl rfl (Or.inl ⟨rfl, by simp, _, rfl⟩) dd_method_4_145 (by decide) (by decide) ⟨rfl, rfl⟩ nofun
theorem dd_jdk_42_method_66_0 : decode jdk_42_method_66_code 0 = .ok (.aload_n 0, 1) := by decide +kernel
theorem dd_jdk_42_method_66_1 : decode jdk_42_method_66_code 1 = .ok (.aload_n 1, 1) := by decide +kernel
theorem dd_jdk_42_method_66_2 : decode jdk_42_method_66_code 2 = .ok (.if_acmp .ne 5, 3) := by decide +kernel
theorem dd_jdk_42_method_66_5 : decode jdk_42_method_66_code 5 = .ok (.iconst 1, 1) := by decide +kernel
theorem dd_jdk_42_method_66_6 : decode jdk_42_method_66_code 6 = .ok (.ireturn, 1) := by decide +kernel
theorem ef_own_eqS (m : MethodId) (x0 : Addr) (x1 : Addr) : entryFrame m #[(.ref x0), (.ref x1)] 3 = mkF m 0 #[.val (.ref x0), .val (.ref x1), .unset] [] := by first | (simp [entryFrame, mkF, argsToLocals, Value.category]; done) | rfl
set_option maxRecDepth 65536 in
set_option maxHeartbeats 40000000 in
theorem own_eqS (l : Launch) (Z : State) (a0 : Array Value) (hw : ∀ d ∈ tables_1, d.before a0 Z = true) (EWf : own_EW Z own_EL) (n0 : Nat) (x : Addr) (h0 : Heap) (O0 : Old Z n0 h0)  :
    own_Met l Z own_EL [] false n0 (⟨"java/lang/String", "equals", "(Ljava/lang/Object;)Z"⟩ : MethodName) jdk_42_method_66_code 3 (some .boolean) ({ frames := 0, cells := 0, slots := 0, locals := 0 } : Room) #[(.ref x), (.ref x)] h0 (fun v h => v = some (.int 1) ∧ h0 = h) := by
  refine own_enter (own := "java/lang/String") (nm := "equals") (plainFor_of_name pn_2) rfl rfl O0 EWf ?_
  have W : ∀ (k : Nat) {d : Jvm.Cond}, tables_1[k]? = some d → d.before a0 Z = true := fun k d q => hw d (List.mem_of_getElem? q)
  intro G p e s m below meth c T0 hGe X0
  rw [ef_own_eqS m x x]
  refine own_aload_n (pc' := 1) X0 dd_jdk_42_method_66_0 rfl rfl rfl ?_
  refine own_aload_n (pc' := 2) X0 dd_jdk_42_method_66_1 rfl rfl rfl ?_
  refine own_acmp (pc' := 5) (same := true) X0 dd_jdk_42_method_66_2 rfl rfl (by simp) (by decide) (by decide) ?_
  refine own_iconst (pc' := 6) X0 dd_jdk_42_method_66_5 rfl (z := (1 : Int32)) (by decide) ?_
  exact own_ret X0 hGe (t := .boolean) rfl rfl (Or.inl ⟨rfl, by simp, _, rfl⟩) dd_jdk_42_method_66_6 (by decide) (by decide) ⟨rfl, rfl⟩ nofun
theorem dd_jdk_42_method_149_0 : decode jdk_42_method_149_code 0 = .ok (.aload_n 0, 1) := by decide +kernel
theorem dd_jdk_42_method_149_1 : decode jdk_42_method_149_code 1 = .ok (.invokespecial 1, 3) := by decide +kernel
theorem dd_jdk_42_method_149_4 : decode jdk_42_method_149_code 4 = .ok (.iload_n 3, 1) := by decide +kernel
theorem dd_jdk_42_method_149_5 : decode jdk_42_method_149_code 5 = .ok (.ifCond .ne 22, 3) := by decide +kernel
theorem dd_jdk_42_method_149_8 : decode jdk_42_method_149_code 8 = .ok (.aload_n 0, 1) := by decide +kernel
theorem dd_jdk_42_method_149_9 : decode jdk_42_method_149_code 9 = .ok (.ldc 7, 2) := by decide +kernel
theorem dd_jdk_42_method_149_11 : decode jdk_42_method_149_code 11 = .ok (.getfield 9, 3) := by decide +kernel
theorem dd_jdk_42_method_149_14 : decode jdk_42_method_149_code 14 = .ok (.putfield 9, 3) := by decide +kernel
theorem dd_jdk_42_method_149_17 : decode jdk_42_method_149_code 17 = .ok (.aload_n 0, 1) := by decide +kernel
theorem dd_jdk_42_method_149_18 : decode jdk_42_method_149_code 18 = .ok (.ldc 7, 2) := by decide +kernel
theorem dd_jdk_42_method_149_20 : decode jdk_42_method_149_code 20 = .ok (.getfield 15, 3) := by decide +kernel
theorem dd_jdk_42_method_149_23 : decode jdk_42_method_149_code 23 = .ok (.putfield 15, 3) := by decide +kernel
theorem dd_jdk_42_method_149_26 : decode jdk_42_method_149_code 26 = .ok (.return_, 1) := by decide +kernel
theorem ef_own_sinitV (m : MethodId) (x0 : Addr) (x1 : Addr) (x2 : Int32) (x3 : Int32) : entryFrame m #[(.ref x0), (.ref x1), (.int x2), (.int x3), .null] 6 = mkF m 0 #[.val (.ref x0), .val (.ref x1), .val (.int x2), .val (.int x3), .val .null, .unset] [] := by first | (simp [entryFrame, mkF, argsToLocals, Value.category]; done) | rfl
set_option maxRecDepth 65536 in
set_option maxHeartbeats 40000000 in
theorem own_sinitV (l : Launch) (Z : State) (a0 : Array Value) (hw : ∀ d ∈ tables_1, d.before a0 Z = true) (EWf : own_EW Z own_EL) (n0 : Nat) (x b : Addr) (h0 : Heap) (O0 : Old Z n0 h0) (n_x : n0 ≤ x) (p_E : Exa Z h0 x "java/lang/String") (p_V : Fld Z h0 x "java/lang/String" "value" "[B" .null) (p_C : Fld Z h0 x "java/lang/String" "coder" "B" (.int 0)) :
    own_Met l Z own_EL [x] false n0 (⟨"java/lang/String", "<init>", "([CIILjava/lang/Void;)V"⟩ : MethodName) jdk_42_method_149_code 6 none ({ frames := 1, cells := 4, slots := 8, locals := 12 } : Room) #[(.ref x), (.ref b), (.int (0 : Int32)), (.int (0 : Int32)), .null] h0 (fun v h => v = none ∧ Keep h0 h [x] ∧ ∃ t, own_Str Z h x t []) := by
  refine own_enter (own := "java/lang/String") (nm := "<init>") (plainFor_of_name pn_2) rfl rfl O0 EWf ?_
  have W : ∀ (k : Nat) {d : Jvm.Cond}, tables_1[k]? = some d → d.before a0 Z = true := fun k d q => hw d (List.mem_of_getElem? q)
  intro G p e s m below meth c T0 hGe X0
  rw [ef_own_sinitV m x b ((0 : Int32)) ((0 : Int32))]
  refine own_aload_n (pc' := 1) X0 dd_jdk_42_method_149_0 rfl rfl rfl ?_
  refine own_initO (pc' := 4) (W := 0) X0 (W 12 rfl) (W 13 rfl) (W 14 rfl) rfl dd_jdk_42_method_149_1 rfl (by decide) rfl (by decide) ?_
  intro T1 X1
  refine own_iload_n (pc' := 5) X1 dd_jdk_42_method_149_4 rfl rfl ?_
  refine own_ifN (pc' := 8) X1 dd_jdk_42_method_149_5 rfl ((teq (by decide)).2) ?_
  refine own_aload_n (pc' := 9) X1 dd_jdk_42_method_149_8 rfl rfl rfl ?_
  refine own_ldcR (pc' := 11) (cells' := 2) (slots' := 4) (n := 0) (text := "") (vs := []) X1 (W 224 rfl) (fun d hd => hw d (own_in_atoms d hd)) (List.mem_of_getElem? (i := 1) rfl) ⟨by decide, by decide⟩ (by decide) (by decide) (by decide) dd_jdk_42_method_149_9 rfl rfl rfl (by decide) (by decide) ?_
  intro T2 h2 s2 a2 b2 k2 X2 K2 E2 Fc2 Fv2 A2 N2
  refine own_get (pc' := 14) X2 (host := "") (Or.inl (W 29 rfl)) Via.refl Fv2 dd_jdk_42_method_149_11 rfl ?_
  intro T3 X3
  have f4 := (p_V.keep K2 nin0)
  have f5 := (p_E.keep K2)
  refine own_put (pc' := 17) X3 (host := "") (Or.inl (W 29 rfl)) Via.refl f4 f5 (Or.inr ⟨(W 30 rfl), rfl, rfl⟩) (W 2 rfl) (ty := (.array .byte)) (by decide) rfl rfl n_x (Or.inr (List.mem_of_getElem? (i := 0) rfl)) dd_jdk_42_method_149_14 rfl ?_
  intro T6 h6 X6 W6 K6
  have f6_ := f4.same W6
  refine own_aload_n (pc' := 18) X6 dd_jdk_42_method_149_17 rfl rfl rfl ?_
  refine own_ldcR (pc' := 20) (cells' := 4) (slots' := 8) (n := 0) (text := "") (vs := []) X6 (W 224 rfl) (fun d hd => hw d (own_in_atoms d hd)) (List.mem_of_getElem? (i := 1) rfl) ⟨by decide, by decide⟩ (by decide) (by decide) (by decide) dd_jdk_42_method_149_18 rfl rfl rfl (by decide) (by decide) ?_
  intro T7 h7 s7 a7 b7 k7 X7 K7 E7 Fc7 Fv7 A7 N7
  refine own_get (pc' := 23) X7 (host := "") (Or.inl (W 27 rfl)) Via.refl Fc7 dd_jdk_42_method_149_20 rfl ?_
  intro T8 X8
  have f9 := (((p_C.keep K2 nin0).other W6 (Or.inr (slot_ne (Or.inr (W 28 rfl)) (Or.inr (W 30 rfl)) (by decide) (t := .byte) (t' := (.array .byte)) (by decide) (by decide)))).keep K7 nin0)
  have f10 := ((f5.keep K6).keep K7)
  refine own_put (pc' := 26) X8 (host := "") (Or.inl (W 27 rfl)) Via.refl f9 f10 (Or.inr ⟨(W 28 rfl), rfl, rfl⟩) (W 2 rfl) (ty := .byte) (by decide) rfl rfl n_x (Or.inr (List.mem_of_getElem? (i := 0) rfl)) dd_jdk_42_method_149_23 rfl ?_
  intro T11 h11 X11 W11 K11
  have f11_ := f9.same W11
  have f12 := (f10.keep K11)
  have f13 := ((f6_.keep K7 nin0).other W11 (Or.inr (slot_ne (Or.inr (W 30 rfl)) (Or.inr (W 28 rfl)) (by decide) (t := (.array .byte)) (t' := .byte) (by decide) (by decide))))
  have f14 := (((A2.keep K6 (ninS (Ne.symm (N2 x (List.mem_of_getElem? (i := 0) rfl)).2) nin0)).keep K7 nin0).keep K11 (ninS (Ne.symm (N2 x (List.mem_of_getElem? (i := 0) rfl)).2) nin0))
  exact own_retV X11 hGe rfl dd_jdk_42_method_149_26 (by decide) (by decide) ⟨rfl, (((((Keep.refl h0 [x]).trans K2 all0).trans K6 (allS (Or.inl (List.mem_of_getElem? (i := 0) rfl)) all0)).trans K7 all0).trans K11 (allS (Or.inl (List.mem_of_getElem? (i := 0) rfl)) all0)), b2, own_StrLit (cs := []) f12 f13 f11_ f14 (by decide) (by decide) (by decide)⟩
theorem dd_jdk_42_method_3_0 : decode jdk_42_method_3_code 0 = .ok (.aload_n 0, 1) := by decide +kernel
theorem dd_jdk_42_method_3_1 : decode jdk_42_method_3_code 1 = .ok (.aload_n 1, 1) := by decide +kernel
theorem dd_jdk_42_method_3_2 : decode jdk_42_method_3_code 2 = .ok (.iconst 0, 1) := by decide +kernel
theorem dd_jdk_42_method_3_3 : decode jdk_42_method_3_code 3 = .ok (.aload_n 1, 1) := by decide +kernel
theorem dd_jdk_42_method_3_4 : decode jdk_42_method_3_code 4 = .ok (.arraylength, 1) := by decide +kernel
theorem dd_jdk_42_method_3_5 : decode jdk_42_method_3_code 5 = .ok (.aconst_null, 1) := by decide +kernel
theorem dd_jdk_42_method_3_6 : decode jdk_42_method_3_code 6 = .ok (.invokespecial 27, 3) := by decide +kernel
theorem pd_25 : parseMethodDescriptor "([CIILjava/lang/Void;)V" = some ⟨[(.array .char), .int, .int, (.object "java/lang/Void")], none⟩ := by decide +kernel
theorem dd_jdk_42_method_3_9 : decode jdk_42_method_3_code 9 = .ok (.return_, 1) := by decide +kernel
theorem ef_own_sinit0 (m : MethodId) (x0 : Addr) (x1 : Addr) : entryFrame m #[(.ref x0), (.ref x1)] 2 = mkF m 0 #[.val (.ref x0), .val (.ref x1)] [] := by first | (simp [entryFrame, mkF, argsToLocals, Value.category]; done) | rfl
set_option maxRecDepth 65536 in
set_option maxHeartbeats 40000000 in
theorem own_sinit0 (l : Launch) (Z : State) (a0 : Array Value) (hw : ∀ d ∈ tables_1, d.before a0 Z = true) (EWf : own_EW Z own_EL) (n0 : Nat) (x b : Addr) (kc : ClassId) (h0 : Heap) (O0 : Old Z n0 h0) (n_x : n0 ≤ x) (p_E : Exa Z h0 x "java/lang/String") (p_V : Fld Z h0 x "java/lang/String" "value" "[B" .null) (p_C : Fld Z h0 x "java/lang/String" "coder" "B" (.int 0)) (p_A : own_Arr Z h0 b kc .char []) :
    own_Met l Z own_EL [x] false n0 (⟨"java/lang/String", "<init>", "([C)V"⟩ : MethodName) jdk_42_method_3_code 2 none ({ frames := 2, cells := 4, slots := 8, locals := 29 } : Room) #[(.ref x), (.ref b)] h0 (fun v h => v = none ∧ Keep h0 h [x] ∧ ∃ t, own_Str Z h x t []) := by
  refine own_enter (own := "java/lang/String") (nm := "<init>") (plainFor_of_name pn_2) rfl rfl O0 EWf ?_
  have W : ∀ (k : Nat) {d : Jvm.Cond}, tables_1[k]? = some d → d.before a0 Z = true := fun k d q => hw d (List.mem_of_getElem? q)
  intro G p e s m below meth c T0 hGe X0
  rw [ef_own_sinit0 m x b]
  refine own_aload_n (pc' := 1) X0 dd_jdk_42_method_3_0 rfl rfl rfl ?_
  refine own_aload_n (pc' := 2) X0 dd_jdk_42_method_3_1 rfl rfl rfl ?_
  refine own_iconst (pc' := 3) X0 dd_jdk_42_method_3_2 rfl (z := (0 : Int32)) (by decide) ?_
  refine own_aload_n (pc' := 4) X0 dd_jdk_42_method_3_3 rfl rfl rfl ?_
  refine own_arraylength (pc' := 5) (z := (0 : Int32)) X0 p_A rfl dd_jdk_42_method_3_4 rfl ?_
  refine own_aconst_null (pc' := 6) X0 dd_jdk_42_method_3_5 rfl ?_
  refine own_callIM (pc' := 9) (cells' := 4) (slots' := 8) (argsL := [(.ref b), (.int (0 : Int32)), (.int (0 : Int32)), .null]) (rest := []) (W := 0) (y := (⟨"java/lang/String", "<init>", "([CIILjava/lang/Void;)V"⟩ : MethodName)) (a := x) X0 (W 8 rfl) (W 9 rfl) rfl (by decide) (own_sinitV l Z a0 hw EWf n0 x b h0 (own_old X0) n_x p_E p_V p_C) (allS (List.mem_of_getElem? (i := 0) rfl) all0) (W 11 rfl) (W 3 rfl) (by decide) (by decide) rfl (lenOf pd_25 rfl) rfl rfl dd_jdk_42_method_3_6 rfl rfl rfl rfl (by decide) (by decide) ?_
  intro v1 T1 h1 s1 X1 q1 r1
  obtain ⟨rfl, K1, t1, S1⟩ := q1
  show G T1 (mkF m 9 #[.val (.ref x), .val (.ref b)] [])
  exact own_retV X1 hGe rfl dd_jdk_42_method_3_9 (by decide) (by decide) ⟨rfl, ((Keep.refl h0 [x]).trans K1 (allS (Or.inl (List.mem_of_getElem? (i := 0) rfl)) all0)), t1, S1⟩
theorem own_mid {L g : List Int32} {x : Int32} : ((L ++ [x]) ++ g)[L.length]? = some x := by simp
theorem own_low {L g : List Int32} {x : Int32} {i : Nat} (h : i < L.length) : ((L ++ [x]) ++ g)[i]? = L[i]? := by
  rw [List.append_assoc, List.getElem?_append_left h]
theorem own_hig {L g : List Int32} {x : Int32} {i : Nat} : ((L ++ [x]) ++ g)[L.length + 1 + i]? = g[i]? := by
  rw [List.getElem?_append_right (by simp <;> omega)]; simp
theorem own_digAt {L : List Int32} {x : Int32} {v n e K : Nat} (he : e = L.length + n) (hK : K < n) : ((L ++ [x]) ++ own_dg v n)[e - K]? = some (Int32.ofNat (48 + v / 10 ^ K % 10)) := by
  subst he
  rw [show L.length + n - K = L.length + 1 + (n - 1 - K) from by omega, own_hig]
  exact own_dgi v n K hK
theorem own_i2c8 (x : Int32) : own_c16 (x &&& 255) = x &&& 255 := by unfold own_c16; exact i2c_mask x
theorem own_narC {c : Int32} (h : ¬ c < 0 ∧ ¬ (255 : Int32) < c) : nar .char c = c := by
  have e : c &&& 255 = c := by
    rw [Int32.lt_iff_toInt_lt, Int32.lt_iff_toInt_lt, show (0 : Int32).toInt = 0 by decide, show (255 : Int32).toInt = 255 by decide] at h
    apply Int32.toInt_inj.mp
    rw [c_mask c 255 8 (by decide) (by decide)]
    have e1 : (255 : Int32).toInt = 255 := by decide
    omega
  rw [← e]
  show (c &&& 255).toUInt32.toUInt16.toUInt32.toInt32 = _
  exact i2c_mask c
theorem own_3 (x : Int32) : ∃ q : Nat, q ≤ 2 ∧ (x &&& 2147483647) % 3 = Int32.ofNat q := by
  have q := (c_and x 2147483647 (by decide)).1
  have r := (c_irem (x &&& 2147483647) 3 3 (by decide)).1 q
  refine ⟨((x &&& 2147483647) % 3).toInt.toNat, by omega, ?_⟩
  apply Int32.toInt_inj.mp
  rw [own_i32 (by omega)]
  omega
theorem pd_29 : parseMethodDescriptor "(Ljava/lang/String;II)Z" = some ⟨[(.object "java/lang/String"), .int, .int], some .boolean⟩ := by decide +kernel
set_option maxRecDepth 65536 in
set_option maxHeartbeats 40000000 in
theorem own_P220B {G : State → JFrame → Prop} {p : Program} {l : Launch} {e : Env} {s0 s : State} {m : MethodId} {args : Array Value} {below : List Frame} {meth : Method} {c : Code} {Z : State} {a0 : Array Value} {n0 : Nat} {T0 : State} {h0 : Heap} (hw : ∀ d ∈ tables_1, d.before a0 Z = true) (EWf : own_EW Z own_EL) (i0 i2 i3 ca cb : Int32) (fl v n : Nat) (x r t dn dt : Addr) (ds : List Int32)
    (X0 : own_At G p l e room_1 s0 s own_EL [] m args below meth c Z n0 "com/example/tributary/tributary/LocationToStringPinLaw" "law" code maxLocals ret T0 h0 16 183) (hGe : G = own_Fin p e below s0 own_EL false Z n0 (fun v h => v = some (.int 1)) room_1.cells room_1.slots) (p_S : own_Str Z h0 r t (([] ++ ds ++ [58]) ++ own_dg v n)) (hp : ∀ c ∈ (([] ++ ds ++ [58]) ++ own_dg v n), ¬ c < 0 ∧ ¬ (255 : Int32) < c) (p_f : ds.length = fl) (p_2 : fl ≤ 2) (p_0 : 0 < v) (p_1 : 1 ≤ n) (p_10 : n ≤ 10) (p_v : 10 ^ (n - 1) ≤ v) (p_w : v < 10 ^ n) (p_b : v < 2 ^ 31) (p_j : ¬ 0 < i2) (DG : own_DG Z dn dt) (CS : own_CS Z) (SF : own_SF Z) :
    G T0 (mkF m 220 #[.val (.int i0), .val (.int (Int32.ofNat v)), .val (.int i2), .val (.int i3), .val (.int ca), .val (.int cb), .val (.int (Int32.ofNat fl)), .val (.ref x), .val (.ref r), .val (.int (Int32.ofNat (fl + 1 + n))), .val (.int (Int32.ofNat (fl + 1 + n)))] []) := by
  have W : ∀ (k : Nat) {d : Jvm.Cond}, tables_1[k]? = some d → d.before a0 Z = true := fun k d q => hw d (List.mem_of_getElem? q)
  have l_d : ([] ++ ds).length = fl := by simpa using p_f
  have l_B : (([] ++ ds ++ [58]) ++ own_dg v n).length = fl + 1 + n := by rw [List.length_append, own_dgl, List.length_append, l_d]; rfl
  refine own_aload (pc' := 222) X0 at_220 rfl rfl rfl ?_
  refine own_iload (pc' := 224) X0 at_222 rfl rfl ?_
  refine own_strchar (pc' := 227) (W := 0) (i' := fl) (ch := (58 : Int32)) X0 (fun d hd => hw d (own_in_wordsChN d hd)) CS SF (W 195 rfl) (W 196 rfl) (W 198 rfl) (W 197 rfl) (W 2 rfl) p_S (fun c q => (hp c q).2) (by rw [← l_d]; exact own_mid) rfl (by decide) (by decide) (lenOf (L := [.int (Int32.ofNat fl)]) pd_23 rfl) rfl rfl at_224 rfl (by decide) (by decide) ?_
  intro T1 X1
  refine own_bipush (pc' := 229) X1 at_227 rfl (z := (58 : Int32)) (by decide) ?_
  refine own_icmpY (pc' := 234) X1 at_229 ((teq rfl).1) (by decide) (by decide) ?_
  refine own_aload (pc' := 236) X1 at_234 rfl rfl rfl ?_
  refine own_iload (pc' := 238) X1 at_236 rfl rfl ?_
  refine own_iconst (pc' := 239) X1 at_238 rfl (z := (1 : Int32)) (by decide) ?_
  refine own_isub (pc' := 240) X1 at_239 rfl (r := (Int32.ofNat (fl + n))) (by rw [show fl + n = fl + 1 + n - 1 from by omega]; exact own_i32sub (b := 1) (by omega) (by omega)) ?_
  refine own_iload_n (pc' := 241) X1 at_240 rfl rfl ?_
  refine own_callSM (pc' := 244) (cells' := 16) (slots' := 183) (argsL := [(.ref r), (.int (Int32.ofNat (fl + n))), (.int (Int32.ofNat v))]) (rest := []) (W := 0) (y := (⟨"com/example/tributary/tributary/LocationToStringPinLaw", "digits", "(Ljava/lang/String;II)Z"⟩ : MethodName)) X1 (W 217 rfl) (W 218 rfl) (by decide) (own_digs l Z a0 hw EWf n0 r t (([] ++ ds ++ [58]) ++ own_dg v n) v n (fl + n) h0 (own_old X1) p_S hp (fun K hK => own_digAt (by omega) hK) (by omega) (by omega) p_b SF CS p_1 p_10 p_v p_w) all0 (W 219 rfl) (W 187 rfl) (by decide) (by decide) rfl (lenOf pd_29 rfl) rfl rfl at_241 rfl rfl rfl rfl (by decide) (by decide) ?_
  intro v2 T2 h2 s2 X2 q2 r2
  obtain ⟨rfl, rfl⟩ := q2
  show G T2 (mkF m 244 #[.val (.int i0), .val (.int (Int32.ofNat v)), .val (.int i2), .val (.int i3), .val (.int ca), .val (.int cb), .val (.int (Int32.ofNat fl)), .val (.ref x), .val (.ref r), .val (.int (Int32.ofNat (fl + 1 + n))), .val (.int (Int32.ofNat (fl + 1 + n)))] [(.int (1 : Int32))])
  refine own_ifY (pc' := 249) X2 at_244 ((feq (by decide)).2) (by decide) (by decide) ?_
  refine own_iload_n (pc' := 250) X2 at_249 rfl rfl ?_
  refine own_ifN (pc' := 253) X2 at_250 rfl ((flt p_j).2.2.1) ?_
  refine own_iconst (pc' := 254) X2 at_253 rfl (z := (1 : Int32)) (by decide) ?_
  exact own_ret X2 hGe (t := .boolean) rfl rfl (Or.inl ⟨rfl, by simp, _, rfl⟩) at_254 (by decide) (by decide) rfl nofun
set_option maxRecDepth 65536 in
set_option maxHeartbeats 40000000 in
theorem own_P220C {G : State → JFrame → Prop} {p : Program} {l : Launch} {e : Env} {s0 s : State} {m : MethodId} {args : Array Value} {below : List Frame} {meth : Method} {c : Code} {Z : State} {a0 : Array Value} {n0 : Nat} {T0 : State} {h0 : Heap} (hw : ∀ d ∈ tables_1, d.before a0 Z = true) (EWf : own_EW Z own_EL) (i0 i2 i3 ca cb : Int32) (fl v n : Nat) (u m2 : Nat) (x r t dn dt : Addr) (ds : List Int32)
    (X0 : own_At G p l e room_1 s0 s own_EL [] m args below meth c Z n0 "com/example/tributary/tributary/LocationToStringPinLaw" "law" code maxLocals ret T0 h0 20 259) (hGe : G = own_Fin p e below s0 own_EL false Z n0 (fun v h => v = some (.int 1)) room_1.cells room_1.slots) (p_S : own_Str Z h0 r t (((([] ++ ds ++ [58]) ++ own_dg v n) ++ [58]) ++ own_dg u m2)) (hp : ∀ c ∈ (((([] ++ ds ++ [58]) ++ own_dg v n) ++ [58]) ++ own_dg u m2), ¬ c < 0 ∧ ¬ (255 : Int32) < c) (p_f : ds.length = fl) (p_2 : fl ≤ 2) (p_0 : 0 < v) (p_1 : 1 ≤ n) (p_10 : n ≤ 10) (p_v : 10 ^ (n - 1) ≤ v) (p_w : v < 10 ^ n) (p_b : v < 2 ^ 31) (q_0 : 0 < u) (q_1 : 1 ≤ m2) (q_10 : m2 ≤ 10) (q_v : 10 ^ (m2 - 1) ≤ u) (q_w : u < 10 ^ m2) (q_b : u < 2 ^ 31) (DG : own_DG Z dn dt) (CS : own_CS Z) (SF : own_SF Z) :
    G T0 (mkF m 220 #[.val (.int i0), .val (.int (Int32.ofNat v)), .val (.int (Int32.ofNat u)), .val (.int i3), .val (.int ca), .val (.int cb), .val (.int (Int32.ofNat fl)), .val (.ref x), .val (.ref r), .val (.int (Int32.ofNat (fl + 1 + n))), .val (.int (Int32.ofNat (fl + 1 + n + 1 + m2)))] []) := by
  have W : ∀ (k : Nat) {d : Jvm.Cond}, tables_1[k]? = some d → d.before a0 Z = true := fun k d q => hw d (List.mem_of_getElem? q)
  have l_d : ([] ++ ds).length = fl := by simpa using p_f
  have l_B : (([] ++ ds ++ [58]) ++ own_dg v n).length = fl + 1 + n := by rw [List.length_append, own_dgl, List.length_append, l_d]; rfl
  refine own_aload (pc' := 222) X0 at_220 rfl rfl rfl ?_
  refine own_iload (pc' := 224) X0 at_222 rfl rfl ?_
  refine own_strchar (pc' := 227) (W := 0) (i' := fl) (ch := (58 : Int32)) X0 (fun d hd => hw d (own_in_wordsChN d hd)) CS SF (W 195 rfl) (W 196 rfl) (W 198 rfl) (W 197 rfl) (W 2 rfl) p_S (fun c q => (hp c q).2) (by rw [own_low (by omega), ← l_d]; exact own_mid) rfl (by decide) (by decide) (lenOf (L := [.int (Int32.ofNat fl)]) pd_23 rfl) rfl rfl at_224 rfl (by decide) (by decide) ?_
  intro T1 X1
  refine own_bipush (pc' := 229) X1 at_227 rfl (z := (58 : Int32)) (by decide) ?_
  refine own_icmpY (pc' := 234) X1 at_229 ((teq rfl).1) (by decide) (by decide) ?_
  refine own_aload (pc' := 236) X1 at_234 rfl rfl rfl ?_
  refine own_iload (pc' := 238) X1 at_236 rfl rfl ?_
  refine own_iconst (pc' := 239) X1 at_238 rfl (z := (1 : Int32)) (by decide) ?_
  refine own_isub (pc' := 240) X1 at_239 rfl (r := (Int32.ofNat (fl + n))) (by rw [show fl + n = fl + 1 + n - 1 from by omega]; exact own_i32sub (b := 1) (by omega) (by omega)) ?_
  refine own_iload_n (pc' := 241) X1 at_240 rfl rfl ?_
  refine own_callSM (pc' := 244) (cells' := 20) (slots' := 259) (argsL := [(.ref r), (.int (Int32.ofNat (fl + n))), (.int (Int32.ofNat v))]) (rest := []) (W := 0) (y := (⟨"com/example/tributary/tributary/LocationToStringPinLaw", "digits", "(Ljava/lang/String;II)Z"⟩ : MethodName)) X1 (W 217 rfl) (W 218 rfl) (by decide) (own_digs l Z a0 hw EWf n0 r t (((([] ++ ds ++ [58]) ++ own_dg v n) ++ [58]) ++ own_dg u m2) v n (fl + n) h0 (own_old X1) p_S hp (fun K hK => by rw [own_low (by omega)]; exact own_digAt (by omega) hK) (by omega) (by omega) p_b SF CS p_1 p_10 p_v p_w) all0 (W 219 rfl) (W 187 rfl) (by decide) (by decide) rfl (lenOf pd_29 rfl) rfl rfl at_241 rfl rfl rfl rfl (by decide) (by decide) ?_
  intro v2 T2 h2 s2 X2 q2 r2
  obtain ⟨rfl, rfl⟩ := q2
  show G T2 (mkF m 244 #[.val (.int i0), .val (.int (Int32.ofNat v)), .val (.int (Int32.ofNat u)), .val (.int i3), .val (.int ca), .val (.int cb), .val (.int (Int32.ofNat fl)), .val (.ref x), .val (.ref r), .val (.int (Int32.ofNat (fl + 1 + n))), .val (.int (Int32.ofNat (fl + 1 + n + 1 + m2)))] [(.int (1 : Int32))])
  refine own_ifY (pc' := 249) X2 at_244 ((feq (by decide)).2) (by decide) (by decide) ?_
  refine own_iload_n (pc' := 250) X2 at_249 rfl rfl ?_
  refine own_ifY (pc' := 255) X2 at_250 ((tlt (own_i32lt (i := 0) q_0 q_b)).2.2.1) (by decide) (by decide) ?_
  refine own_aload (pc' := 257) X2 at_255 rfl rfl rfl ?_
  refine own_iload (pc' := 259) X2 at_257 rfl rfl ?_
  refine own_strchar (pc' := 262) (W := 0) (i' := (fl + 1 + n)) (ch := (58 : Int32)) X2 (fun d hd => hw d (own_in_wordsChN d hd)) CS SF (W 195 rfl) (W 196 rfl) (W 198 rfl) (W 197 rfl) (W 2 rfl) p_S (fun c q => (hp c q).2) (by rw [← l_B]; exact own_mid) rfl (by decide) (by decide) (lenOf (L := [.int (Int32.ofNat (fl + 1 + n))]) pd_23 rfl) rfl rfl at_259 rfl (by decide) (by decide) ?_
  intro T3 X3
  refine own_bipush (pc' := 264) X3 at_262 rfl (z := (58 : Int32)) (by decide) ?_
  refine own_icmpY (pc' := 269) X3 at_264 ((teq rfl).1) (by decide) (by decide) ?_
  refine own_aload (pc' := 271) X3 at_269 rfl rfl rfl ?_
  refine own_iload (pc' := 273) X3 at_271 rfl rfl ?_
  refine own_iconst (pc' := 274) X3 at_273 rfl (z := (1 : Int32)) (by decide) ?_
  refine own_isub (pc' := 275) X3 at_274 rfl (r := (Int32.ofNat (fl + 1 + n + m2))) (by rw [show fl + 1 + n + m2 = fl + 1 + n + 1 + m2 - 1 from by omega]; exact own_i32sub (b := 1) (by omega) (by omega)) ?_
  refine own_iload_n (pc' := 276) X3 at_275 rfl rfl ?_
  refine own_callSM (pc' := 279) (cells' := 20) (slots' := 259) (argsL := [(.ref r), (.int (Int32.ofNat (fl + 1 + n + m2))), (.int (Int32.ofNat u))]) (rest := []) (W := 0) (y := (⟨"com/example/tributary/tributary/LocationToStringPinLaw", "digits", "(Ljava/lang/String;II)Z"⟩ : MethodName)) X3 (W 217 rfl) (W 218 rfl) (by decide) (own_digs l Z a0 hw EWf n0 r t (((([] ++ ds ++ [58]) ++ own_dg v n) ++ [58]) ++ own_dg u m2) u m2 (fl + 1 + n + m2) h0 (own_old X3) p_S hp (fun K hK => own_digAt (by omega) hK) (by omega) (by omega) q_b SF CS q_1 q_10 q_v q_w) all0 (W 219 rfl) (W 187 rfl) (by decide) (by decide) rfl (lenOf pd_29 rfl) rfl rfl at_276 rfl rfl rfl rfl (by decide) (by decide) ?_
  intro v4 T4 h4 s4 X4 q4 r4
  obtain ⟨rfl, rfl⟩ := q4
  show G T4 (mkF m 279 #[.val (.int i0), .val (.int (Int32.ofNat v)), .val (.int (Int32.ofNat u)), .val (.int i3), .val (.int ca), .val (.int cb), .val (.int (Int32.ofNat fl)), .val (.ref x), .val (.ref r), .val (.int (Int32.ofNat (fl + 1 + n))), .val (.int (Int32.ofNat (fl + 1 + n + 1 + m2)))] [(.int (1 : Int32))])
  exact own_ret X4 hGe (t := .boolean) rfl rfl (Or.inl ⟨rfl, by simp, _, rfl⟩) at_279 (by decide) (by decide) rfl nofun
theorem pd_27 : parseMethodDescriptor "(Ljava/lang/String;II)V" = some ⟨[(.object "java/lang/String"), .int, .int], none⟩ := by decide +kernel
theorem pd_28 : parseMethodDescriptor "(Ljava/lang/Object;)Z" = some ⟨[(.object "java/lang/Object")], some .boolean⟩ := by decide +kernel
set_option maxRecDepth 65536 in
set_option maxHeartbeats 40000000 in
theorem own_P89 {G : State → JFrame → Prop} {p : Program} {l : Launch} {e : Env} {s0 s : State} {m : MethodId} {args : Array Value} {below : List Frame} {meth : Method} {c : Code} {Z : State} {a0 : Array Value} {n0 : Nat} {T0 : State} {h0 : Heap} (hw : ∀ d ∈ tables_1, d.before a0 Z = true) (EWf : own_EW Z own_EL) (i0 i1 i2 i3 ca cb : Int32) (fl : Nat) (x t dn dt : Addr) (ds : List Int32)
    (X0 : own_At G p l e room_1 s0 s own_EL [] m args below meth c Z n0 "com/example/tributary/tributary/LocationToStringPinLaw" "law" code maxLocals ret T0 h0 6 12) (hGe : G = own_Fin p e below s0 own_EL false Z n0 (fun v h => v = some (.int 1)) room_1.cells room_1.slots) (p_S : own_Str Z h0 x t ds) (hd : ∀ c ∈ ds, ¬ c < 0 ∧ ¬ (255 : Int32) < c) (p_f : ds.length = fl) (p_2 : fl ≤ 2) (h_0 : 1 ≤ fl → ds[0]? = some ca) (h_1 : 2 ≤ fl → ds[1]? = some cb) (DG : own_DG Z dn dt) (CS : own_CS Z) (SF : own_SF Z) :
    G T0 (mkF m 89 #[.val (.int i0), .val (.int i1), .val (.int i2), .val (.int i3), .val (.int ca), .val (.int cb), .val (.int (Int32.ofNat fl)), .unset, .unset, .unset, .unset] [(.ref x)]) := by
  have W : ∀ (k : Nat) {d : Jvm.Cond}, tables_1[k]? = some d → d.before a0 Z = true := fun k d q => hw d (List.mem_of_getElem? q)
  refine own_astore (pc' := 91) X0 at_89 rfl rfl (Ls' := #[.val (.int i0), .val (.int i1), .val (.int i2), .val (.int i3), .val (.int ca), .val (.int cb), .val (.int (Int32.ofNat fl)), .val (.ref x), .unset, .unset, .unset]) rfl ?_
  refine own_new (pc' := 94) (cells' := 7) (slots' := 15) X0 (W 31 rfl) (W 32 rfl) (W 33 rfl) at_91 rfl rfl rfl (by decide) (by decide) ?_
  intro T1 h1 a1 g1 X1 K1 E1 D1 U1
  have n_a1 : n0 ≤ a1 := by rw [g1]; exact own_n0 X0
  have F1_file : Fld Z h1 a1 "com/example/tributary/tributary/Location" "file" "Ljava/lang/String;" .null := D1 (Or.inr (W 44 rfl)) (ty := (.object "java/lang/String")) (by decide)
  have F1_line : Fld Z h1 a1 "com/example/tributary/tributary/Location" "line" "I" (.int (0 : Int32)) := D1 (Or.inr (W 46 rfl)) (ty := .int) (by decide)
  have F1_column : Fld Z h1 a1 "com/example/tributary/tributary/Location" "column" "I" (.int (0 : Int32)) := D1 (Or.inr (W 48 rfl)) (ty := .int) (by decide)
  refine own_dup (pc' := 95) X1 at_94 rfl rfl ?_
  refine own_aload (pc' := 97) X1 at_95 rfl rfl rfl ?_
  refine own_iload_n (pc' := 98) X1 at_97 rfl rfl ?_
  refine own_iload_n (pc' := 99) X1 at_98 rfl rfl ?_
  refine own_callIM (pc' := 102) (cells' := 7) (slots' := 15) (argsL := [(.ref x), (.int i1), (.int i2)]) (rest := [(.ref a1)]) (W := 1) (y := (⟨"com/example/tributary/tributary/Location", "<init>", "(Ljava/lang/String;II)V"⟩ : MethodName)) (a := a1) X1 (W 34 rfl) (W 35 rfl) rfl (by decide) (own_loci l Z a0 hw EWf n0 a1 x i1 i2 h1 (own_old X1) n_a1 ⟨E1, F1_file, F1_line, F1_column⟩) all0 (W 36 rfl) (W 33 rfl) (by decide) (by decide) rfl (lenOf pd_27 rfl) rfl rfl at_99 rfl rfl rfl rfl (by decide) (by decide) ?_
  intro v2 T2 h2 s2 X2 q2 r2
  obtain ⟨rfl, K2, P2⟩ := q2
  show G T2 (mkF m 102 #[.val (.int i0), .val (.int i1), .val (.int i2), .val (.int i3), .val (.int ca), .val (.int cb), .val (.int (Int32.ofNat fl)), .val (.ref x), .unset, .unset, .unset] [(.ref a1)])
  by_cases hl : 0 < i1
  · obtain ⟨v, p_0, p_b, rfl⟩ := own_posN hl
    obtain ⟨n, p_1, p_10, p_v, p_w⟩ := own_ndex p_0 p_b
    by_cases hc : 0 < i2
    · obtain ⟨u, q_0, q_b, rfl⟩ := own_posN hc
      obtain ⟨m2, q_1, q_10, q_v, q_w⟩ := own_ndex q_0 q_b
      have ne_x_a1 : x ≠ a1 := own_ne p_S.lt (Nat.le_refl _) (Nat.le_of_eq (Eq.symm g1))
      have ne_t_a1 : t ≠ a1 := own_ne p_S.ltt (Nat.le_refl _) (Nat.le_of_eq (Eq.symm g1))
      have f3 := ((p_S.keep K1 nin0 nin0).keep K2 (ninS ne_x_a1 nin0) (ninS ne_t_a1 nin0))
      refine own_callVM (pc' := 105) (cells' := 20) (slots' := 259) (argsL := []) (rest := []) (W := 0) (y := (⟨"com/example/tributary/tributary/Location", "toString", "()Ljava/lang/String;"⟩ : MethodName)) (z := (⟨"com/example/tributary/tributary/Location", "toString", "()Ljava/lang/String;"⟩ : MethodName)) (a := a1) X2 (W 49 rfl) (W 50 rfl) (fun s' hZ' => notFace_of_selects (args := #[]) (mvT hZ' (W 52 rfl))) (W 52 rfl) (W 51 rfl) (by decide) P2.1 (own_tsC l Z a0 hw EWf n0 a1 x t dn dt ds v n (Int32.ofNat u) u m2 h2 (own_old X2) ⟨P2.1, P2.2.1, P2.2.2.1, P2.2.2.2⟩ f3 hd (by omega) p_0 p_1 p_10 p_v p_w p_b rfl q_0 q_1 q_10 q_v q_w q_b DG CS) all0 (W 53 rfl) (W 33 rfl) (by decide) (by decide) rfl (lenOf pd_22 rfl) rfl rfl at_102 rfl rfl rfl rfl (by decide) (by decide) ?_
      intro v4 T4 h4 s4 X4 q4 r4
      obtain ⟨x4, t4, rfl, K4, S4, hS⟩ := q4
      show G T4 (mkF m 105 #[.val (.int i0), .val (.int (Int32.ofNat v)), .val (.int (Int32.ofNat u)), .val (.int i3), .val (.int ca), .val (.int cb), .val (.int (Int32.ofNat fl)), .val (.ref x), .unset, .unset, .unset] [(.ref x4)])
      refine own_astore (pc' := 107) X4 at_105 rfl rfl (Ls' := #[.val (.int i0), .val (.int (Int32.ofNat v)), .val (.int (Int32.ofNat u)), .val (.int i3), .val (.int ca), .val (.int cb), .val (.int (Int32.ofNat fl)), .val (.ref x), .val (.ref x4), .unset, .unset]) rfl ?_
      refine own_iload_n (pc' := 108) X4 at_107 rfl rfl ?_
      refine own_ifY (pc' := 132) X4 at_108 ((tlt (own_i32lt (i := 0) p_0 p_b)).2.2.1) (by decide) (by decide) ?_
      refine own_aload (pc' := 134) X4 at_132 rfl rfl rfl ?_
      refine own_ifnonnullY (pc' := 139) X4 at_134 (by decide) (by decide) ?_
      refine own_iload (pc' := 141) X4 at_139 rfl rfl ?_
      refine own_iconst (pc' := 142) X4 at_141 rfl (z := (1 : Int32)) (by decide) ?_
      refine own_iadd (pc' := 143) X4 at_142 rfl (r := (Int32.ofNat (fl + 1))) (own_i32add (b := 1) (by omega)) ?_
      refine own_iload_n (pc' := 144) X4 at_143 rfl rfl ?_
      refine own_callSM (pc' := 147) (cells' := 20) (slots' := 259) (argsL := [(.int (Int32.ofNat v))]) (rest := [(.int (Int32.ofNat (fl + 1)))]) (W := 1) (y := (⟨"com/example/tributary/tributary/LocationToStringPinLaw", "nd", "(I)I"⟩ : MethodName)) X4 (W 185 rfl) (W 186 rfl) (by decide) (own_nd l Z a0 hw EWf n0 v n h4 (own_old X4) p_1 p_v p_w p_b) all0 (W 188 rfl) (W 187 rfl) (by decide) (by decide) rfl (lenOf pd_4 rfl) rfl rfl at_144 rfl rfl rfl rfl (by decide) (by decide) ?_
      intro v5 T5 h5 s5 X5 q5 r5
      obtain ⟨rfl, rfl⟩ := q5
      show G T5 (mkF m 147 #[.val (.int i0), .val (.int (Int32.ofNat v)), .val (.int (Int32.ofNat u)), .val (.int i3), .val (.int ca), .val (.int cb), .val (.int (Int32.ofNat fl)), .val (.ref x), .val (.ref x4), .unset, .unset] [(.int (Int32.ofNat n)), (.int (Int32.ofNat (fl + 1)))])
      refine own_iadd (pc' := 148) X5 at_147 rfl (r := (Int32.ofNat (fl + 1 + n))) (own_i32add (by omega)) ?_
      refine own_istore (pc' := 150) X5 at_148 rfl (Ls' := #[.val (.int i0), .val (.int (Int32.ofNat v)), .val (.int (Int32.ofNat u)), .val (.int i3), .val (.int ca), .val (.int cb), .val (.int (Int32.ofNat fl)), .val (.ref x), .val (.ref x4), .val (.int (Int32.ofNat (fl + 1 + n))), .unset]) rfl ?_
      refine own_iload_n (pc' := 151) X5 at_150 rfl rfl ?_
      refine own_ifY (pc' := 159) X5 at_151 ((tlt (own_i32lt (i := 0) q_0 q_b)).2.2.1) (by decide) (by decide) ?_
      refine own_iload (pc' := 161) X5 at_159 rfl rfl ?_
      refine own_iconst (pc' := 162) X5 at_161 rfl (z := (1 : Int32)) (by decide) ?_
      refine own_iadd (pc' := 163) X5 at_162 rfl (r := (Int32.ofNat (fl + 1 + n + 1))) (own_i32add (b := 1) (by omega)) ?_
      refine own_iload_n (pc' := 164) X5 at_163 rfl rfl ?_
      refine own_callSM (pc' := 167) (cells' := 20) (slots' := 259) (argsL := [(.int (Int32.ofNat u))]) (rest := [(.int (Int32.ofNat (fl + 1 + n + 1)))]) (W := 1) (y := (⟨"com/example/tributary/tributary/LocationToStringPinLaw", "nd", "(I)I"⟩ : MethodName)) X5 (W 185 rfl) (W 186 rfl) (by decide) (own_nd l Z a0 hw EWf n0 u m2 h4 (own_old X5) q_1 q_v q_w q_b) all0 (W 188 rfl) (W 187 rfl) (by decide) (by decide) rfl (lenOf pd_4 rfl) rfl rfl at_164 rfl rfl rfl rfl (by decide) (by decide) ?_
      intro v6 T6 h6 s6 X6 q6 r6
      obtain ⟨rfl, rfl⟩ := q6
      show G T6 (mkF m 167 #[.val (.int i0), .val (.int (Int32.ofNat v)), .val (.int (Int32.ofNat u)), .val (.int i3), .val (.int ca), .val (.int cb), .val (.int (Int32.ofNat fl)), .val (.ref x), .val (.ref x4), .val (.int (Int32.ofNat (fl + 1 + n))), .unset] [(.int (Int32.ofNat m2)), (.int (Int32.ofNat (fl + 1 + n + 1)))])
      refine own_iadd (pc' := 168) X6 at_167 rfl (r := (Int32.ofNat (fl + 1 + n + 1 + m2))) (own_i32add (by omega)) ?_
      have l_d : ([] ++ ds).length = fl := by simpa using p_f
      have l_B : (([] ++ ds ++ [58]) ++ own_dg v n).length = fl + 1 + n := by rw [List.length_append, own_dgl, List.length_append, l_d]; rfl
      have l_C : (((([] ++ ds ++ [58]) ++ own_dg v n) ++ [58]) ++ own_dg u m2).length = fl + 1 + n + 1 + m2 := by rw [List.length_append, own_dgl, List.length_append, l_B]; rfl
      refine own_istore (pc' := 170) X6 at_168 rfl (Ls' := #[.val (.int i0), .val (.int (Int32.ofNat v)), .val (.int (Int32.ofNat u)), .val (.int i3), .val (.int ca), .val (.int cb), .val (.int (Int32.ofNat fl)), .val (.ref x), .val (.ref x4), .val (.int (Int32.ofNat (fl + 1 + n))), .val (.int (Int32.ofNat (fl + 1 + n + 1 + m2)))]) rfl ?_
      refine own_aload (pc' := 172) X6 at_170 rfl rfl rfl ?_
      refine own_strlen (pc' := 175) (W := 0) X6 (fun d hd => hw d (own_in_wordsLen d hd)) CS (W 194 rfl) (W 83 rfl) (W 85 rfl) (W 84 rfl) (W 2 rfl) S4  (by decide) (by decide) (lenOf (L := []) pd_8 rfl) rfl rfl at_172 rfl (by decide) (by decide) ?_
      intro T7 X7
      rw [l_C]
      refine own_iload (pc' := 177) X7 at_175 rfl rfl ?_
      refine own_icmpY (pc' := 182) X7 at_177 ((teq rfl).1) (by decide) (by decide) ?_
      refine own_iload (pc' := 184) X7 at_182 rfl rfl ?_
      refine own_iconst (pc' := 185) X7 at_184 rfl (z := (1 : Int32)) (by decide) ?_
      by_cases f1 : fl < 1
      · refine own_icmpY (pc' := 201) X7 at_185 ((tlt (own_i32lt (n := 1) f1 (by decide))).1) (by decide) (by decide) ?_
        refine own_iload (pc' := 203) X7 at_201 rfl rfl ?_
        refine own_iconst (pc' := 204) X7 at_203 rfl (z := (2 : Int32)) (by decide) ?_
        by_cases f2 : fl < 2
        · refine own_icmpY (pc' := 220) X7 at_204 ((tlt (own_i32lt (n := 2) f2 (by decide))).1) (by decide) (by decide) ?_
          exact own_P220C hw EWf i0 (Int32.ofNat u) i3 ca cb fl v n u m2 x x4 t4 dn dt ds (own_mono X7 (by decide : 20 ≤ 20) (by decide : 259 ≤ 259) all0) hGe S4 hS p_f p_2 p_0 p_1 p_10 p_v p_w p_b q_0 q_1 q_10 q_v q_w q_b DG CS SF
        · refine own_icmpN (pc' := 207) X7 at_204 rfl ((flt (own_i32le (n := 2) (by omega) (by omega))).1) ?_
          refine own_aload (pc' := 209) X7 at_207 rfl rfl rfl ?_
          refine own_iconst (pc' := 210) X7 at_209 rfl (z := (1 : Int32)) (by decide) ?_
          refine own_strchar (pc' := 213) (W := 0) (i' := 1) (ch := cb) X7 (fun d hd => hw d (own_in_wordsChN d hd)) CS SF (W 195 rfl) (W 196 rfl) (W 198 rfl) (W 197 rfl) (W 2 rfl) S4 (fun c q => (hS c q).2) (by rw [own_low (by omega), own_low (by omega)]; simpa using (h_1 (by omega))) rfl (by decide) (by decide) (lenOf (L := [.int (1 : Int32)]) pd_23 rfl) rfl rfl at_210 rfl (by decide) (by decide) ?_
          intro T8 X8
          refine own_iload (pc' := 215) X8 at_213 rfl rfl ?_
          refine own_icmpY (pc' := 220) X8 at_215 ((teq rfl).1) (by decide) (by decide) ?_
          exact own_P220C hw EWf i0 (Int32.ofNat u) i3 ca cb fl v n u m2 x x4 t4 dn dt ds (own_mono X8 (by decide : 20 ≤ 20) (by decide : 259 ≤ 259) all0) hGe S4 hS p_f p_2 p_0 p_1 p_10 p_v p_w p_b q_0 q_1 q_10 q_v q_w q_b DG CS SF
      · refine own_icmpN (pc' := 188) X7 at_185 rfl ((flt (own_i32le (n := 1) (by omega) (by omega))).1) ?_
        refine own_aload (pc' := 190) X7 at_188 rfl rfl rfl ?_
        refine own_iconst (pc' := 191) X7 at_190 rfl (z := (0 : Int32)) (by decide) ?_
        refine own_strchar (pc' := 194) (W := 0) (i' := 0) (ch := ca) X7 (fun d hd => hw d (own_in_wordsChN d hd)) CS SF (W 195 rfl) (W 196 rfl) (W 198 rfl) (W 197 rfl) (W 2 rfl) S4 (fun c q => (hS c q).2) (by rw [own_low (by omega), own_low (by omega)]; simpa using (h_0 (by omega))) rfl (by decide) (by decide) (lenOf (L := [.int (0 : Int32)]) pd_23 rfl) rfl rfl at_191 rfl (by decide) (by decide) ?_
        intro T9 X9
        refine own_iload (pc' := 196) X9 at_194 rfl rfl ?_
        refine own_icmpY (pc' := 201) X9 at_196 ((teq rfl).1) (by decide) (by decide) ?_
        refine own_iload (pc' := 203) X9 at_201 rfl rfl ?_
        refine own_iconst (pc' := 204) X9 at_203 rfl (z := (2 : Int32)) (by decide) ?_
        by_cases f2 : fl < 2
        · refine own_icmpY (pc' := 220) X9 at_204 ((tlt (own_i32lt (n := 2) f2 (by decide))).1) (by decide) (by decide) ?_
          exact own_P220C hw EWf i0 (Int32.ofNat u) i3 ca cb fl v n u m2 x x4 t4 dn dt ds (own_mono X9 (by decide : 20 ≤ 20) (by decide : 259 ≤ 259) all0) hGe S4 hS p_f p_2 p_0 p_1 p_10 p_v p_w p_b q_0 q_1 q_10 q_v q_w q_b DG CS SF
        · refine own_icmpN (pc' := 207) X9 at_204 rfl ((flt (own_i32le (n := 2) (by omega) (by omega))).1) ?_
          refine own_aload (pc' := 209) X9 at_207 rfl rfl rfl ?_
          refine own_iconst (pc' := 210) X9 at_209 rfl (z := (1 : Int32)) (by decide) ?_
          refine own_strchar (pc' := 213) (W := 0) (i' := 1) (ch := cb) X9 (fun d hd => hw d (own_in_wordsChN d hd)) CS SF (W 195 rfl) (W 196 rfl) (W 198 rfl) (W 197 rfl) (W 2 rfl) S4 (fun c q => (hS c q).2) (by rw [own_low (by omega), own_low (by omega)]; simpa using (h_1 (by omega))) rfl (by decide) (by decide) (lenOf (L := [.int (1 : Int32)]) pd_23 rfl) rfl rfl at_210 rfl (by decide) (by decide) ?_
          intro T10 X10
          refine own_iload (pc' := 215) X10 at_213 rfl rfl ?_
          refine own_icmpY (pc' := 220) X10 at_215 ((teq rfl).1) (by decide) (by decide) ?_
          exact own_P220C hw EWf i0 (Int32.ofNat u) i3 ca cb fl v n u m2 x x4 t4 dn dt ds (own_mono X10 (by decide : 20 ≤ 20) (by decide : 259 ≤ 259) all0) hGe S4 hS p_f p_2 p_0 p_1 p_10 p_v p_w p_b q_0 q_1 q_10 q_v q_w q_b DG CS SF
    · have ne_x_a1 : x ≠ a1 := own_ne p_S.lt (Nat.le_refl _) (Nat.le_of_eq (Eq.symm g1))
      have ne_t_a1 : t ≠ a1 := own_ne p_S.ltt (Nat.le_refl _) (Nat.le_of_eq (Eq.symm g1))
      have f11 := ((p_S.keep K1 nin0 nin0).keep K2 (ninS ne_x_a1 nin0) (ninS ne_t_a1 nin0))
      refine own_callVM (pc' := 105) (cells' := 16) (slots' := 183) (argsL := []) (rest := []) (W := 0) (y := (⟨"com/example/tributary/tributary/Location", "toString", "()Ljava/lang/String;"⟩ : MethodName)) (z := (⟨"com/example/tributary/tributary/Location", "toString", "()Ljava/lang/String;"⟩ : MethodName)) (a := a1) X2 (W 49 rfl) (W 50 rfl) (fun s' hZ' => notFace_of_selects (args := #[]) (mvT hZ' (W 52 rfl))) (W 52 rfl) (W 51 rfl) (by decide) P2.1 (own_tsB l Z a0 hw EWf n0 a1 x t dn dt ds v n i2 h2 (own_old X2) ⟨P2.1, P2.2.1, P2.2.2.1, P2.2.2.2⟩ f11 hd (by omega) p_0 p_1 p_10 p_v p_w p_b hc DG CS) all0 (W 53 rfl) (W 33 rfl) (by decide) (by decide) rfl (lenOf pd_22 rfl) rfl rfl at_102 rfl rfl rfl rfl (by decide) (by decide) ?_
      intro v12 T12 h12 s12 X12 q12 r12
      obtain ⟨x12, t12, rfl, K12, S12, hS⟩ := q12
      show G T12 (mkF m 105 #[.val (.int i0), .val (.int (Int32.ofNat v)), .val (.int i2), .val (.int i3), .val (.int ca), .val (.int cb), .val (.int (Int32.ofNat fl)), .val (.ref x), .unset, .unset, .unset] [(.ref x12)])
      refine own_astore (pc' := 107) X12 at_105 rfl rfl (Ls' := #[.val (.int i0), .val (.int (Int32.ofNat v)), .val (.int i2), .val (.int i3), .val (.int ca), .val (.int cb), .val (.int (Int32.ofNat fl)), .val (.ref x), .val (.ref x12), .unset, .unset]) rfl ?_
      refine own_iload_n (pc' := 108) X12 at_107 rfl rfl ?_
      refine own_ifY (pc' := 132) X12 at_108 ((tlt (own_i32lt (i := 0) p_0 p_b)).2.2.1) (by decide) (by decide) ?_
      refine own_aload (pc' := 134) X12 at_132 rfl rfl rfl ?_
      refine own_ifnonnullY (pc' := 139) X12 at_134 (by decide) (by decide) ?_
      refine own_iload (pc' := 141) X12 at_139 rfl rfl ?_
      refine own_iconst (pc' := 142) X12 at_141 rfl (z := (1 : Int32)) (by decide) ?_
      refine own_iadd (pc' := 143) X12 at_142 rfl (r := (Int32.ofNat (fl + 1))) (own_i32add (b := 1) (by omega)) ?_
      refine own_iload_n (pc' := 144) X12 at_143 rfl rfl ?_
      refine own_callSM (pc' := 147) (cells' := 16) (slots' := 183) (argsL := [(.int (Int32.ofNat v))]) (rest := [(.int (Int32.ofNat (fl + 1)))]) (W := 1) (y := (⟨"com/example/tributary/tributary/LocationToStringPinLaw", "nd", "(I)I"⟩ : MethodName)) X12 (W 185 rfl) (W 186 rfl) (by decide) (own_nd l Z a0 hw EWf n0 v n h12 (own_old X12) p_1 p_v p_w p_b) all0 (W 188 rfl) (W 187 rfl) (by decide) (by decide) rfl (lenOf pd_4 rfl) rfl rfl at_144 rfl rfl rfl rfl (by decide) (by decide) ?_
      intro v13 T13 h13 s13 X13 q13 r13
      obtain ⟨rfl, rfl⟩ := q13
      show G T13 (mkF m 147 #[.val (.int i0), .val (.int (Int32.ofNat v)), .val (.int i2), .val (.int i3), .val (.int ca), .val (.int cb), .val (.int (Int32.ofNat fl)), .val (.ref x), .val (.ref x12), .unset, .unset] [(.int (Int32.ofNat n)), (.int (Int32.ofNat (fl + 1)))])
      refine own_iadd (pc' := 148) X13 at_147 rfl (r := (Int32.ofNat (fl + 1 + n))) (own_i32add (by omega)) ?_
      refine own_istore (pc' := 150) X13 at_148 rfl (Ls' := #[.val (.int i0), .val (.int (Int32.ofNat v)), .val (.int i2), .val (.int i3), .val (.int ca), .val (.int cb), .val (.int (Int32.ofNat fl)), .val (.ref x), .val (.ref x12), .val (.int (Int32.ofNat (fl + 1 + n))), .unset]) rfl ?_
      refine own_iload_n (pc' := 151) X13 at_150 rfl rfl ?_
      refine own_ifN (pc' := 154) X13 at_151 rfl ((flt hc).2.2.1) ?_
      have l_d : ([] ++ ds).length = fl := by simpa using p_f
      have l_B : (([] ++ ds ++ [58]) ++ own_dg v n).length = fl + 1 + n := by rw [List.length_append, own_dgl, List.length_append, l_d]; rfl
      refine own_iload (pc' := 156) X13 at_154 rfl rfl ?_
      refine own_goto (pc' := 168) X13 at_156 (by decide) (by decide) ?_
      refine own_istore (pc' := 170) X13 at_168 rfl (Ls' := #[.val (.int i0), .val (.int (Int32.ofNat v)), .val (.int i2), .val (.int i3), .val (.int ca), .val (.int cb), .val (.int (Int32.ofNat fl)), .val (.ref x), .val (.ref x12), .val (.int (Int32.ofNat (fl + 1 + n))), .val (.int (Int32.ofNat (fl + 1 + n)))]) rfl ?_
      refine own_aload (pc' := 172) X13 at_170 rfl rfl rfl ?_
      refine own_strlen (pc' := 175) (W := 0) X13 (fun d hd => hw d (own_in_wordsLen d hd)) CS (W 194 rfl) (W 83 rfl) (W 85 rfl) (W 84 rfl) (W 2 rfl) S12  (by decide) (by decide) (lenOf (L := []) pd_8 rfl) rfl rfl at_172 rfl (by decide) (by decide) ?_
      intro T14 X14
      rw [l_B]
      refine own_iload (pc' := 177) X14 at_175 rfl rfl ?_
      refine own_icmpY (pc' := 182) X14 at_177 ((teq rfl).1) (by decide) (by decide) ?_
      refine own_iload (pc' := 184) X14 at_182 rfl rfl ?_
      refine own_iconst (pc' := 185) X14 at_184 rfl (z := (1 : Int32)) (by decide) ?_
      by_cases f1 : fl < 1
      · refine own_icmpY (pc' := 201) X14 at_185 ((tlt (own_i32lt (n := 1) f1 (by decide))).1) (by decide) (by decide) ?_
        refine own_iload (pc' := 203) X14 at_201 rfl rfl ?_
        refine own_iconst (pc' := 204) X14 at_203 rfl (z := (2 : Int32)) (by decide) ?_
        by_cases f2 : fl < 2
        · refine own_icmpY (pc' := 220) X14 at_204 ((tlt (own_i32lt (n := 2) f2 (by decide))).1) (by decide) (by decide) ?_
          exact own_P220B hw EWf i0 i2 i3 ca cb fl v n x x12 t12 dn dt ds (own_mono X14 (by decide : 16 ≤ 16) (by decide : 183 ≤ 183) all0) hGe S12 hS p_f p_2 p_0 p_1 p_10 p_v p_w p_b hc DG CS SF
        · refine own_icmpN (pc' := 207) X14 at_204 rfl ((flt (own_i32le (n := 2) (by omega) (by omega))).1) ?_
          refine own_aload (pc' := 209) X14 at_207 rfl rfl rfl ?_
          refine own_iconst (pc' := 210) X14 at_209 rfl (z := (1 : Int32)) (by decide) ?_
          refine own_strchar (pc' := 213) (W := 0) (i' := 1) (ch := cb) X14 (fun d hd => hw d (own_in_wordsChN d hd)) CS SF (W 195 rfl) (W 196 rfl) (W 198 rfl) (W 197 rfl) (W 2 rfl) S12 (fun c q => (hS c q).2) (by rw [own_low (by omega)]; simpa using (h_1 (by omega))) rfl (by decide) (by decide) (lenOf (L := [.int (1 : Int32)]) pd_23 rfl) rfl rfl at_210 rfl (by decide) (by decide) ?_
          intro T15 X15
          refine own_iload (pc' := 215) X15 at_213 rfl rfl ?_
          refine own_icmpY (pc' := 220) X15 at_215 ((teq rfl).1) (by decide) (by decide) ?_
          exact own_P220B hw EWf i0 i2 i3 ca cb fl v n x x12 t12 dn dt ds (own_mono X15 (by decide : 16 ≤ 16) (by decide : 183 ≤ 183) all0) hGe S12 hS p_f p_2 p_0 p_1 p_10 p_v p_w p_b hc DG CS SF
      · refine own_icmpN (pc' := 188) X14 at_185 rfl ((flt (own_i32le (n := 1) (by omega) (by omega))).1) ?_
        refine own_aload (pc' := 190) X14 at_188 rfl rfl rfl ?_
        refine own_iconst (pc' := 191) X14 at_190 rfl (z := (0 : Int32)) (by decide) ?_
        refine own_strchar (pc' := 194) (W := 0) (i' := 0) (ch := ca) X14 (fun d hd => hw d (own_in_wordsChN d hd)) CS SF (W 195 rfl) (W 196 rfl) (W 198 rfl) (W 197 rfl) (W 2 rfl) S12 (fun c q => (hS c q).2) (by rw [own_low (by omega)]; simpa using (h_0 (by omega))) rfl (by decide) (by decide) (lenOf (L := [.int (0 : Int32)]) pd_23 rfl) rfl rfl at_191 rfl (by decide) (by decide) ?_
        intro T16 X16
        refine own_iload (pc' := 196) X16 at_194 rfl rfl ?_
        refine own_icmpY (pc' := 201) X16 at_196 ((teq rfl).1) (by decide) (by decide) ?_
        refine own_iload (pc' := 203) X16 at_201 rfl rfl ?_
        refine own_iconst (pc' := 204) X16 at_203 rfl (z := (2 : Int32)) (by decide) ?_
        by_cases f2 : fl < 2
        · refine own_icmpY (pc' := 220) X16 at_204 ((tlt (own_i32lt (n := 2) f2 (by decide))).1) (by decide) (by decide) ?_
          exact own_P220B hw EWf i0 i2 i3 ca cb fl v n x x12 t12 dn dt ds (own_mono X16 (by decide : 16 ≤ 16) (by decide : 183 ≤ 183) all0) hGe S12 hS p_f p_2 p_0 p_1 p_10 p_v p_w p_b hc DG CS SF
        · refine own_icmpN (pc' := 207) X16 at_204 rfl ((flt (own_i32le (n := 2) (by omega) (by omega))).1) ?_
          refine own_aload (pc' := 209) X16 at_207 rfl rfl rfl ?_
          refine own_iconst (pc' := 210) X16 at_209 rfl (z := (1 : Int32)) (by decide) ?_
          refine own_strchar (pc' := 213) (W := 0) (i' := 1) (ch := cb) X16 (fun d hd => hw d (own_in_wordsChN d hd)) CS SF (W 195 rfl) (W 196 rfl) (W 198 rfl) (W 197 rfl) (W 2 rfl) S12 (fun c q => (hS c q).2) (by rw [own_low (by omega)]; simpa using (h_1 (by omega))) rfl (by decide) (by decide) (lenOf (L := [.int (1 : Int32)]) pd_23 rfl) rfl rfl at_210 rfl (by decide) (by decide) ?_
          intro T17 X17
          refine own_iload (pc' := 215) X17 at_213 rfl rfl ?_
          refine own_icmpY (pc' := 220) X17 at_215 ((teq rfl).1) (by decide) (by decide) ?_
          exact own_P220B hw EWf i0 i2 i3 ca cb fl v n x x12 t12 dn dt ds (own_mono X17 (by decide : 16 ≤ 16) (by decide : 183 ≤ 183) all0) hGe S12 hS p_f p_2 p_0 p_1 p_10 p_v p_w p_b hc DG CS SF
  · refine own_callVM (pc' := 105) (cells' := 7) (slots' := 15) (argsL := []) (rest := []) (W := 0) (y := (⟨"com/example/tributary/tributary/Location", "toString", "()Ljava/lang/String;"⟩ : MethodName)) (z := (⟨"com/example/tributary/tributary/Location", "toString", "()Ljava/lang/String;"⟩ : MethodName)) (a := a1) X2 (W 49 rfl) (W 50 rfl) (fun s' hZ' => notFace_of_selects (args := #[]) (mvT hZ' (W 52 rfl))) (W 52 rfl) (W 51 rfl) (by decide) P2.1 (own_tsA l Z a0 hw EWf n0 a1 x i1 i2 h2 (own_old X2) ⟨P2.1, P2.2.1, P2.2.2.1, P2.2.2.2⟩ hl) all0 (W 53 rfl) (W 33 rfl) (by decide) (by decide) rfl (lenOf pd_22 rfl) rfl rfl at_102 rfl rfl rfl rfl (by decide) (by decide) ?_
    intro v18 T18 h18 s18 X18 q18 r18
    obtain ⟨rfl, rfl⟩ := q18
    show G T18 (mkF m 105 #[.val (.int i0), .val (.int i1), .val (.int i2), .val (.int i3), .val (.int ca), .val (.int cb), .val (.int (Int32.ofNat fl)), .val (.ref x), .unset, .unset, .unset] [(.ref x)])
    refine own_astore (pc' := 107) X18 at_105 rfl rfl (Ls' := #[.val (.int i0), .val (.int i1), .val (.int i2), .val (.int i3), .val (.int ca), .val (.int cb), .val (.int (Int32.ofNat fl)), .val (.ref x), .val (.ref x), .unset, .unset]) rfl ?_
    refine own_iload_n (pc' := 108) X18 at_107 rfl rfl ?_
    refine own_ifN (pc' := 111) X18 at_108 rfl ((flt hl).2.2.1) ?_
    refine own_aload (pc' := 113) X18 at_111 rfl rfl rfl ?_
    refine own_ifnullN (pc' := 116) X18 at_113 rfl ?_
    refine own_aload (pc' := 118) X18 at_116 rfl rfl rfl ?_
    refine own_aload (pc' := 120) X18 at_118 rfl rfl rfl ?_
    have f20 := ((p_S.1.keep K1).keep K2)
    refine own_callVM (pc' := 123) (cells' := 7) (slots' := 15) (argsL := [(.ref x)]) (rest := []) (W := 0) (y := (⟨"java/lang/String", "equals", "(Ljava/lang/Object;)Z"⟩ : MethodName)) (z := (⟨"java/lang/String", "equals", "(Ljava/lang/Object;)Z"⟩ : MethodName)) (a := x) X18 (W 242 rfl) (W 243 rfl) (fun s' hZ' => notFace_of_selects (args := #[]) (mvT hZ' (W 245 rfl))) (W 245 rfl) (W 244 rfl) (by decide) f20 (own_eqS l Z a0 hw EWf n0 x h2 (own_old X18) ) all0 (W 246 rfl) (W 3 rfl) (by decide) (by decide) rfl (lenOf pd_28 rfl) rfl rfl at_120 rfl rfl rfl rfl (by decide) (by decide) ?_
    intro v19 T19 h19 s19 X19 q19 r19
    obtain ⟨rfl, rfl⟩ := q19
    show G T19 (mkF m 123 #[.val (.int i0), .val (.int i1), .val (.int i2), .val (.int i3), .val (.int ca), .val (.int cb), .val (.int (Int32.ofNat fl)), .val (.ref x), .val (.ref x), .unset, .unset] [(.int (1 : Int32))])
    refine own_ifN (pc' := 126) X19 at_123 rfl ((feq (by decide)).1) ?_
    refine own_iconst (pc' := 127) X19 at_126 rfl (z := (1 : Int32)) (by decide) ?_
    refine own_goto (pc' := 131) X19 at_127 (by decide) (by decide) ?_
    exact own_ret X19 hGe (t := .boolean) rfl rfl (Or.inl ⟨rfl, by simp, _, rfl⟩) at_131 (by decide) (by decide) rfl nofun
theorem pd_26 : parseMethodDescriptor "([C)V" = some ⟨[(.array .char)], none⟩ := by decide +kernel
theorem ef_own_law (m : MethodId) (x0 : Int32) (x1 : Int32) (x2 : Int32) (x3 : Int32) : entryFrame m #[(.int x0), (.int x1), (.int x2), (.int x3)] maxLocals = mkF m 0 #[.val (.int x0), .val (.int x1), .val (.int x2), .val (.int x3), .unset, .unset, .unset, .unset, .unset, .unset, .unset] [] := by first | (simp [entryFrame, mkF, argsToLocals, Value.category, maxLocals]; done) | rfl
set_option maxRecDepth 65536 in
set_option maxHeartbeats 40000000 in
theorem own_law (l : Launch) (Z : State) (a0 : Array Value) (hw : ∀ d ∈ tables_1, d.before a0 Z = true) (EWf : own_EW Z own_EL) (n0 : Nat) (i0 i1 i2 i3 : Int32) (dn dt : Addr) (h0 : Heap) (O0 : Old Z n0 h0) (DG : own_DG Z dn dt) (CS : own_CS Z) (SF : own_SF Z) :
    own_Met l Z own_EL [] false n0 x code maxLocals ret room_1 #[(.int i0), (.int i1), (.int i2), (.int i3)] h0 (fun v h => v = some (.int 1)) := by
  refine own_enter (own := "com/example/tributary/tributary/LocationToStringPinLaw") (nm := "law") (plainFor_of_name pn_10) rfl rfl O0 EWf ?_
  have W : ∀ (k : Nat) {d : Jvm.Cond}, tables_1[k]? = some d → d.before a0 Z = true := fun k d q => hw d (List.mem_of_getElem? q)
  intro G p e s m below meth c T0 hGe X0
  rw [ef_own_law m i0 i1 i2 i3]
  refine own_iload_n (pc' := 1) X0 at_0 rfl rfl ?_
  refine own_sipush (pc' := 4) X0 at_1 rfl (z := (255 : Int32)) (by decide) ?_
  refine own_iand (pc' := 5) X0 at_4 rfl (r := (i0 &&& (255 : Int32))) rfl ?_
  refine own_i2c (pc' := 6) X0 at_5 rfl ?_
  obtain ⟨ca, e_a, b_a⟩ : ∃ ca, own_c16 (i0 &&& (255 : Int32)) = ca ∧ (¬ ca < 0 ∧ ¬ (255 : Int32) < ca) := ⟨_, own_i2c8 _, own_255 _⟩
  rw [e_a]
  refine own_istore (pc' := 8) X0 at_6 rfl (Ls' := #[.val (.int i0), .val (.int i1), .val (.int i2), .val (.int i3), .val (.int ca), .unset, .unset, .unset, .unset, .unset, .unset]) rfl ?_
  refine own_iload_n (pc' := 9) X0 at_8 rfl rfl ?_
  refine own_bipush (pc' := 11) X0 at_9 rfl (z := (8 : Int32)) (by decide) ?_
  refine own_iushr (pc' := 12) X0 at_11 rfl (r := (own_ushr i0 (8 : Int32))) rfl ?_
  refine own_sipush (pc' := 15) X0 at_12 rfl (z := (255 : Int32)) (by decide) ?_
  refine own_iand (pc' := 16) X0 at_15 rfl (r := ((own_ushr i0 (8 : Int32)) &&& (255 : Int32))) rfl ?_
  refine own_i2c (pc' := 17) X0 at_16 rfl ?_
  obtain ⟨cb, e_b, b_b⟩ : ∃ cb, (own_c16 ((own_ushr i0 (8 : Int32)) &&& (255 : Int32))) = cb ∧ (¬ cb < 0 ∧ ¬ (255 : Int32) < cb) := ⟨_, own_i2c8 _, own_255 _⟩
  rw [e_b]
  refine own_istore (pc' := 19) X0 at_17 rfl (Ls' := #[.val (.int i0), .val (.int i1), .val (.int i2), .val (.int i3), .val (.int ca), .val (.int cb), .unset, .unset, .unset, .unset, .unset]) rfl ?_
  refine own_iload_n (pc' := 20) X0 at_19 rfl rfl ?_
  refine own_ldcI (pc' := 22) X0 (v := (2147483647 : Int32)) (W 0 rfl) at_20 rfl ?_
  refine own_iand (pc' := 23) X0 at_22 rfl (r := (i3 &&& (2147483647 : Int32))) rfl ?_
  refine own_iconst (pc' := 24) X0 at_23 rfl (z := (3 : Int32)) (by decide) ?_
  refine own_irem (pc' := 25) X0 at_24 rfl (by decide) ?_
  obtain ⟨q3, l_3, e_3⟩ := own_3 i3
  rw [e_3]
  refine own_istore (pc' := 27) X0 at_25 rfl (Ls' := #[.val (.int i0), .val (.int i1), .val (.int i2), .val (.int i3), .val (.int ca), .val (.int cb), .val (.int (Int32.ofNat q3)), .unset, .unset, .unset, .unset]) rfl ?_
  have c_3 : q3 = 0 ∨ q3 = 1 ∨ q3 = 2 := by omega
  rcases c_3 with rfl | rfl | rfl
  · show G T0 (mkF m 27 #[.val (.int i0), .val (.int i1), .val (.int i2), .val (.int i3), .val (.int ca), .val (.int cb), .val (.int (0 : Int32)), .unset, .unset, .unset, .unset] [])
    refine own_iload (pc' := 29) X0 at_27 rfl rfl ?_
    refine own_ifN (pc' := 32) X0 at_29 rfl ((teq rfl).2) ?_
    refine own_newK (pc' := 35) (cells' := 1) (slots' := 4) X0 (W 1 rfl) (W 2 rfl) (W 3 rfl) at_32 rfl rfl rfl (by decide) (by decide) ?_
    intro T1 h1 a1 g1 X1 K1 E1 D1 U1
    have n_a1 : n0 ≤ a1 := by rw [g1]; exact own_n0 X0
    have F1_coder : Fld Z h1 a1 "java/lang/String" "coder" "B" (.int (0 : Int32)) := D1 (Or.inr (W 28 rfl)) (ty := .byte) (by decide)
    have F1_value : Fld Z h1 a1 "java/lang/String" "value" "[B" .null := D1 (Or.inr (W 30 rfl)) (ty := (.array .byte)) (by decide)
    refine own_dup (pc' := 36) X1 at_35 rfl rfl ?_
    refine own_iconst (pc' := 37) X1 at_36 rfl (z := (0 : Int32)) (by decide) ?_
    refine own_newarray (pc' := 39) (cells' := 2) (slots' := 4) (n := 0) (cap := 0) (dv := (.int 0)) X1 (W 4 rfl) rfl rfl (by decide) (by decide) at_37 rfl rfl (by decide) (by decide) rfl (by decide) (by decide) ?_
    intro T2 h2 a2 k2 g2 X2 K2 A2
    have n_a2 : n0 ≤ a2 := by rw [g2]; exact own_n0 X1
    have A2' : own_Arr Z h2 a2 k2 .char [] := A2
    have f3 := (E1.keep K2)
    have f4 := (F1_value.keep K2 nin0)
    have f5 := (F1_coder.keep K2 nin0)
    refine own_callIM (pc' := 42) (cells' := 6) (slots' := 12) (argsL := [(.ref a2)]) (rest := [(.ref a1)]) (W := 1) (y := (⟨"java/lang/String", "<init>", "([C)V"⟩ : MethodName)) (a := a1) X2 (W 5 rfl) (W 6 rfl) rfl (by decide) (own_sinit0 l Z a0 hw EWf n0 a1 a2 k2 h2 (own_old X2) n_a1 f3 f4 f5 A2') (allS (List.mem_of_getElem? (i := 0) rfl) all0) (W 7 rfl) (W 3 rfl) (by decide) (by decide) rfl (lenOf pd_26 rfl) rfl rfl at_39 rfl rfl rfl rfl (by decide) (by decide) ?_
    intro v6 T6 h6 s6 X6 q6 r6
    obtain ⟨rfl, K6, t6, S6⟩ := q6
    show G T6 (mkF m 42 #[.val (.int i0), .val (.int i1), .val (.int i2), .val (.int i3), .val (.int ca), .val (.int cb), .val (.int (0 : Int32)), .unset, .unset, .unset, .unset] [(.ref a1)])
    refine own_goto (pc' := 89) X6 at_42 (by decide) (by decide) ?_
    exact own_P89 hw EWf i0 i1 i2 i3 ca cb 0 a1 t6 dn dt [] (own_mono X6 (by decide : 6 ≤ 6) (by decide : 12 ≤ 12) all0) hGe S6 own_a0 rfl (by decide) (fun q => absurd q (by decide)) (fun q => absurd q (by decide)) DG CS SF
  · show G T0 (mkF m 27 #[.val (.int i0), .val (.int i1), .val (.int i2), .val (.int i3), .val (.int ca), .val (.int cb), .val (.int (1 : Int32)), .unset, .unset, .unset, .unset] [])
    refine own_iload (pc' := 29) X0 at_27 rfl rfl ?_
    refine own_ifY (pc' := 45) X0 at_29 ((feq (by decide)).2) (by decide) (by decide) ?_
    refine own_iload (pc' := 47) X0 at_45 rfl rfl ?_
    refine own_iconst (pc' := 48) X0 at_47 rfl (z := (1 : Int32)) (by decide) ?_
    refine own_icmpN (pc' := 51) X0 at_48 rfl ((teq rfl).2) ?_
    refine own_newK (pc' := 54) (cells' := 1) (slots' := 4) X0 (W 1 rfl) (W 2 rfl) (W 3 rfl) at_51 rfl rfl rfl (by decide) (by decide) ?_
    intro T7 h7 a7 g7 X7 K7 E7 D7 U7
    have n_a7 : n0 ≤ a7 := by rw [g7]; exact own_n0 X0
    have F7_coder : Fld Z h7 a7 "java/lang/String" "coder" "B" (.int (0 : Int32)) := D7 (Or.inr (W 28 rfl)) (ty := .byte) (by decide)
    have F7_value : Fld Z h7 a7 "java/lang/String" "value" "[B" .null := D7 (Or.inr (W 30 rfl)) (ty := (.array .byte)) (by decide)
    refine own_dup (pc' := 55) X7 at_54 rfl rfl ?_
    refine own_iconst (pc' := 56) X7 at_55 rfl (z := (1 : Int32)) (by decide) ?_
    refine own_newarray (pc' := 58) (cells' := 2) (slots' := 5) (n := 1) (cap := 1) (dv := (.int 0)) X7 (W 4 rfl) rfl rfl (by decide) (by decide) at_56 rfl rfl (by decide) (by decide) rfl (by decide) (by decide) ?_
    intro T8 h8 a8 k8 g8 X8 K8 A8
    have n_a8 : n0 ≤ a8 := by rw [g8]; exact own_n0 X7
    have A8' : own_Arr Z h8 a8 k8 .char [(.int 0)] := A8
    refine own_dup (pc' := 59) X8 at_58 rfl rfl ?_
    refine own_iconst (pc' := 60) X8 at_59 rfl (z := (0 : Int32)) (by decide) ?_
    refine own_iload (pc' := 62) X8 at_60 rfl rfl ?_
    refine own_castore (pc' := 63) (i := 0) (y := ca) X8 A8' (by decide) (Nat.le_of_ble_eq_true rfl) (own_narC b_a) n_a8 at_62 rfl ?_
    intro T9 h9 X9 K9 A9
    have A9' : own_Arr Z h9 a8 k8 .char [(.int ca)] := A9
    have f10 := ((E7.keep K8).keep K9)
    have ne_a7_a8 : a7 ≠ a8 := own_ne E7.lt (Nat.le_refl _) (Nat.le_of_eq (Eq.symm g8))
    have f11 := ((F7_value.keep K8 nin0).keep K9 (ninS ne_a7_a8 nin0))
    have f12 := ((F7_coder.keep K8 nin0).keep K9 (ninS ne_a7_a8 nin0))
    refine own_strinit (pc' := 66) (cells' := 3) (slots' := 6) (W := 1) (n := 1) (cs := [ca]) X9 (fun d hd => hw d (own_in_words d hd)) CS (W 5 rfl) (W 6 rfl) (W 7 rfl) (W 2 rfl) f10 f11 f12 A9' n_a7 (List.mem_of_getElem? (i := 0) rfl) rfl (by decide) (by decide) (own_aS b_a own_a0) (by decide) (by decide) (lenOf (L := [.ref a8]) pd_26 rfl) rfl rfl at_63 rfl rfl rfl (by decide) (by decide) ?_
    intro T13 h13 t13 X13 K13 z13 S13
    refine own_goto (pc' := 89) X13 at_66 (by decide) (by decide) ?_
    exact own_P89 hw EWf i0 i1 i2 i3 ca cb 1 a7 t13 dn dt [ca] (own_mono X13 (by decide : 3 ≤ 6) (by decide : 6 ≤ 12) all0) hGe S13 (own_aS b_a own_a0) rfl (by decide) (fun _ => rfl) (fun q => absurd q (by decide)) DG CS SF
  · show G T0 (mkF m 27 #[.val (.int i0), .val (.int i1), .val (.int i2), .val (.int i3), .val (.int ca), .val (.int cb), .val (.int (2 : Int32)), .unset, .unset, .unset, .unset] [])
    refine own_iload (pc' := 29) X0 at_27 rfl rfl ?_
    refine own_ifY (pc' := 45) X0 at_29 ((feq (by decide)).2) (by decide) (by decide) ?_
    refine own_iload (pc' := 47) X0 at_45 rfl rfl ?_
    refine own_iconst (pc' := 48) X0 at_47 rfl (z := (1 : Int32)) (by decide) ?_
    refine own_icmpY (pc' := 69) X0 at_48 ((feq (by decide)).2) (by decide) (by decide) ?_
    refine own_newK (pc' := 72) (cells' := 1) (slots' := 4) X0 (W 1 rfl) (W 2 rfl) (W 3 rfl) at_69 rfl rfl rfl (by decide) (by decide) ?_
    intro T14 h14 a14 g14 X14 K14 E14 D14 U14
    have n_a14 : n0 ≤ a14 := by rw [g14]; exact own_n0 X0
    have F14_coder : Fld Z h14 a14 "java/lang/String" "coder" "B" (.int (0 : Int32)) := D14 (Or.inr (W 28 rfl)) (ty := .byte) (by decide)
    have F14_value : Fld Z h14 a14 "java/lang/String" "value" "[B" .null := D14 (Or.inr (W 30 rfl)) (ty := (.array .byte)) (by decide)
    refine own_dup (pc' := 73) X14 at_72 rfl rfl ?_
    refine own_iconst (pc' := 74) X14 at_73 rfl (z := (2 : Int32)) (by decide) ?_
    refine own_newarray (pc' := 76) (cells' := 2) (slots' := 6) (n := 2) (cap := 2) (dv := (.int 0)) X14 (W 4 rfl) rfl rfl (by decide) (by decide) at_74 rfl rfl (by decide) (by decide) rfl (by decide) (by decide) ?_
    intro T15 h15 a15 k15 g15 X15 K15 A15
    have n_a15 : n0 ≤ a15 := by rw [g15]; exact own_n0 X14
    have A15' : own_Arr Z h15 a15 k15 .char [(.int 0), (.int 0)] := A15
    refine own_dup (pc' := 77) X15 at_76 rfl rfl ?_
    refine own_iconst (pc' := 78) X15 at_77 rfl (z := (0 : Int32)) (by decide) ?_
    refine own_iload (pc' := 80) X15 at_78 rfl rfl ?_
    refine own_castore (pc' := 81) (i := 0) (y := ca) X15 A15' (by decide) (Nat.le_of_ble_eq_true rfl) (own_narC b_a) n_a15 at_80 rfl ?_
    intro T16 h16 X16 K16 A16
    have A16' : own_Arr Z h16 a15 k15 .char [(.int ca), (.int 0)] := A16
    refine own_dup (pc' := 82) X16 at_81 rfl rfl ?_
    refine own_iconst (pc' := 83) X16 at_82 rfl (z := (1 : Int32)) (by decide) ?_
    refine own_iload (pc' := 85) X16 at_83 rfl rfl ?_
    refine own_castore (pc' := 86) (i := 1) (y := cb) X16 A16' (by decide) (Nat.le_of_ble_eq_true rfl) (own_narC b_b) n_a15 at_85 rfl ?_
    intro T17 h17 X17 K17 A17
    have A17' : own_Arr Z h17 a15 k15 .char [(.int ca), (.int cb)] := A17
    have f18 := (((E14.keep K15).keep K16).keep K17)
    have ne_a14_a15 : a14 ≠ a15 := own_ne E14.lt (Nat.le_refl _) (Nat.le_of_eq (Eq.symm g15))
    have f19 := (((F14_value.keep K15 nin0).keep K16 (ninS ne_a14_a15 nin0)).keep K17 (ninS ne_a14_a15 nin0))
    have f20 := (((F14_coder.keep K15 nin0).keep K16 (ninS ne_a14_a15 nin0)).keep K17 (ninS ne_a14_a15 nin0))
    refine own_strinit (pc' := 89) (cells' := 3) (slots' := 8) (W := 1) (n := 2) (cs := [ca, cb]) X17 (fun d hd => hw d (own_in_words d hd)) CS (W 5 rfl) (W 6 rfl) (W 7 rfl) (W 2 rfl) f18 f19 f20 A17' n_a14 (List.mem_of_getElem? (i := 0) rfl) rfl (by decide) (by decide) (own_aS b_a (own_aS b_b own_a0)) (by decide) (by decide) (lenOf (L := [.ref a15]) pd_26 rfl) rfl rfl at_86 rfl rfl rfl (by decide) (by decide) ?_
    intro T21 h21 t21 X21 K21 z21 S21
    exact own_P89 hw EWf i0 i1 i2 i3 ca cb 2 a14 t21 dn dt [ca, cb] (own_mono X21 (by decide : 3 ≤ 6) (by decide : 8 ≤ 12) all0) hGe S21 (own_aS b_a (own_aS b_b own_a0)) rfl (by decide) (fun _ => rfl) (fun _ => rfl) DG CS SF
set_option maxRecDepth 65536 in
set_option maxHeartbeats 40000000 in
theorem comes_1 {Post : Tables → Env → Array Value → State → Outcome → State → Prop} (hpost : ∀ tb e args s v u, (limb_1_1.after args s (.returned v) u = true ∧ limb_1_2.after args s (.returned v) u = true ∧ True) → ReturnedEndW s (.returned v) u (Jvm.fieldLocs frame_1_writes args s ++ Jvm.arrayLocs frame_1_arrays args s ++ Jvm.staticLocs frame_1_statics s) 32 2368 → Post tb e args s (.returned v) u) :
    ArmFor flags0 classFile x code maxLocals ret World_1 tables_1 room_1 Calls_1 rest_1 Pre_1 Post := by
  intro l hfl _ _ p e ha hc hk s m args below hf hA hF happ hP
  obtain ⟨hcalls, hrest, hpre⟩ := hP
  obtain ⟨-, -, -, hnamed, -, -, -, hat⟩ := (Spec.applies_iff hf).mp happ
  obtain ⟨hg, hn⟩ := and_e (Cond.before_iff.mp (show (Jvm.Cond.and given_1 narrow_1).before args s = true from hpre))
  obtain ⟨h1, g0⟩ := and_e hg
  obtain ⟨b0, g1⟩ := and_e g0
  obtain ⟨b1, g2⟩ := and_e g1
  obtain ⟨b2, g3⟩ := and_e g2
  have b3 := g3
  obtain ⟨w0, w1, w2, w3, rfl⟩ : ∃ w0 w1 w2 w3 : Value, args = #[w0, w1, w2, w3] := by
    have hs : args.size = 4 := by simpa [Cond.value, given_1] using h1
    obtain ⟨L⟩ := args
    match L, hs with
    | [w0, w1, w2, w3], _ => exact ⟨w0, w1, w2, w3, rfl⟩
  have hw := fun d (hd : d ∈ tables_1) => atoms_spec (ws := Jvm.Cond.code x code maxLocals ret :: tables_1) hat d (List.mem_cons_of_mem _ hd)
  obtain ⟨hsets, hown0⟩ := atoms_of _ (rest_1_c_eq ▸ (show rest_1_c.before _ s = true from hrest))
  have hfit : Fit s := fun {y c} hc i hi => by
    obtain ⟨ha, rfl⟩ := Array.getElem?_eq_some_iff.mp hc
    have q := List.all_eq_true.mp ((Array.all_eq_true_iff_forall_mem.mp hF) _ (Array.getElem_mem ha)) i (List.mem_range.mpr hi)
    simpa [Array.getElem?_eq_getElem hi] using q
  obtain ⟨i0, e0⟩ := is_v b0
  obtain rfl : w0 = (.int i0) := Option.some.inj e0
  obtain ⟨i1, e1⟩ := is_v b1
  obtain rfl : w1 = (.int i1) := Option.some.inj e1
  obtain ⟨i2, e2⟩ := is_v b2
  obtain rfl : w2 = (.int i2) := Option.some.inj e2
  obtain ⟨i3, e3⟩ := is_v b3
  obtain rfl : w3 = (.int i3) := Option.some.inj e3
  obtain ⟨zc, ec⟩ := is_v (Cond.before_iff.mp (hsets _ (List.mem_of_getElem? (i := 1) rfl)))
  have CS : own_CS s := ⟨zc, Sta.start ec (Or.inl (hsets _ (List.mem_of_getElem? (i := 0) rfl))), gotF (Cond.eq_ints ec (Term.int_eval (0))) (not_v (Cond.before_iff.mp (hsets _ (List.mem_of_getElem? (i := 2) rfl))))⟩
  obtain ⟨vf, evf, hvf⟩ := isR_v (Cond.before_iff.mp (hsets _ (List.mem_of_getElem? (i := 8) rfl)))
  have SF : own_SF s := ⟨vf, Sta.start evf (Or.inl (hsets _ (List.mem_of_getElem? (i := 7) rfl))), hvf⟩
  obtain ⟨dn, kn, ev_dn, ar_dn⟩ := own_dgT (f := fun i => i % 10) (fun idx => by simp only [Term.eval]) (hw _ (List.mem_of_getElem? (i := 20) rfl)) (hsets _ (List.mem_of_getElem? (i := 12) rfl)) (hsets _ (List.mem_of_getElem? (i := 13) rfl)) (hsets _ (List.mem_of_getElem? (i := 14) rfl)) (fun i => by omega) (fun i hi => by simp [Term.eval]; exact own_d48 i hi)
  have st_dn := Sta.start ev_dn (Or.inl (hsets _ (List.mem_of_getElem? (i := 11) rfl)))
  obtain ⟨dt, kt, ev_dt, ar_dt⟩ := own_dgT (f := fun i => i / 10) (fun idx => by simp only [Term.eval]) (hw _ (List.mem_of_getElem? (i := 20) rfl)) (hsets _ (List.mem_of_getElem? (i := 17) rfl)) (hsets _ (List.mem_of_getElem? (i := 18) rfl)) (hsets _ (List.mem_of_getElem? (i := 19) rfl)) (fun i => by omega) (fun i hi => by simp [Term.eval]; exact own_d48t i hi)
  have st_dt := Sta.start ev_dt (Or.inl (hsets _ (List.mem_of_getElem? (i := 16) rfl)))
  have DG : own_DG s dn dt := ⟨st_dn, st_dt, ⟨kn, ar_dn⟩, ⟨kt, ar_dt⟩⟩
  have EW0 : EW s _ own_EL := (EW.cons (hw _ (List.mem_of_getElem? (i := 119) rfl)) (by decide) (EW.cons (hw _ (List.mem_of_getElem? (i := 224) rfl)) (by decide) EW.nil))
  have EWf : own_EW s own_EL := ⟨_, EW0⟩
  have hsf : own_Sf s own_EL [] s.vm s.heap := ⟨CHv.start EW0 (own_allP (own_held (hcalls.1 _ (List.mem_of_getElem? (i := 0) rfl))) (own_allP (own_held (hcalls.1 _ (List.mem_of_getElem? (i := 1) rfl))) own_allN)) (own_cw (hsets _ (List.mem_of_getElem? (i := 2) rfl))) (hw _ (List.mem_of_getElem? (i := 20) rfl)) (hw _ (List.mem_of_getElem? (i := 2) rfl)), all0⟩
  obtain ⟨n, o, h1, h2, h3, _, L, rfl, ⟨rfl, N, -⟩, -, -, hq⟩ := own_law l s _ hw EWf s.heap.size i0 i1 i2 i3 dn dt s.heap (Old.start s) DG CS SF tables_1 p e ha hc hk s m _ below hf ((Spec.applies_iff_loose hf).mp happ).1 ⟨rfl, State.Warmed39.refl s, rfl, hsf⟩ trivial
  refine ⟨n, _, h1, h2, h3, hpost _ _ _ _ _ _ ⟨Cond.after_iff.mpr rfl, Cond.after_iff.mpr (eq_i res_at (Term.int_eval (1)) rfl), trivial⟩ ⟨hq.1, hq.2.1, hq.2.2.1, (hq.2.2.2.sift fun y hy => Or.inr (N y hy)).mono (by decide) (by decide)⟩⟩
theorem main_1_1 : Claimed_1_1 := comes_1 fun _ _ _ _ _ _ h hF => ⟨h.1, hF⟩
theorem main_1_2 : Claimed_1_2 := comes_1 fun _ _ _ _ _ _ h hF => ⟨h.2.1, hF⟩
end Jvm.Pilot.@@N@@
namespace Jvm.Pilot.@@N@@
open Jvm Jvm.ClassFile Sem Op Lib Jvm.Free Jvm.Stand Jvm.Pilot.@@N@@.Jvm.D
/-! MADE BY PROGRAM (witnessworld.py) out of the Statement's table words and the real class files: 29 classes; the members and pool entries that the words name. The judged class is class 1, her method 1. -/
namespace start1
open Jvm.ClassFile
def u (s : String) : CpInfo := .utf8 (stringToUtf16 s)
/-- a pool by its gaps: so many unusable entries, then the entry; so many at the end -/
def gap : Nat → List CpInfo → List CpInfo
  | 0, r => r
  | n + 1, r => .unusable :: gap n r
def poolList (es : List (Nat × CpInfo)) (last : Nat) : List CpInfo := es.foldr (fun e r => gap e.1 (e.2 :: r)) (gap last [])
def pool (es : List (Nat × CpInfo)) (last : Nat) : Array CpInfo := ⟨poolList es last⟩
def fileOf (pool : Array CpInfo) (this : Nat) (attrs : Array Attribute := #[]) (ms : Array MethodInfo := #[]) (fl : Nat := 33) (sup : Nat := 0) (ifs : Array Nat := #[]) (fds : Array FieldInfo := #[]) : ClassFile where
  minorVersion := 0
  majorVersion := 65
  constantPool := pool
  accessFlags := fl
  thisClass := this
  superClass := sup
  interfaces := ifs
  fields := fds
  methods := ms
  attributes := attrs
def plain (name : String) (sup : Option ClassId) : Class where
  name := name
  kind := .ordinary
  loader := none
  accessFlags := 33
  super := sup
  interfaces := #[]
  cf := none
  fields := #[]
  methods := #[]
  instanceTypes := #[]
  staticTypes := #[]
  resolved := #[]
  callSites := []
  init := .initialized
  statics := none
  mirror := none

def pool0 : Array CpInfo := pool [(5, u "<init>"), (0, u "()V"), (1, .class_ 10), (1, u "java/lang/Object"), (85, u "clone"), (0, u "()Ljava/lang/Object;")] 26

def k0c0 : Code := { maxStack := 0, maxLocals := 1, code := object_method_1_code, exceptionTable := #[], attributes := #[] }
def k0m0 : Method := { name := "<init>", desc := "()V", sig := { parameters := [], returnType := none }, accessFlags := 1, code := some k0c0 }
def k0m1 : Method := { name := "clone", desc := "()Ljava/lang/Object;", sig := { parameters := [], returnType := some (.object "java/lang/Object") }, accessFlags := 260, code := none }
/-- java/lang/Object -/
def k0 : Class := { plain "java/lang/Object" none with
  accessFlags := 33
  interfaces := #[]
  cf := some (fileOf pool0 8 #[] #[{ accessFlags := 1, nameIndex := 5, descriptorIndex := 6, attributes := #[] }, { accessFlags := 260, nameIndex := 96, descriptorIndex := 97, attributes := #[] }] 33 0 #[] #[])
  fields := #[]
  methods := #[k0m0, k0m1]
  instanceTypes := #[]
  staticTypes := #[]
  resolved := Array.replicate 124 none
  statics := none }

def pool1 : Array CpInfo := pool [(2, .class_ 4), (1, u "java/lang/Object"), (0, u "<init>"), (0, u "()V"), (0, .integer 2147483647), (0, .class_ 9), (0, u "java/lang/String"), (0, .methodref 8 11), (0, .nameAndType 5 12), (0, u "([C)V"), (0, .class_ 14), (0, u "com/example/tributary/tributary/Location"), (0, .methodref 13 16), (0, .nameAndType 5 17), (0, u "(Ljava/lang/String;II)V"), (0, .methodref 13 19), (0, .nameAndType 20 21), (0, u "toString"), (0, u "()Ljava/lang/String;"), (0, .methodref 8 23), (0, .nameAndType 24 25), (0, u "equals"), (0, u "(Ljava/lang/Object;)Z"), (0, .methodref 27 28), (0, .class_ 29), (0, .nameAndType 30 31), (0, u "com/example/tributary/tributary/LocationToStringPinLaw"), (0, u "nd"), (0, u "(I)I"), (0, .methodref 8 33), (0, .nameAndType 34 35), (0, u "length"), (0, u "()I"), (0, .methodref 8 37), (0, .nameAndType 38 39), (0, u "charAt"), (0, u "(I)C"), (0, .methodref 27 41), (0, .nameAndType 42 43), (0, u "digits"), (0, u "(Ljava/lang/String;II)Z"), (0, .integer 1000000000), (0, .integer 100000000), (0, .integer 10000000), (0, .integer 1000000), (0, .integer 100000), (0, .methodref 27 50), (0, .nameAndType 51 52), (0, u "d"), (0, u "(Ljava/lang/String;IIIII)Z"), (2, u "law"), (0, u "(IIII)Z")] 3

def k1m0 : Method := { name := "<init>", desc := "()V", sig := { parameters := [], returnType := none }, accessFlags := 1, code := none }
def k1c1 : Code := { maxStack := 6, maxLocals := 11, code := code, exceptionTable := #[], attributes := #[] }
def k1m1 : Method := { name := "law", desc := "(IIII)Z", sig := { parameters := [.int, .int, .int, .int], returnType := some .boolean }, accessFlags := 9, code := some k1c1 }
def k1c2 : Code := { maxStack := 2, maxLocals := 1, code := method_3_code, exceptionTable := #[], attributes := #[] }
def k1m2 : Method := { name := "nd", desc := "(I)I", sig := { parameters := [.int], returnType := some .int }, accessFlags := 10, code := some k1c2 }
def k1c3 : Code := { maxStack := 6, maxLocals := 4, code := method_4_code, exceptionTable := #[], attributes := #[] }
def k1m3 : Method := { name := "digits", desc := "(Ljava/lang/String;II)Z", sig := { parameters := [(.object "java/lang/String"), .int, .int], returnType := some .boolean }, accessFlags := 10, code := some k1c3 }
def k1c4 : Code := { maxStack := 4, maxLocals := 6, code := method_5_code, exceptionTable := #[], attributes := #[] }
def k1m4 : Method := { name := "d", desc := "(Ljava/lang/String;IIIII)Z", sig := { parameters := [(.object "java/lang/String"), .int, .int, .int, .int, .int], returnType := some .boolean }, accessFlags := 10, code := some k1c4 }
/-- com/example/tributary/tributary/LocationToStringPinLaw -/
def k1 : Class := { plain "com/example/tributary/tributary/LocationToStringPinLaw" (some 0) with
  accessFlags := 49
  interfaces := #[]
  cf := some (fileOf pool1 27 #[] #[{ accessFlags := 1, nameIndex := 5, descriptorIndex := 6, attributes := #[] }, { accessFlags := 9, nameIndex := 55, descriptorIndex := 56, attributes := #[] }, { accessFlags := 10, nameIndex := 30, descriptorIndex := 31, attributes := #[] }, { accessFlags := 10, nameIndex := 42, descriptorIndex := 43, attributes := #[] }, { accessFlags := 10, nameIndex := 51, descriptorIndex := 52, attributes := #[] }] 49 2 #[] #[])
  fields := #[]
  methods := #[k1m0, k1m1, k1m2, k1m3, k1m4]
  instanceTypes := #[]
  staticTypes := #[]
  resolved := Array.replicate 60 none
  statics := none }

def pool2 : Array CpInfo := pool [(1, .class_ 2), (0, u "java/io/Serializable"), (0, .class_ 4), (0, u "java/lang/Object")] 2

/-- java/io/Serializable -/
def k2 : Class := { plain "java/io/Serializable" (some 0) with
  accessFlags := 1537
  interfaces := #[]
  cf := some (fileOf pool2 1 #[] #[] 1537 3 #[] #[])
  fields := #[]
  methods := #[]
  instanceTypes := #[]
  staticTypes := #[]
  resolved := Array.replicate 7 none
  statics := none }

def pool3 : Array CpInfo := pool [(1, .class_ 2), (0, u "java/lang/Comparable"), (0, .class_ 4), (0, u "java/lang/Object")] 7

/-- java/lang/Comparable -/
def k3 : Class := { plain "java/lang/Comparable" (some 0) with
  accessFlags := 1537
  interfaces := #[]
  cf := some (fileOf pool3 1 #[] #[] 1537 3 #[] #[])
  fields := #[]
  methods := #[]
  instanceTypes := #[]
  staticTypes := #[]
  resolved := Array.replicate 12 none
  statics := none }

def pool4 : Array CpInfo := pool [(2, .class_ 4), (1, u "java/lang/CharSequence"), (42, .class_ 48), (0, u "java/lang/CharSequence$1CodePointIterator"), (10, .class_ 60), (0, u "java/lang/CharSequence$1CharIterator"), (5, .class_ 67), (0, u "java/lang/Object")] 63

/-- java/lang/CharSequence -/
def k4 : Class := { plain "java/lang/CharSequence" (some 0) with
  accessFlags := 1537
  interfaces := #[]
  cf := some (fileOf pool4 2 #[.nestMembers #[47, 59]] #[] 1537 66 #[] #[])
  fields := #[]
  methods := #[]
  instanceTypes := #[]
  staticTypes := #[]
  resolved := Array.replicate 131 none
  statics := none }

def pool5 : Array CpInfo := pool [(1, .class_ 2), (0, u "java/lang/constant/Constable"), (0, .class_ 4), (0, u "java/lang/Object")] 6

/-- java/lang/constant/Constable -/
def k5 : Class := { plain "java/lang/constant/Constable" (some 0) with
  accessFlags := 1537
  interfaces := #[]
  cf := some (fileOf pool5 1 #[] #[] 1537 3 #[] #[])
  fields := #[]
  methods := #[]
  instanceTypes := #[]
  staticTypes := #[]
  resolved := Array.replicate 11 none
  statics := none }

def pool6 : Array CpInfo := pool [(1, .class_ 2), (0, u "java/lang/constant/ConstantDesc"), (0, .class_ 4), (0, u "java/lang/Object")] 32

/-- java/lang/constant/ConstantDesc -/
def k6 : Class := { plain "java/lang/constant/ConstantDesc" (some 0) with
  accessFlags := 1537
  interfaces := #[]
  cf := some (fileOf pool6 1 #[] #[] 1537 3 #[] #[])
  fields := #[]
  methods := #[]
  instanceTypes := #[]
  staticTypes := #[]
  resolved := Array.replicate 37 none
  statics := none }

def pool7 : Array CpInfo := pool [(1, .methodref 2 3), (0, .class_ 4), (0, .nameAndType 5 6), (0, u "java/lang/Object"), (0, u "<init>"), (0, u "()V"), (0, .string 8), (0, u ""), (0, .fieldref 10 11), (0, .class_ 12), (0, .nameAndType 13 14), (0, u "java/lang/String"), (0, u "value"), (0, u "[B"), (0, .fieldref 10 16), (0, .nameAndType 17 18), (0, u "coder"), (0, u "B"), (2, u "hash"), (0, u "I"), (2, u "hashIsZero"), (0, u "Z"), (0, .methodref 10 28), (0, .nameAndType 5 29), (0, u "([CIILjava/lang/Void;)V"), (8, .fieldref 10 39), (0, .nameAndType 40 26), (0, u "COMPACT_STRINGS"), (1, .class_ 44), (1, u "java/lang/StringUTF16"), (0, u "compress"), (1, .methodref 42 48), (0, .nameAndType 49 50), (0, u "coderFromArrayLen"), (0, u "([BI)B"), (3, .methodref 55 56), (0, .class_ 57), (0, .nameAndType 58 59), (0, u "java/util/Arrays"), (0, u "copyOfRange"), (0, u "([BII)[B"), (47, .class_ 109), (1, u "java/lang/StringLatin1"), (32, u "()Z"), (34, .methodref 42 178), (0, .nameAndType 45 179), (0, u "([CII)[B"), (13, .class_ 195), (1, u "java/lang/System"), (16, .methodref 193 213), (0, .nameAndType 214 215), (0, u "arraycopy"), (0, u "(Ljava/lang/Object;ILjava/lang/Object;II)V"), (118, u "()I"), (0, .methodref 10 336), (0, .nameAndType 17 337), (0, u "()B"), (2, u "()[B"), (22, u "([BI)C"), (27, u "(II)V"), (35, u "(I)C"), (61, .methodref 10 490), (0, .nameAndType 5 491), (0, u "(Ljava/lang/AbstractStringBuilder;Ljava/lang/Void;)V"), (0, .methodref 10 493), (0, .nameAndType 494 142), (0, u "isLatin1"), (0, .methodref 107 496), (0, .nameAndType 497 363), (0, u "charAt"), (3, u "checkIndex"), (4, .nameAndType 507 334), (0, u "length"), (24, u "getBytes"), (10, u "equals"), (5, .methodref 550 506), (0, .class_ 551), (0, u "java/lang/AbstractStringBuilder"), (0, .methodref 550 553), (0, .nameAndType 554 340), (0, u "getValue"), (18, u "(Ljava/lang/Object;)Z"), (1, .class_ 576), (0, u "java/lang/CharSequence"), (22, u "CASE_INSENSITIVE_ORDER"), (0, u "Ljava/util/Comparator;"), (220, u "([BIB)V"), (188, u "([C)V"), (36, .methodref 550 493), (5, .fieldref 1054 1055), (0, .class_ 1056), (0, .nameAndType 1057 1058), (0, u "jdk/internal/util/Preconditions"), (0, u "SIOOBE_FORMATTER"), (0, u "Ljava/util/function/BiFunction;"), (0, .methodref 1054 1060), (0, .nameAndType 501 1061), (0, u "(IILjava/util/function/BiFunction;)I"), (39, u "serialPersistentFields"), (0, u "[Ljava/io/ObjectStreamField;"), (0, .class_ 1104), (0, u "java/lang/String$CaseInsensitiveComparator"), (1, .class_ 1107), (0, u "java/io/Serializable"), (0, .class_ 1109), (0, u "java/lang/Comparable"), (0, .class_ 1111), (0, u "java/lang/constant/Constable"), (0, .class_ 1113), (0, u "java/lang/constant/ConstantDesc"), (2, u "serialVersionUID"), (0, u "J"), (3, u "REPL"), (0, u "C"), (2, u "LATIN1"), (1, u "UTF16"), (105, u "(Ljava/lang/StringBuilder;)V")] 217

def k7m0 : Method := { name := "<init>", desc := "()V", sig := { parameters := [], returnType := none }, accessFlags := 1, code := none }
def k7c1 : Code := { maxStack := 5, maxLocals := 2, code := jdk_42_method_3_code, exceptionTable := #[], attributes := #[] }
def k7m1 : Method := { name := "<init>", desc := "([C)V", sig := { parameters := [(.array .char)], returnType := none }, accessFlags := 1, code := some k7c1 }
def k7c2 : Code := { maxStack := 3, maxLocals := 2, code := jdk_42_method_53_code, exceptionTable := #[], attributes := #[] }
def k7m2 : Method := { name := "<init>", desc := "(Ljava/lang/StringBuilder;)V", sig := { parameters := [(.object "java/lang/StringBuilder")], returnType := none }, accessFlags := 1, code := some k7c2 }
def k7c3 : Code := { maxStack := 2, maxLocals := 1, code := jdk_42_method_54_code, exceptionTable := #[], attributes := #[] }
def k7m3 : Method := { name := "length", desc := "()I", sig := { parameters := [], returnType := some .int }, accessFlags := 1, code := some k7c3 }
def k7c4 : Code := { maxStack := 2, maxLocals := 2, code := jdk_42_method_56_code, exceptionTable := #[], attributes := #[] }
def k7m4 : Method := { name := "charAt", desc := "(I)C", sig := { parameters := [.int], returnType := some .char }, accessFlags := 1, code := some k7c4 }
def k7c5 : Code := { maxStack := 2, maxLocals := 3, code := jdk_42_method_66_code, exceptionTable := #[], attributes := #[] }
def k7m5 : Method := { name := "equals", desc := "(Ljava/lang/Object;)Z", sig := { parameters := [(.object "java/lang/Object")], returnType := some .boolean }, accessFlags := 1, code := some k7c5 }
def k7c6 : Code := { maxStack := 5, maxLocals := 4, code := jdk_42_method_147_code, exceptionTable := #[], attributes := #[] }
def k7m6 : Method := { name := "getBytes", desc := "([BIB)V", sig := { parameters := [(.array .byte), .int, .byte], returnType := none }, accessFlags := 0, code := some k7c6 }
def k7c7 : Code := { maxStack := 4, maxLocals := 6, code := jdk_42_method_149_code, exceptionTable := #[], attributes := #[] }
def k7m7 : Method := { name := "<init>", desc := "([CIILjava/lang/Void;)V", sig := { parameters := [(.array .char), .int, .int, (.object "java/lang/Void")], returnType := none }, accessFlags := 2, code := some k7c7 }
def k7c8 : Code := { maxStack := 5, maxLocals := 5, code := jdk_42_method_150_code, exceptionTable := #[], attributes := #[] }
def k7m8 : Method := { name := "<init>", desc := "(Ljava/lang/AbstractStringBuilder;Ljava/lang/Void;)V", sig := { parameters := [(.object "java/lang/AbstractStringBuilder"), (.object "java/lang/Void")], returnType := none }, accessFlags := 0, code := some k7c8 }
def k7c9 : Code := { maxStack := 1, maxLocals := 1, code := jdk_42_method_152_code, exceptionTable := #[], attributes := #[] }
def k7m9 : Method := { name := "coder", desc := "()B", sig := { parameters := [], returnType := some .byte }, accessFlags := 0, code := some k7c9 }
def k7c10 : Code := { maxStack := 1, maxLocals := 1, code := jdk_42_method_154_code, exceptionTable := #[], attributes := #[] }
def k7m10 : Method := { name := "isLatin1", desc := "()Z", sig := { parameters := [], returnType := some .boolean }, accessFlags := 0, code := some k7c10 }
def k7c11 : Code := { maxStack := 3, maxLocals := 2, code := jdk_42_method_155_code, exceptionTable := #[], attributes := #[] }
def k7m11 : Method := { name := "checkIndex", desc := "(II)V", sig := { parameters := [.int, .int], returnType := none }, accessFlags := 8, code := some k7c11 }
/-- java/lang/String -/
def k7 : Class := { plain "java/lang/String" (some 0) with
  accessFlags := 49
  interfaces := #[2, 3, 4, 5, 6]
  cf := some (fileOf pool7 10 #[.nestMembers #[1103]] #[{ accessFlags := 1, nameIndex := 5, descriptorIndex := 6, attributes := #[] }, { accessFlags := 1, nameIndex := 5, descriptorIndex := 1010, attributes := #[] }, { accessFlags := 1, nameIndex := 5, descriptorIndex := 1233, attributes := #[] }, { accessFlags := 1, nameIndex := 507, descriptorIndex := 334, attributes := #[] }, { accessFlags := 1, nameIndex := 497, descriptorIndex := 427, attributes := #[] }, { accessFlags := 1, nameIndex := 543, descriptorIndex := 573, attributes := #[] }, { accessFlags := 0, nameIndex := 532, descriptorIndex := 821, attributes := #[] }, { accessFlags := 2, nameIndex := 5, descriptorIndex := 29, attributes := #[] }, { accessFlags := 0, nameIndex := 5, descriptorIndex := 491, attributes := #[] }, { accessFlags := 0, nameIndex := 17, descriptorIndex := 337, attributes := #[] }, { accessFlags := 0, nameIndex := 494, descriptorIndex := 142, attributes := #[] }, { accessFlags := 8, nameIndex := 501, descriptorIndex := 391, attributes := #[] }] 49 2 #[1106, 1108, 575, 1110, 1112] #[{ accessFlags := 18, nameIndex := 13, descriptorIndex := 14, attributes := #[] }, { accessFlags := 18, nameIndex := 17, descriptorIndex := 18, attributes := #[] }, { accessFlags := 2, nameIndex := 21, descriptorIndex := 22, attributes := #[] }, { accessFlags := 2, nameIndex := 25, descriptorIndex := 26, attributes := #[] }, { accessFlags := 26, nameIndex := 1116, descriptorIndex := 1117, attributes := #[] }, { accessFlags := 24, nameIndex := 40, descriptorIndex := 26, attributes := #[] }, { accessFlags := 26, nameIndex := 1101, descriptorIndex := 1102, attributes := #[] }, { accessFlags := 26, nameIndex := 1121, descriptorIndex := 1122, attributes := #[] }, { accessFlags := 25, nameIndex := 599, descriptorIndex := 600, attributes := #[] }, { accessFlags := 24, nameIndex := 1125, descriptorIndex := 18, attributes := #[] }, { accessFlags := 24, nameIndex := 1127, descriptorIndex := 18, attributes := #[] }])
  fields := #[{ name := "value", type := (.array .byte), accessFlags := 18, slot := 0, constantValue := 0 }, { name := "coder", type := .byte, accessFlags := 18, slot := 1, constantValue := 0 }, { name := "hash", type := .int, accessFlags := 2, slot := 2, constantValue := 0 }, { name := "hashIsZero", type := .boolean, accessFlags := 2, slot := 3, constantValue := 0 }, { name := "serialVersionUID", type := .long, accessFlags := 26, slot := 0, constantValue := 0 }, { name := "COMPACT_STRINGS", type := .boolean, accessFlags := 24, slot := 1, constantValue := 0 }, { name := "serialPersistentFields", type := (.array (.object "java/io/ObjectStreamField")), accessFlags := 26, slot := 2, constantValue := 0 }, { name := "REPL", type := .char, accessFlags := 26, slot := 3, constantValue := 0 }, { name := "CASE_INSENSITIVE_ORDER", type := (.object "java/util/Comparator"), accessFlags := 25, slot := 4, constantValue := 0 }, { name := "LATIN1", type := .byte, accessFlags := 24, slot := 5, constantValue := 0 }, { name := "UTF16", type := .byte, accessFlags := 24, slot := 6, constantValue := 0 }]
  methods := #[k7m0, k7m1, k7m2, k7m3, k7m4, k7m5, k7m6, k7m7, k7m8, k7m9, k7m10, k7m11]
  instanceTypes := #[(.array .byte), .byte, .int, .boolean]
  staticTypes := #[.long, .boolean, (.array (.object "java/io/ObjectStreamField")), .char, (.object "java/util/Comparator"), .byte, .byte]
  resolved := Array.replicate 1451 none
  statics := some 0 }

def pool8 : Array CpInfo := pool [(6, .class_ 8), (1, u "java/lang/Object"), (0, u "<init>"), (0, u "()V"), (1, .class_ 14), (1, u "java/lang/StringUTF16"), (31, u "$assertionsDisabled"), (0, u "Z"), (13, u "HI_BYTE_SHIFT"), (0, u "I"), (2, u "LO_BYTE_SHIFT"), (49, .methodref 12 116), (0, .nameAndType 117 118), (0, u "compress"), (0, u "([CI[BII)I"), (3, u "([CII)[B"), (138, u "coderFromArrayLen"), (0, u "([BI)B"), (106, .class_ 371), (1, u "java/lang/StringUTF16$LinesSpliterator"), (58, u "MAX_LENGTH"), (196, .class_ 628), (0, u "java/lang/StringUTF16$CodePointsSpliterator"), (0, .class_ 630), (0, u "java/lang/StringUTF16$CharsSpliterator")] 4

def k8m0 : Method := { name := "<init>", desc := "()V", sig := { parameters := [], returnType := none }, accessFlags := 0, code := none }
def k8c1 : Code := { maxStack := 2, maxLocals := 2, code := jdk_52_method_15_code, exceptionTable := #[], attributes := #[] }
def k8m1 : Method := { name := "coderFromArrayLen", desc := "([BI)B", sig := { parameters := [(.array .byte), .int], returnType := some .byte }, accessFlags := 8, code := some k8c1 }
def k8c2 : Code := { maxStack := 5, maxLocals := 6, code := jdk_52_method_16_code, exceptionTable := #[], attributes := #[] }
def k8m2 : Method := { name := "compress", desc := "([CII)[B", sig := { parameters := [(.array .char), .int, .int], returnType := some (.array .byte) }, accessFlags := 9, code := some k8c2 }
def k8c3 : Code := { maxStack := 3, maxLocals := 7, code := jdk_52_method_21_code, exceptionTable := #[], attributes := #[] }
def k8m3 : Method := { name := "compress", desc := "([CI[BII)I", sig := { parameters := [(.array .char), .int, (.array .byte), .int, .int], returnType := some .int }, accessFlags := 9, code := some k8c3 }
/-- java/lang/StringUTF16 -/
def k8 : Class := { plain "java/lang/StringUTF16" (some 0) with
  accessFlags := 48
  interfaces := #[]
  cf := some (fileOf pool8 12 #[.nestMembers #[627, 629, 369]] #[{ accessFlags := 0, nameIndex := 9, descriptorIndex := 10, attributes := #[] }, { accessFlags := 8, nameIndex := 261, descriptorIndex := 262, attributes := #[] }, { accessFlags := 9, nameIndex := 117, descriptorIndex := 122, attributes := #[] }, { accessFlags := 9, nameIndex := 117, descriptorIndex := 118, attributes := #[] }] 48 6 #[] #[{ accessFlags := 26, nameIndex := 61, descriptorIndex := 62, attributes := #[] }, { accessFlags := 26, nameIndex := 65, descriptorIndex := 62, attributes := #[] }, { accessFlags := 24, nameIndex := 430, descriptorIndex := 62, attributes := #[] }, { accessFlags := 4120, nameIndex := 46, descriptorIndex := 47, attributes := #[] }])
  fields := #[{ name := "HI_BYTE_SHIFT", type := .int, accessFlags := 26, slot := 0, constantValue := 0 }, { name := "LO_BYTE_SHIFT", type := .int, accessFlags := 26, slot := 1, constantValue := 0 }, { name := "MAX_LENGTH", type := .int, accessFlags := 24, slot := 2, constantValue := 0 }, { name := "$assertionsDisabled", type := .boolean, accessFlags := 4120, slot := 3, constantValue := 0 }]
  methods := #[k8m0, k8m1, k8m2, k8m3]
  instanceTypes := #[]
  staticTypes := #[.int, .int, .int, .boolean]
  resolved := Array.replicate 635 none
  statics := none }

def pool9 : Array CpInfo := pool [(1, .methodref 2 3), (0, .class_ 4), (0, .nameAndType 5 6), (0, u "java/lang/Object"), (0, u "<init>"), (0, u "()V"), (0, .class_ 8), (0, u "java/lang/Record")] 13

def k9c0 : Code := { maxStack := 1, maxLocals := 1, code := jdk_30_method_1_code, exceptionTable := #[], attributes := #[] }
def k9m0 : Method := { name := "<init>", desc := "()V", sig := { parameters := [], returnType := none }, accessFlags := 4, code := some k9c0 }
/-- java/lang/Record -/
def k9 : Class := { plain "java/lang/Record" (some 0) with
  accessFlags := 1057
  interfaces := #[]
  cf := some (fileOf pool9 7 #[] #[{ accessFlags := 4, nameIndex := 5, descriptorIndex := 6, attributes := #[] }] 1057 2 #[] #[])
  fields := #[]
  methods := #[k9m0]
  instanceTypes := #[]
  staticTypes := #[]
  resolved := Array.replicate 22 none
  statics := none }

def pool10 : Array CpInfo := pool [(1, .methodref 2 3), (0, .class_ 4), (0, .nameAndType 5 6), (0, u "java/lang/Record"), (0, u "<init>"), (0, u "()V"), (0, .fieldref 8 9), (0, .class_ 10), (0, .nameAndType 11 12), (0, u "com/example/tributary/tributary/Location"), (0, u "file"), (0, u "Ljava/lang/String;"), (0, .fieldref 8 14), (0, .nameAndType 15 16), (0, u "line"), (0, u "I"), (0, .fieldref 8 18), (0, .nameAndType 19 16), (0, u "column"), (2, u "(Ljava/lang/String;II)V"), (0, .class_ 24), (0, u "java/lang/StringBuilder"), (0, .methodref 23 3), (0, .methodref 23 27), (0, .nameAndType 28 29), (0, u "append"), (0, u "(Ljava/lang/String;)Ljava/lang/StringBuilder;"), (0, .string 31), (0, u ":"), (0, .methodref 23 33), (0, .nameAndType 28 34), (0, u "(I)Ljava/lang/StringBuilder;"), (0, .methodref 23 36), (0, .nameAndType 37 38), (0, u "toString"), (0, u "()Ljava/lang/String;")] 40

def k10c0 : Code := { maxStack := 2, maxLocals := 4, code := prog_10_method_1_code, exceptionTable := #[], attributes := #[] }
def k10m0 : Method := { name := "<init>", desc := "(Ljava/lang/String;II)V", sig := { parameters := [(.object "java/lang/String"), .int, .int], returnType := none }, accessFlags := 1, code := some k10c0 }
def k10c1 : Code := { maxStack := 2, maxLocals := 1, code := prog_10_method_3_code, exceptionTable := #[], attributes := #[] }
def k10m1 : Method := { name := "toString", desc := "()Ljava/lang/String;", sig := { parameters := [], returnType := some (.object "java/lang/String") }, accessFlags := 1, code := some k10c1 }
/-- com/example/tributary/tributary/Location -/
def k10 : Class := { plain "com/example/tributary/tributary/Location" (some 9) with
  accessFlags := 49
  interfaces := #[]
  cf := some (fileOf pool10 8 #[] #[{ accessFlags := 1, nameIndex := 5, descriptorIndex := 22, attributes := #[] }, { accessFlags := 1, nameIndex := 37, descriptorIndex := 38, attributes := #[] }] 49 2 #[] #[{ accessFlags := 18, nameIndex := 11, descriptorIndex := 12, attributes := #[] }, { accessFlags := 18, nameIndex := 15, descriptorIndex := 16, attributes := #[] }, { accessFlags := 18, nameIndex := 19, descriptorIndex := 16, attributes := #[] }])
  fields := #[{ name := "file", type := (.object "java/lang/String"), accessFlags := 18, slot := 0, constantValue := 0 }, { name := "line", type := .int, accessFlags := 18, slot := 1, constantValue := 0 }, { name := "column", type := .int, accessFlags := 18, slot := 2, constantValue := 0 }]
  methods := #[k10m0, k10m1]
  instanceTypes := #[(.object "java/lang/String"), .int, .int]
  staticTypes := #[]
  resolved := Array.replicate 79 none
  statics := none }

def pool11 : Array CpInfo := pool [(1, .class_ 2), (0, u "java/lang/Appendable"), (0, .class_ 4), (0, u "java/lang/Object")] 9

/-- java/lang/Appendable -/
def k11 : Class := { plain "java/lang/Appendable" (some 0) with
  accessFlags := 1537
  interfaces := #[]
  cf := some (fileOf pool11 1 #[] #[] 1537 3 #[] #[])
  fields := #[]
  methods := #[]
  instanceTypes := #[]
  staticTypes := #[]
  resolved := Array.replicate 14 none
  statics := none }

def pool12 : Array CpInfo := pool [(1, .class_ 2), (0, u "java/lang/String"), (0, .methodref 4 5), (0, .class_ 6), (0, .nameAndType 7 8), (0, u "java/lang/Object"), (0, u "<init>"), (0, u "()V"), (1, .class_ 12), (1, u "java/lang/AbstractStringBuilder"), (0, u "EMPTYVALUE"), (0, u "[B"), (0, .fieldref 10 16), (0, .nameAndType 17 14), (0, u "value"), (0, .fieldref 1 19), (0, .nameAndType 20 21), (0, u "COMPACT_STRINGS"), (0, u "Z"), (0, .fieldref 10 23), (0, .nameAndType 24 25), (0, u "coder"), (0, u "B"), (6, .methodref 1 33), (0, .nameAndType 34 35), (0, u "length"), (0, u "()I"), (0, .class_ 37), (0, u "java/lang/Integer"), (1, .integer 2147483647), (0, .methodref 1 41), (0, .nameAndType 24 42), (0, u "()B"), (2, u "append"), (0, u "(Ljava/lang/String;)Ljava/lang/AbstractStringBuilder;"), (1, .class_ 49), (0, u "java/lang/CharSequence"), (19, u "(Ljava/lang/String;)V"), (5, u "maybeLatin1"), (3, .fieldref 10 80), (0, .nameAndType 81 82), (0, u "count"), (0, u "I"), (0, .methodref 10 84), (0, .nameAndType 85 86), (0, u "isLatin1"), (0, u "()Z"), (13, .methodref 10 101), (0, .nameAndType 102 103), (0, u "ensureCapacityInternal"), (0, u "(I)V"), (0, .methodref 10 105), (0, .nameAndType 106 107), (0, u "newCapacity"), (0, u "(I)I"), (0, .methodref 109 110), (0, .class_ 111), (0, .nameAndType 112 113), (0, u "java/util/Arrays"), (0, u "copyOf"), (0, u "([BI)[B"), (0, .methodref 115 116), (0, .class_ 117), (0, .nameAndType 118 119), (0, u "jdk/internal/util/ArraysSupport"), (0, u "newLength"), (0, u "(III)I"), (68, u "getChars"), (19, .methodref 10 209), (0, .nameAndType 210 211), (0, u "putStringAt"), (0, u "(ILjava/lang/String;)V"), (5, u "inflateIfNeededFor"), (2, .nameAndType 221 222), (0, u "getBytes"), (0, u "([BIB)V"), (22, .methodref 36 246), (0, .nameAndType 247 107), (0, u "stringSize"), (0, .methodref 36 249), (0, .nameAndType 188 250), (0, u "(II[B)I"), (146, .methodref 10 398), (0, .nameAndType 217 69), (0, .methodref 1 220), (3, u "()[B"), (40, .class_ 445), (0, u "java/lang/Appendable"), (65, u "(I)Ljava/lang/AbstractStringBuilder;"), (40, u "getValue")] 56

def k12m0 : Method := { name := "<init>", desc := "()V", sig := { parameters := [], returnType := none }, accessFlags := 0, code := none }
def k12c1 : Code := { maxStack := 2, maxLocals := 2, code := jdk_68_method_2_code, exceptionTable := #[], attributes := #[] }
def k12m1 : Method := { name := "<init>", desc := "(I)V", sig := { parameters := [.int], returnType := none }, accessFlags := 0, code := some k12c1 }
def k12c2 : Code := { maxStack := 1, maxLocals := 1, code := jdk_68_method_6_code, exceptionTable := #[], attributes := #[] }
def k12m2 : Method := { name := "length", desc := "()I", sig := { parameters := [], returnType := some .int }, accessFlags := 1, code := some k12c2 }
def k12c3 : Code := { maxStack := 4, maxLocals := 3, code := jdk_68_method_9_code, exceptionTable := #[], attributes := #[] }
def k12m3 : Method := { name := "ensureCapacityInternal", desc := "(I)V", sig := { parameters := [.int], returnType := none }, accessFlags := 2, code := some k12c3 }
def k12c4 : Code := { maxStack := 5, maxLocals := 6, code := jdk_68_method_10_code, exceptionTable := #[], attributes := #[] }
def k12m4 : Method := { name := "newCapacity", desc := "(I)I", sig := { parameters := [.int], returnType := some .int }, accessFlags := 2, code := some k12c4 }
def k12c5 : Code := { maxStack := 3, maxLocals := 3, code := jdk_68_method_22_code, exceptionTable := #[], attributes := #[] }
def k12m5 : Method := { name := "append", desc := "(Ljava/lang/String;)Ljava/lang/AbstractStringBuilder;", sig := { parameters := [(.object "java/lang/String")], returnType := some (.object "java/lang/AbstractStringBuilder") }, accessFlags := 1, code := some k12c5 }
def k12c6 : Code := { maxStack := 4, maxLocals := 4, code := jdk_68_method_32_code, exceptionTable := #[], attributes := #[] }
def k12m6 : Method := { name := "append", desc := "(I)Ljava/lang/AbstractStringBuilder;", sig := { parameters := [.int], returnType := some (.object "java/lang/AbstractStringBuilder") }, accessFlags := 1, code := some k12c6 }
def k12c7 : Code := { maxStack := 1, maxLocals := 1, code := jdk_68_method_64_code, exceptionTable := #[], attributes := #[] }
def k12m7 : Method := { name := "getValue", desc := "()[B", sig := { parameters := [], returnType := some (.array .byte) }, accessFlags := 16, code := some k12c7 }
def k12c8 : Code := { maxStack := 1, maxLocals := 1, code := jdk_68_method_68_code, exceptionTable := #[], attributes := #[] }
def k12m8 : Method := { name := "isLatin1", desc := "()Z", sig := { parameters := [], returnType := some .boolean }, accessFlags := 16, code := some k12c8 }
def k12c9 : Code := { maxStack := 2, maxLocals := 2, code := jdk_68_method_71_code, exceptionTable := #[], attributes := #[] }
def k12m9 : Method := { name := "inflateIfNeededFor", desc := "(Ljava/lang/String;)V", sig := { parameters := [(.object "java/lang/String")], returnType := none }, accessFlags := 2, code := some k12c9 }
def k12c10 : Code := { maxStack := 4, maxLocals := 3, code := jdk_68_method_73_code, exceptionTable := #[], attributes := #[] }
def k12m10 : Method := { name := "putStringAt", desc := "(ILjava/lang/String;)V", sig := { parameters := [.int, (.object "java/lang/String")], returnType := none }, accessFlags := 2, code := some k12c10 }
/-- java/lang/AbstractStringBuilder -/
def k12 : Class := { plain "java/lang/AbstractStringBuilder" (some 0) with
  accessFlags := 1056
  interfaces := #[11, 4]
  cf := some (fileOf pool12 10 #[] #[{ accessFlags := 0, nameIndex := 7, descriptorIndex := 8, attributes := #[] }, { accessFlags := 0, nameIndex := 7, descriptorIndex := 103, attributes := #[] }, { accessFlags := 1, nameIndex := 34, descriptorIndex := 35, attributes := #[] }, { accessFlags := 2, nameIndex := 102, descriptorIndex := 103, attributes := #[] }, { accessFlags := 2, nameIndex := 106, descriptorIndex := 107, attributes := #[] }, { accessFlags := 1, nameIndex := 45, descriptorIndex := 46, attributes := #[] }, { accessFlags := 1, nameIndex := 45, descriptorIndex := 511, attributes := #[] }, { accessFlags := 16, nameIndex := 552, descriptorIndex := 403, attributes := #[] }, { accessFlags := 16, nameIndex := 85, descriptorIndex := 86, attributes := #[] }, { accessFlags := 2, nameIndex := 217, descriptorIndex := 69, attributes := #[] }, { accessFlags := 2, nameIndex := 210, descriptorIndex := 211, attributes := #[] }] 1056 4 #[444, 48] #[{ accessFlags := 0, nameIndex := 17, descriptorIndex := 14, attributes := #[] }, { accessFlags := 0, nameIndex := 24, descriptorIndex := 25, attributes := #[] }, { accessFlags := 0, nameIndex := 75, descriptorIndex := 21, attributes := #[] }, { accessFlags := 0, nameIndex := 81, descriptorIndex := 82, attributes := #[] }, { accessFlags := 26, nameIndex := 13, descriptorIndex := 14, attributes := #[] }])
  fields := #[{ name := "value", type := (.array .byte), accessFlags := 0, slot := 0, constantValue := 0 }, { name := "coder", type := .byte, accessFlags := 0, slot := 1, constantValue := 0 }, { name := "maybeLatin1", type := .boolean, accessFlags := 0, slot := 2, constantValue := 0 }, { name := "count", type := .int, accessFlags := 0, slot := 3, constantValue := 0 }, { name := "EMPTYVALUE", type := (.array .byte), accessFlags := 26, slot := 0, constantValue := 0 }]
  methods := #[k12m0, k12m1, k12m2, k12m3, k12m4, k12m5, k12m6, k12m7, k12m8, k12m9, k12m10]
  instanceTypes := #[(.array .byte), .byte, .boolean, .int]
  staticTypes := #[(.array .byte)]
  resolved := Array.replicate 609 none
  statics := none }

def pool13 : Array CpInfo := pool [(1, .methodref 2 3), (0, .class_ 4), (0, .nameAndType 5 6), (0, u "java/lang/AbstractStringBuilder"), (0, u "<init>"), (0, u "(I)V"), (11, .class_ 20), (1, u "java/lang/String"), (3, .class_ 26), (1, u "java/lang/StringBuilder"), (0, u "append"), (0, u "(Ljava/lang/String;)Ljava/lang/StringBuilder;"), (0, .methodref 2 30), (0, .nameAndType 27 31), (0, u "(Ljava/lang/String;)Ljava/lang/AbstractStringBuilder;"), (21, .methodref 2 54), (0, .nameAndType 27 55), (0, u "(I)Ljava/lang/AbstractStringBuilder;"), (81, .methodref 18 138), (0, .nameAndType 5 139), (0, u "(Ljava/lang/StringBuilder;)V"), (5, u "()V"), (10, u "()I"), (111, u "(I)Ljava/lang/StringBuilder;"), (74, .methodref 2 344), (0, .nameAndType 345 156), (0, u "length"), (3, .class_ 350), (0, u "java/lang/Appendable"), (0, .class_ 352), (0, u "java/io/Serializable"), (0, .class_ 354), (0, u "java/lang/Comparable"), (0, .class_ 356), (0, u "java/lang/CharSequence"), (0, u "serialVersionUID"), (0, u "J"), (40, u "toString"), (0, u "()Ljava/lang/String;")] 21

def k13c0 : Code := { maxStack := 2, maxLocals := 1, code := jdk_67_method_1_code, exceptionTable := #[], attributes := #[] }
def k13m0 : Method := { name := "<init>", desc := "()V", sig := { parameters := [], returnType := none }, accessFlags := 1, code := some k13c0 }
def k13c1 : Code := { maxStack := 2, maxLocals := 2, code := jdk_67_method_7_code, exceptionTable := #[], attributes := #[] }
def k13m1 : Method := { name := "append", desc := "(Ljava/lang/String;)Ljava/lang/StringBuilder;", sig := { parameters := [(.object "java/lang/String")], returnType := some (.object "java/lang/StringBuilder") }, accessFlags := 1, code := some k13c1 }
def k13c2 : Code := { maxStack := 2, maxLocals := 2, code := jdk_67_method_15_code, exceptionTable := #[], attributes := #[] }
def k13m2 : Method := { name := "append", desc := "(I)Ljava/lang/StringBuilder;", sig := { parameters := [.int], returnType := some (.object "java/lang/StringBuilder") }, accessFlags := 1, code := some k13c2 }
def k13c3 : Code := { maxStack := 3, maxLocals := 1, code := jdk_67_method_42_code, exceptionTable := #[], attributes := #[] }
def k13m3 : Method := { name := "toString", desc := "()Ljava/lang/String;", sig := { parameters := [], returnType := some (.object "java/lang/String") }, accessFlags := 1, code := some k13c3 }
def k13c4 : Code := { maxStack := 1, maxLocals := 1, code := jdk_67_method_93_code, exceptionTable := #[], attributes := #[] }
def k13m4 : Method := { name := "length", desc := "()I", sig := { parameters := [], returnType := some .int }, accessFlags := 4161, code := some k13c4 }
/-- java/lang/StringBuilder -/
def k13 : Class := { plain "java/lang/StringBuilder" (some 12) with
  accessFlags := 49
  interfaces := #[11, 2, 3, 4]
  cf := some (fileOf pool13 24 #[] #[{ accessFlags := 1, nameIndex := 5, descriptorIndex := 145, attributes := #[] }, { accessFlags := 1, nameIndex := 27, descriptorIndex := 28, attributes := #[] }, { accessFlags := 1, nameIndex := 27, descriptorIndex := 268, attributes := #[] }, { accessFlags := 1, nameIndex := 399, descriptorIndex := 400, attributes := #[] }, { accessFlags := 4161, nameIndex := 345, descriptorIndex := 156, attributes := #[] }] 49 2 #[349, 351, 353, 355] #[{ accessFlags := 24, nameIndex := 357, descriptorIndex := 358, attributes := #[] }])
  fields := #[{ name := "serialVersionUID", type := .long, accessFlags := 24, slot := 0, constantValue := 0 }]
  methods := #[k13m0, k13m1, k13m2, k13m3, k13m4]
  instanceTypes := #[(.array .byte), .byte, .boolean, .int]
  staticTypes := #[.long]
  resolved := Array.replicate 422 none
  statics := none }

def pool14 : Array CpInfo := pool [(2, .class_ 4), (1, u "java/lang/Object"), (0, u "<init>"), (0, u "()V"), (1, .class_ 10), (1, u "java/lang/System"), (0, u "allowSecurityManager"), (0, u "I"), (16, u "cons"), (0, u "Ljava/io/Console;"), (77, .class_ 110), (1, u "java/lang/System$CallersHolder"), (43, u "initialErrStream"), (0, u "Ljava/io/PrintStream;"), (19, u "security"), (0, u "Ljava/lang/SecurityManager;"), (31, .class_ 209), (0, u "java/lang/System$1"), (7, u "props"), (0, u "Ljava/util/Properties;"), (2, u "lineSeparator"), (0, u "Ljava/lang/String;"), (96, .class_ 321), (1, u "java/lang/System$LoggerFinder"), (5, .class_ 328), (0, u "java/lang/System$Logger"), (67, u "err"), (2, u "out"), (91, u "notSupportedJnuEncoding"), (15, u "in"), (17, u "initialIn"), (0, u "Ljava/io/InputStream;"), (35, u "bootLayer"), (0, u "Ljava/lang/ModuleLayer;"), (99, .class_ 664), (0, u "java/lang/System$2"), (9, u "NEVER"), (2, u "MAYBE"), (49, u "arraycopy"), (0, u "(Ljava/lang/Object;ILjava/lang/Object;II)V"), (72, .class_ 802), (0, u "java/lang/System$Logger$Level")] 31

def k14m0 : Method := { name := "<init>", desc := "()V", sig := { parameters := [], returnType := none }, accessFlags := 2, code := none }
def k14m1 : Method := { name := "arraycopy", desc := "(Ljava/lang/Object;ILjava/lang/Object;II)V", sig := { parameters := [(.object "java/lang/Object"), .int, (.object "java/lang/Object"), .int, .int], returnType := none }, accessFlags := 265, code := none }
/-- java/lang/System -/
def k14 : Class := { plain "java/lang/System" (some 0) with
  accessFlags := 49
  interfaces := #[]
  cf := some (fileOf pool14 8 #[.nestMembers #[319, 327, 801, 108, 663, 208]] #[{ accessFlags := 2, nameIndex := 5, descriptorIndex := 6, attributes := #[] }, { accessFlags := 265, nameIndex := 727, descriptorIndex := 728, attributes := #[] }] 49 2 #[] #[{ accessFlags := 25, nameIndex := 507, descriptorIndex := 526, attributes := #[] }, { accessFlags := 25, nameIndex := 399, descriptorIndex := 155, attributes := #[] }, { accessFlags := 25, nameIndex := 396, descriptorIndex := 155, attributes := #[] }, { accessFlags := 10, nameIndex := 525, descriptorIndex := 526, attributes := #[] }, { accessFlags := 26, nameIndex := 674, descriptorIndex := 12, attributes := #[] }, { accessFlags := 26, nameIndex := 677, descriptorIndex := 12, attributes := #[] }, { accessFlags := 10, nameIndex := 11, descriptorIndex := 12, attributes := #[] }, { accessFlags := 74, nameIndex := 175, descriptorIndex := 176, attributes := #[] }, { accessFlags := 10, nameIndex := 491, descriptorIndex := 222, attributes := #[] }, { accessFlags := 74, nameIndex := 29, descriptorIndex := 30, attributes := #[] }, { accessFlags := 74, nameIndex := 154, descriptorIndex := 155, attributes := #[] }, { accessFlags := 10, nameIndex := 217, descriptorIndex := 218, attributes := #[] }, { accessFlags := 10, nameIndex := 221, descriptorIndex := 222, attributes := #[] }, { accessFlags := 8, nameIndex := 562, descriptorIndex := 563, attributes := #[] }])
  fields := #[{ name := "in", type := (.object "java/io/InputStream"), accessFlags := 25, slot := 0, constantValue := 0 }, { name := "out", type := (.object "java/io/PrintStream"), accessFlags := 25, slot := 1, constantValue := 0 }, { name := "err", type := (.object "java/io/PrintStream"), accessFlags := 25, slot := 2, constantValue := 0 }, { name := "initialIn", type := (.object "java/io/InputStream"), accessFlags := 10, slot := 3, constantValue := 0 }, { name := "NEVER", type := .int, accessFlags := 26, slot := 4, constantValue := 0 }, { name := "MAYBE", type := .int, accessFlags := 26, slot := 5, constantValue := 0 }, { name := "allowSecurityManager", type := .int, accessFlags := 10, slot := 6, constantValue := 0 }, { name := "security", type := (.object "java/lang/SecurityManager"), accessFlags := 74, slot := 7, constantValue := 0 }, { name := "notSupportedJnuEncoding", type := (.object "java/lang/String"), accessFlags := 10, slot := 8, constantValue := 0 }, { name := "cons", type := (.object "java/io/Console"), accessFlags := 74, slot := 9, constantValue := 0 }, { name := "initialErrStream", type := (.object "java/io/PrintStream"), accessFlags := 74, slot := 10, constantValue := 0 }, { name := "props", type := (.object "java/util/Properties"), accessFlags := 10, slot := 11, constantValue := 0 }, { name := "lineSeparator", type := (.object "java/lang/String"), accessFlags := 10, slot := 12, constantValue := 0 }, { name := "bootLayer", type := (.object "java/lang/ModuleLayer"), accessFlags := 8, slot := 13, constantValue := 0 }]
  methods := #[k14m0, k14m1]
  instanceTypes := #[]
  staticTypes := #[(.object "java/io/InputStream"), (.object "java/io/PrintStream"), (.object "java/io/PrintStream"), (.object "java/io/InputStream"), .int, .int, .int, (.object "java/lang/SecurityManager"), (.object "java/lang/String"), (.object "java/io/Console"), (.object "java/io/PrintStream"), (.object "java/util/Properties"), (.object "java/lang/String"), (.object "java/lang/ModuleLayer")]
  resolved := Array.replicate 834 none
  statics := none }

def pool15 : Array CpInfo := pool [(2, .class_ 4), (1, u "java/lang/Object"), (0, u "<init>"), (0, u "()V"), (1, .class_ 10), (1, u "java/lang/Number"), (2, .class_ 14), (0, u "java/io/Serializable"), (0, u "serialVersionUID"), (0, u "J")] 20

def k15m0 : Method := { name := "<init>", desc := "()V", sig := { parameters := [], returnType := none }, accessFlags := 1, code := none }
/-- java/lang/Number -/
def k15 : Class := { plain "java/lang/Number" (some 0) with
  accessFlags := 1057
  interfaces := #[2]
  cf := some (fileOf pool15 8 #[] #[{ accessFlags := 1, nameIndex := 5, descriptorIndex := 6, attributes := #[] }] 1057 2 #[13] #[{ accessFlags := 26, nameIndex := 15, descriptorIndex := 16, attributes := #[] }])
  fields := #[{ name := "serialVersionUID", type := .long, accessFlags := 26, slot := 0, constantValue := 0 }]
  methods := #[k15m0]
  instanceTypes := #[]
  staticTypes := #[.long]
  resolved := Array.replicate 37 none
  statics := none }

def pool16 : Array CpInfo := pool [(1, .class_ 2), (0, u "java/lang/Integer"), (16, u "digits"), (0, u "[C"), (33, u "(I)I"), (19, u "stringSize"), (2, u "getChars"), (0, u "(II[B)I"), (4, .fieldref 1 84), (0, .nameAndType 85 86), (0, u "DigitOnes"), (0, u "[B"), (0, .fieldref 1 88), (0, .nameAndType 89 86), (0, u "DigitTens"), (99, .class_ 190), (0, u "java/lang/Integer$IntegerCache"), (3, u "I"), (8, .class_ 204), (0, u "java/lang/Number"), (2, u "value"), (94, u "TYPE"), (0, u "Ljava/lang/Class;"), (0, .class_ 305), (0, u "java/lang/Comparable"), (0, .class_ 307), (0, u "java/lang/constant/Constable"), (0, .class_ 309), (0, u "java/lang/constant/ConstantDesc"), (0, u "MIN_VALUE"), (1, u "MAX_VALUE"), (3, u "SIZE"), (1, u "BYTES"), (1, u "serialVersionUID"), (0, u "J")] 131

def k16c0 : Code := { maxStack := 4, maxLocals := 7, code := jdk_33_method_12_code, exceptionTable := #[], attributes := #[] }
def k16m0 : Method := { name := "getChars", desc := "(II[B)I", sig := { parameters := [.int, .int, (.array .byte)], returnType := some .int }, accessFlags := 8, code := some k16c0 }
def k16c1 : Code := { maxStack := 2, maxLocals := 4, code := jdk_33_method_13_code, exceptionTable := #[], attributes := #[] }
def k16m1 : Method := { name := "stringSize", desc := "(I)I", sig := { parameters := [.int], returnType := some .int }, accessFlags := 8, code := some k16c1 }
/-- java/lang/Integer -/
def k16 : Class := { plain "java/lang/Integer" (some 15) with
  accessFlags := 49
  interfaces := #[3, 5, 6]
  cf := some (fileOf pool16 1 #[.nestMembers #[189]] #[{ accessFlags := 8, nameIndex := 77, descriptorIndex := 78, attributes := #[] }, { accessFlags := 8, nameIndex := 74, descriptorIndex := 54, attributes := #[] }] 49 203 #[304, 306, 308] #[{ accessFlags := 25, nameIndex := 310, descriptorIndex := 194, attributes := #[] }, { accessFlags := 25, nameIndex := 312, descriptorIndex := 194, attributes := #[] }, { accessFlags := 25, nameIndex := 302, descriptorIndex := 303, attributes := #[] }, { accessFlags := 24, nameIndex := 19, descriptorIndex := 20, attributes := #[] }, { accessFlags := 24, nameIndex := 89, descriptorIndex := 86, attributes := #[] }, { accessFlags := 24, nameIndex := 85, descriptorIndex := 86, attributes := #[] }, { accessFlags := 18, nameIndex := 207, descriptorIndex := 194, attributes := #[] }, { accessFlags := 25, nameIndex := 316, descriptorIndex := 194, attributes := #[] }, { accessFlags := 25, nameIndex := 318, descriptorIndex := 194, attributes := #[] }, { accessFlags := 26, nameIndex := 320, descriptorIndex := 321, attributes := #[] }])
  fields := #[{ name := "MIN_VALUE", type := .int, accessFlags := 25, slot := 0, constantValue := 0 }, { name := "MAX_VALUE", type := .int, accessFlags := 25, slot := 1, constantValue := 0 }, { name := "TYPE", type := (.object "java/lang/Class"), accessFlags := 25, slot := 2, constantValue := 0 }, { name := "digits", type := (.array .char), accessFlags := 24, slot := 3, constantValue := 0 }, { name := "DigitTens", type := (.array .byte), accessFlags := 24, slot := 4, constantValue := 0 }, { name := "DigitOnes", type := (.array .byte), accessFlags := 24, slot := 5, constantValue := 0 }, { name := "value", type := .int, accessFlags := 18, slot := 0, constantValue := 0 }, { name := "SIZE", type := .int, accessFlags := 25, slot := 6, constantValue := 0 }, { name := "BYTES", type := .int, accessFlags := 25, slot := 7, constantValue := 0 }, { name := "serialVersionUID", type := .long, accessFlags := 26, slot := 8, constantValue := 0 }]
  methods := #[k16m0, k16m1]
  instanceTypes := #[.int]
  staticTypes := #[.int, .int, (.object "java/lang/Class"), (.array .char), (.array .byte), (.array .byte), .int, .int, .long]
  resolved := Array.replicate 453 none
  statics := some 1 }

def pool17 : Array CpInfo := pool [(2, .class_ 4), (1, u "java/lang/Object"), (0, u "<init>"), (0, u "()V"), (7, .class_ 16), (1, u "java/util/Arrays"), (57, .class_ 76), (1, u "java/util/Arrays$NaturalOrder"), (32, u "()Ljava/lang/Object;"), (3, .class_ 115), (1, u "java/util/Arrays$LegacyMergeSort"), (1, u "Z"), (10, .nameAndType 129 109), (0, u "clone"), (9, u "copyOfRange"), (10, .methodref 151 152), (0, .class_ 153), (0, .nameAndType 154 155), (0, u "java/lang/System"), (0, u "arraycopy"), (0, u "(Ljava/lang/Object;ILjava/lang/Object;II)V"), (146, u "copyOf"), (1, .methodref 305 306), (0, .class_ 307), (0, .nameAndType 308 309), (0, u "java/lang/Math"), (0, u "min"), (0, u "(II)I"), (0, .methodref 311 128), (0, .class_ 312), (0, u "[B"), (26, .methodref 14 340), (0, .nameAndType 341 342), (0, u "copyOfRangeByte"), (0, u "([BII)[B"), (0, .methodref 14 344), (0, .nameAndType 345 346), (0, u "checkLength"), (0, u "(II)V"), (28, .class_ 376), (0, u "java/util/Arrays$ArrayList"), (68, u "$assertionsDisabled"), (269, u "MIN_ARRAY_SORT_GRAN"), (0, u "I"), (2, u "INSERTIONSORT_THRESHOLD"), (149, u "([BI)[B"), (105, .class_ 976), (0, u "java/util/Arrays$ArrayItr")] 52

def k17m0 : Method := { name := "<init>", desc := "()V", sig := { parameters := [], returnType := none }, accessFlags := 2, code := none }
def k17c1 : Code := { maxStack := 6, maxLocals := 3, code := jdk_65_method_121_code, exceptionTable := #[], attributes := #[] }
def k17m1 : Method := { name := "copyOf", desc := "([BI)[B", sig := { parameters := [(.array .byte), .int], returnType := some (.array .byte) }, accessFlags := 9, code := some k17c1 }
def k17c2 : Code := { maxStack := 4, maxLocals := 2, code := jdk_65_method_131_code, exceptionTable := #[], attributes := #[] }
def k17m2 : Method := { name := "checkLength", desc := "(II)V", sig := { parameters := [.int, .int], returnType := none }, accessFlags := 10, code := some k17c2 }
def k17c3 : Code := { maxStack := 3, maxLocals := 3, code := jdk_65_method_132_code, exceptionTable := #[], attributes := #[] }
def k17m3 : Method := { name := "copyOfRange", desc := "([BII)[B", sig := { parameters := [(.array .byte), .int, .int], returnType := some (.array .byte) }, accessFlags := 9, code := some k17c3 }
def k17c4 : Code := { maxStack := 6, maxLocals := 5, code := jdk_65_method_133_code, exceptionTable := #[], attributes := #[] }
def k17m4 : Method := { name := "copyOfRangeByte", desc := "([BII)[B", sig := { parameters := [(.array .byte), .int, .int], returnType := some (.array .byte) }, accessFlags := 10, code := some k17c4 }
/-- java/util/Arrays -/
def k17 : Class := { plain "java/util/Arrays" (some 0) with
  accessFlags := 49
  interfaces := #[]
  cf := some (fileOf pool17 14 #[.nestMembers #[975, 375, 113, 74]] #[{ accessFlags := 2, nameIndex := 5, descriptorIndex := 6, attributes := #[] }, { accessFlags := 9, nameIndex := 302, descriptorIndex := 869, attributes := #[] }, { accessFlags := 10, nameIndex := 345, descriptorIndex := 346, attributes := #[] }, { accessFlags := 9, nameIndex := 139, descriptorIndex := 342, attributes := #[] }, { accessFlags := 10, nameIndex := 341, descriptorIndex := 342, attributes := #[] }] 49 2 #[] #[{ accessFlags := 26, nameIndex := 715, descriptorIndex := 716, attributes := #[] }, { accessFlags := 26, nameIndex := 719, descriptorIndex := 716, attributes := #[] }, { accessFlags := 4120, nameIndex := 445, descriptorIndex := 117, attributes := #[] }])
  fields := #[{ name := "MIN_ARRAY_SORT_GRAN", type := .int, accessFlags := 26, slot := 0, constantValue := 0 }, { name := "INSERTIONSORT_THRESHOLD", type := .int, accessFlags := 26, slot := 1, constantValue := 0 }, { name := "$assertionsDisabled", type := .boolean, accessFlags := 4120, slot := 2, constantValue := 0 }]
  methods := #[k17m0, k17m1, k17m2, k17m3, k17m4]
  instanceTypes := #[]
  staticTypes := #[.int, .int, .boolean]
  resolved := Array.replicate 1029 none
  statics := none }

def pool18 : Array CpInfo := pool [(1, .class_ 2), (0, u "java/lang/Math"), (1, .class_ 6), (1, u "java/lang/Object"), (0, u "<init>"), (0, u "()V"), (89, .class_ 100), (1, u "java/lang/Math$RandomNumberGeneratorHolder"), (71, u "negativeZeroFloatBits"), (0, u "J"), (2, u "negativeZeroDoubleBits"), (21, u "max"), (2, u "min"), (43, u "$assertionsDisabled"), (0, u "Z"), (88, u "(II)I"), (2, u "twoToTheDoubleScaleDown"), (0, u "D"), (4, u "twoToTheDoubleScaleUp"), (9, u "E"), (3, u "PI"), (2, u "TAU"), (2, u "DEGREES_TO_RADIANS"), (0, u "RADIANS_TO_DEGREES")] 94

def k18m0 : Method := { name := "<init>", desc := "()V", sig := { parameters := [], returnType := none }, accessFlags := 2, code := none }
def k18c1 : Code := { maxStack := 2, maxLocals := 2, code := jdk_29_method_65_code, exceptionTable := #[], attributes := #[] }
def k18m1 : Method := { name := "max", desc := "(II)I", sig := { parameters := [.int, .int], returnType := some .int }, accessFlags := 9, code := some k18c1 }
def k18c2 : Code := { maxStack := 2, maxLocals := 2, code := jdk_29_method_69_code, exceptionTable := #[], attributes := #[] }
def k18m2 : Method := { name := "min", desc := "(II)I", sig := { parameters := [.int, .int], returnType := some .int }, accessFlags := 9, code := some k18c2 }
/-- java/lang/Math -/
def k18 : Class := { plain "java/lang/Math" (some 0) with
  accessFlags := 49
  interfaces := #[]
  cf := some (fileOf pool18 1 #[.nestMembers #[98]] #[{ accessFlags := 2, nameIndex := 7, descriptorIndex := 8, attributes := #[] }, { accessFlags := 9, nameIndex := 198, descriptorIndex := 335, attributes := #[] }, { accessFlags := 9, nameIndex := 201, descriptorIndex := 335, attributes := #[] }] 49 4 #[] #[{ accessFlags := 25, nameIndex := 354, descriptorIndex := 339, attributes := #[] }, { accessFlags := 25, nameIndex := 358, descriptorIndex := 339, attributes := #[] }, { accessFlags := 25, nameIndex := 361, descriptorIndex := 339, attributes := #[] }, { accessFlags := 26, nameIndex := 364, descriptorIndex := 339, attributes := #[] }, { accessFlags := 26, nameIndex := 365, descriptorIndex := 339, attributes := #[] }, { accessFlags := 26, nameIndex := 172, descriptorIndex := 173, attributes := #[] }, { accessFlags := 26, nameIndex := 176, descriptorIndex := 173, attributes := #[] }, { accessFlags := 8, nameIndex := 344, descriptorIndex := 339, attributes := #[] }, { accessFlags := 8, nameIndex := 338, descriptorIndex := 339, attributes := #[] }, { accessFlags := 4120, nameIndex := 245, descriptorIndex := 246, attributes := #[] }])
  fields := #[{ name := "E", type := .double, accessFlags := 25, slot := 0, constantValue := 0 }, { name := "PI", type := .double, accessFlags := 25, slot := 1, constantValue := 0 }, { name := "TAU", type := .double, accessFlags := 25, slot := 2, constantValue := 0 }, { name := "DEGREES_TO_RADIANS", type := .double, accessFlags := 26, slot := 3, constantValue := 0 }, { name := "RADIANS_TO_DEGREES", type := .double, accessFlags := 26, slot := 4, constantValue := 0 }, { name := "negativeZeroFloatBits", type := .long, accessFlags := 26, slot := 5, constantValue := 0 }, { name := "negativeZeroDoubleBits", type := .long, accessFlags := 26, slot := 6, constantValue := 0 }, { name := "twoToTheDoubleScaleUp", type := .double, accessFlags := 8, slot := 7, constantValue := 0 }, { name := "twoToTheDoubleScaleDown", type := .double, accessFlags := 8, slot := 8, constantValue := 0 }, { name := "$assertionsDisabled", type := .boolean, accessFlags := 4120, slot := 9, constantValue := 0 }]
  methods := #[k18m0, k18m1, k18m2]
  instanceTypes := #[]
  staticTypes := #[.double, .double, .double, .double, .double, .long, .long, .double, .double, .boolean]
  resolved := Array.replicate 460 none
  statics := none }

def pool19 : Array CpInfo := pool [(1, .class_ 2), (0, u "java/lang/String"), (1, .class_ 6), (1, u "java/lang/Object"), (0, u "<init>"), (0, u "()V"), (0, .methodref 1 10), (0, .nameAndType 11 12), (0, u "checkIndex"), (0, u "(II)V"), (1, .class_ 16), (1, u "java/lang/StringLatin1"), (36, u "([BI)C"), (67, u "$assertionsDisabled"), (0, u "Z"), (98, .class_ 223), (1, u "java/lang/StringLatin1$LinesSpliterator"), (28, u "charAt"), (137, .class_ 391), (0, u "java/lang/StringLatin1$CharsSpliterator")] 3

def k19m0 : Method := { name := "<init>", desc := "()V", sig := { parameters := [], returnType := none }, accessFlags := 0, code := none }
def k19c1 : Code := { maxStack := 2, maxLocals := 2, code := jdk_43_method_2_code, exceptionTable := #[], attributes := #[] }
def k19m1 : Method := { name := "charAt", desc := "([BI)C", sig := { parameters := [(.array .byte), .int], returnType := some .char }, accessFlags := 9, code := some k19c1 }
/-- java/lang/StringLatin1 -/
def k19 : Class := { plain "java/lang/StringLatin1" (some 0) with
  accessFlags := 48
  interfaces := #[]
  cf := some (fileOf pool19 14 #[.nestMembers #[390, 221]] #[{ accessFlags := 0, nameIndex := 7, descriptorIndex := 8, attributes := #[] }, { accessFlags := 9, nameIndex := 252, descriptorIndex := 53, attributes := #[] }] 48 4 #[] #[{ accessFlags := 4120, nameIndex := 121, descriptorIndex := 122, attributes := #[] }])
  fields := #[{ name := "$assertionsDisabled", type := .boolean, accessFlags := 4120, slot := 0, constantValue := 0 }]
  methods := #[k19m0, k19m1]
  instanceTypes := #[]
  staticTypes := #[.boolean]
  resolved := Array.replicate 395 none
  statics := none }

def pool20 : Array CpInfo := pool [(2, .class_ 4), (1, u "java/lang/Object"), (0, u "<init>"), (0, u "()V"), (17, .class_ 26), (1, u "jdk/internal/util/Preconditions"), (6, u "checkIndex"), (21, .class_ 56), (0, u "jdk/internal/util/Preconditions$4"), (57, .class_ 115), (0, u "jdk/internal/util/Preconditions$1"), (7, u "SIOOBE_FORMATTER"), (0, u "Ljava/util/function/BiFunction;"), (0, .class_ 126), (0, u "jdk/internal/util/Preconditions$2"), (3, u "AIOOBE_FORMATTER"), (0, .class_ 132), (0, u "jdk/internal/util/Preconditions$3"), (3, u "IOOBE_FORMATTER"), (41, u "(IILjava/util/function/BiFunction;)I")] 15

def k20m0 : Method := { name := "<init>", desc := "()V", sig := { parameters := [], returnType := none }, accessFlags := 1, code := none }
def k20c1 : Code := { maxStack := 3, maxLocals := 3, code := jdk_41_method_11_code, exceptionTable := #[], attributes := #[] }
def k20m1 : Method := { name := "checkIndex", desc := "(IILjava/util/function/BiFunction;)I", sig := { parameters := [.int, .int, (.object "java/util/function/BiFunction")], returnType := some .int }, accessFlags := 9, code := some k20c1 }
/-- jdk/internal/util/Preconditions -/
def k20 : Class := { plain "jdk/internal/util/Preconditions" (some 0) with
  accessFlags := 33
  interfaces := #[]
  cf := some (fileOf pool20 24 #[.nestMembers #[55, 131, 125, 114]] #[{ accessFlags := 1, nameIndex := 5, descriptorIndex := 6, attributes := #[] }, { accessFlags := 9, nameIndex := 33, descriptorIndex := 178, attributes := #[] }] 33 2 #[] #[{ accessFlags := 25, nameIndex := 123, descriptorIndex := 124, attributes := #[] }, { accessFlags := 25, nameIndex := 130, descriptorIndex := 124, attributes := #[] }, { accessFlags := 25, nameIndex := 136, descriptorIndex := 124, attributes := #[] }])
  fields := #[{ name := "SIOOBE_FORMATTER", type := (.object "java/util/function/BiFunction"), accessFlags := 25, slot := 0, constantValue := 0 }, { name := "AIOOBE_FORMATTER", type := (.object "java/util/function/BiFunction"), accessFlags := 25, slot := 1, constantValue := 0 }, { name := "IOOBE_FORMATTER", type := (.object "java/util/function/BiFunction"), accessFlags := 25, slot := 2, constantValue := 0 }]
  methods := #[k20m0, k20m1]
  instanceTypes := #[]
  staticTypes := #[(.object "java/util/function/BiFunction"), (.object "java/util/function/BiFunction"), (.object "java/util/function/BiFunction")]
  resolved := Array.replicate 194 none
  statics := some 2 }

def pool21 : Array CpInfo := pool [(9, u "<init>"), (6, .class_ 18), (1, u "java/lang/Object"), (0, u "()V"), (1, .class_ 23), (1, u "jdk/internal/util/ArraysSupport"), (0, u "LOG2_ARRAY_LONG_INDEX_SCALE"), (0, u "I"), (2, u "U"), (0, u "Ljdk/internal/misc/Unsafe;"), (8, u "BIG_ENDIAN"), (0, u "Z"), (8, u "LOG2_BYTE_BIT_SIZE"), (4, u "LOG2_ARRAY_INT_INDEX_SCALE"), (54, u "JLA"), (0, u "Ljdk/internal/access/JavaLangAccess;"), (11, u "LOG2_ARRAY_BOOLEAN_INDEX_SCALE"), (9, u "LOG2_ARRAY_BYTE_INDEX_SCALE"), (5, u "LOG2_ARRAY_CHAR_INDEX_SCALE"), (5, u "LOG2_ARRAY_SHORT_INDEX_SCALE"), (18, u "LOG2_ARRAY_FLOAT_INDEX_SCALE"), (24, u "LOG2_ARRAY_DOUBLE_INDEX_SCALE"), (6, .methodref 195 196), (0, .class_ 197), (0, .nameAndType 198 199), (0, u "java/lang/Math"), (0, u "max"), (0, u "(II)I"), (0, .integer 2147483639), (76, u "T_BOOLEAN"), (2, u "T_CHAR"), (1, u "T_FLOAT"), (1, u "T_DOUBLE"), (1, u "T_BYTE"), (1, u "T_SHORT"), (1, u "T_INT"), (1, u "T_LONG"), (1, u "SOFT_MAX_ARRAY_LENGTH"), (56, u "newLength"), (0, u "(III)I")] 25

def k21m0 : Method := { name := "<init>", desc := "()V", sig := { parameters := [], returnType := none }, accessFlags := 2, code := none }
def k21c1 : Code := { maxStack := 3, maxLocals := 4, code := jdk_48_method_27_code, exceptionTable := #[], attributes := #[] }
def k21m1 : Method := { name := "newLength", desc := "(III)I", sig := { parameters := [.int, .int, .int], returnType := some .int }, accessFlags := 9, code := some k21c1 }
/-- jdk/internal/util/ArraysSupport -/
def k21 : Class := { plain "jdk/internal/util/ArraysSupport" (some 0) with
  accessFlags := 33
  interfaces := #[]
  cf := some (fileOf pool21 21 #[] #[{ accessFlags := 2, nameIndex := 9, descriptorIndex := 19, attributes := #[] }, { accessFlags := 9, nameIndex := 351, descriptorIndex := 352, attributes := #[] }] 33 16 #[] #[{ accessFlags := 24, nameIndex := 28, descriptorIndex := 29, attributes := #[] }, { accessFlags := 26, nameIndex := 38, descriptorIndex := 39, attributes := #[] }, { accessFlags := 25, nameIndex := 121, descriptorIndex := 25, attributes := #[] }, { accessFlags := 25, nameIndex := 131, descriptorIndex := 25, attributes := #[] }, { accessFlags := 25, nameIndex := 137, descriptorIndex := 25, attributes := #[] }, { accessFlags := 25, nameIndex := 143, descriptorIndex := 25, attributes := #[] }, { accessFlags := 25, nameIndex := 53, descriptorIndex := 25, attributes := #[] }, { accessFlags := 25, nameIndex := 24, descriptorIndex := 25, attributes := #[] }, { accessFlags := 25, nameIndex := 162, descriptorIndex := 25, attributes := #[] }, { accessFlags := 25, nameIndex := 187, descriptorIndex := 25, attributes := #[] }, { accessFlags := 26, nameIndex := 48, descriptorIndex := 25, attributes := #[] }, { accessFlags := 25, nameIndex := 277, descriptorIndex := 25, attributes := #[] }, { accessFlags := 25, nameIndex := 280, descriptorIndex := 25, attributes := #[] }, { accessFlags := 25, nameIndex := 282, descriptorIndex := 25, attributes := #[] }, { accessFlags := 25, nameIndex := 284, descriptorIndex := 25, attributes := #[] }, { accessFlags := 25, nameIndex := 286, descriptorIndex := 25, attributes := #[] }, { accessFlags := 25, nameIndex := 288, descriptorIndex := 25, attributes := #[] }, { accessFlags := 25, nameIndex := 290, descriptorIndex := 25, attributes := #[] }, { accessFlags := 25, nameIndex := 292, descriptorIndex := 25, attributes := #[] }, { accessFlags := 26, nameIndex := 108, descriptorIndex := 109, attributes := #[] }, { accessFlags := 25, nameIndex := 294, descriptorIndex := 25, attributes := #[] }])
  fields := #[{ name := "U", type := (.object "jdk/internal/misc/Unsafe"), accessFlags := 24, slot := 0, constantValue := 0 }, { name := "BIG_ENDIAN", type := .boolean, accessFlags := 26, slot := 1, constantValue := 0 }, { name := "LOG2_ARRAY_BOOLEAN_INDEX_SCALE", type := .int, accessFlags := 25, slot := 2, constantValue := 0 }, { name := "LOG2_ARRAY_BYTE_INDEX_SCALE", type := .int, accessFlags := 25, slot := 3, constantValue := 0 }, { name := "LOG2_ARRAY_CHAR_INDEX_SCALE", type := .int, accessFlags := 25, slot := 4, constantValue := 0 }, { name := "LOG2_ARRAY_SHORT_INDEX_SCALE", type := .int, accessFlags := 25, slot := 5, constantValue := 0 }, { name := "LOG2_ARRAY_INT_INDEX_SCALE", type := .int, accessFlags := 25, slot := 6, constantValue := 0 }, { name := "LOG2_ARRAY_LONG_INDEX_SCALE", type := .int, accessFlags := 25, slot := 7, constantValue := 0 }, { name := "LOG2_ARRAY_FLOAT_INDEX_SCALE", type := .int, accessFlags := 25, slot := 8, constantValue := 0 }, { name := "LOG2_ARRAY_DOUBLE_INDEX_SCALE", type := .int, accessFlags := 25, slot := 9, constantValue := 0 }, { name := "LOG2_BYTE_BIT_SIZE", type := .int, accessFlags := 26, slot := 10, constantValue := 0 }, { name := "T_BOOLEAN", type := .int, accessFlags := 25, slot := 11, constantValue := 0 }, { name := "T_CHAR", type := .int, accessFlags := 25, slot := 12, constantValue := 0 }, { name := "T_FLOAT", type := .int, accessFlags := 25, slot := 13, constantValue := 0 }, { name := "T_DOUBLE", type := .int, accessFlags := 25, slot := 14, constantValue := 0 }, { name := "T_BYTE", type := .int, accessFlags := 25, slot := 15, constantValue := 0 }, { name := "T_SHORT", type := .int, accessFlags := 25, slot := 16, constantValue := 0 }, { name := "T_INT", type := .int, accessFlags := 25, slot := 17, constantValue := 0 }, { name := "T_LONG", type := .int, accessFlags := 25, slot := 18, constantValue := 0 }, { name := "JLA", type := (.object "jdk/internal/access/JavaLangAccess"), accessFlags := 26, slot := 19, constantValue := 0 }, { name := "SOFT_MAX_ARRAY_LENGTH", type := .int, accessFlags := 25, slot := 20, constantValue := 0 }]
  methods := #[k21m0, k21m1]
  instanceTypes := #[]
  staticTypes := #[(.object "jdk/internal/misc/Unsafe"), .boolean, .int, .int, .int, .int, .int, .int, .int, .int, .int, .int, .int, .int, .int, .int, .int, .int, .int, (.object "jdk/internal/access/JavaLangAccess"), .int]
  resolved := Array.replicate 378 none
  statics := none }

def pool22 : Array CpInfo := pool [(1, .class_ 2), (0, u "java/lang/Cloneable"), (0, .class_ 4), (0, u "java/lang/Object")] 2

/-- java/lang/Cloneable -/
def k22 : Class := { plain "java/lang/Cloneable" (some 0) with
  accessFlags := 1537
  interfaces := #[]
  cf := some (fileOf pool22 1 #[] #[] 1537 3 #[] #[])
  fields := #[]
  methods := #[]
  instanceTypes := #[]
  staticTypes := #[]
  resolved := Array.replicate 7 none
  statics := none }

/-- the primitive byte -/
def k23 : Class := { plain "byte" none with kind := .primitive 'B', accessFlags := 0x411 }
/-- [B -/
def k24 : Class := { plain "[B" (some 0) with kind := .array 23 .byte, interfaces := #[22, 2], accessFlags := 1041 }

/-- the primitive char -/
def k25 : Class := { plain "char" none with kind := .primitive 'C', accessFlags := 0x411 }
/-- [C -/
def k26 : Class := { plain "[C" (some 0) with kind := .array 25 .char, interfaces := #[22, 2], accessFlags := 1041 }

/-- the primitive int -/
def k27 : Class := { plain "int" none with kind := .primitive 'I', accessFlags := 0x411 }
/-- [I -/
def k28 : Class := { plain "[I" (some 0) with kind := .array 27 .int, interfaces := #[22, 2], accessFlags := 1041 }

def heap : Heap := #[{ cls := 7, slots := #[.long 0, .int 1, .null, .int 0, .null, .int 0, .int 0], vm := .statics 7 },
  { cls := 16, slots := #[.int 0, .int 0, .null, .null, .ref 4, .ref 3, .int 0, .int 0, .long 0], vm := .statics 16 },
  { cls := 20, slots := #[.null, .null, .null], vm := .statics 20 },
  { cls := 24, slots := #[.int 48, .int 49, .int 50, .int 51, .int 52, .int 53, .int 54, .int 55, .int 56, .int 57, .int 48, .int 49, .int 50, .int 51, .int 52, .int 53, .int 54, .int 55, .int 56, .int 57, .int 48, .int 49, .int 50, .int 51, .int 52, .int 53, .int 54, .int 55, .int 56, .int 57, .int 48, .int 49, .int 50, .int 51, .int 52, .int 53, .int 54, .int 55, .int 56, .int 57, .int 48, .int 49, .int 50, .int 51, .int 52, .int 53, .int 54, .int 55, .int 56, .int 57, .int 48, .int 49, .int 50, .int 51, .int 52, .int 53, .int 54, .int 55, .int 56, .int 57, .int 48, .int 49, .int 50, .int 51, .int 52, .int 53, .int 54, .int 55, .int 56, .int 57, .int 48, .int 49, .int 50, .int 51, .int 52, .int 53, .int 54, .int 55, .int 56, .int 57, .int 48, .int 49, .int 50, .int 51, .int 52, .int 53, .int 54, .int 55, .int 56, .int 57, .int 48, .int 49, .int 50, .int 51, .int 52, .int 53, .int 54, .int 55, .int 56, .int 57], vm := .none },
  { cls := 24, slots := #[.int 48, .int 48, .int 48, .int 48, .int 48, .int 48, .int 48, .int 48, .int 48, .int 48, .int 49, .int 49, .int 49, .int 49, .int 49, .int 49, .int 49, .int 49, .int 49, .int 49, .int 50, .int 50, .int 50, .int 50, .int 50, .int 50, .int 50, .int 50, .int 50, .int 50, .int 51, .int 51, .int 51, .int 51, .int 51, .int 51, .int 51, .int 51, .int 51, .int 51, .int 52, .int 52, .int 52, .int 52, .int 52, .int 52, .int 52, .int 52, .int 52, .int 52, .int 53, .int 53, .int 53, .int 53, .int 53, .int 53, .int 53, .int 53, .int 53, .int 53, .int 54, .int 54, .int 54, .int 54, .int 54, .int 54, .int 54, .int 54, .int 54, .int 54, .int 55, .int 55, .int 55, .int 55, .int 55, .int 55, .int 55, .int 55, .int 55, .int 55, .int 56, .int 56, .int 56, .int 56, .int 56, .int 56, .int 56, .int 56, .int 56, .int 56, .int 57, .int 57, .int 57, .int 57, .int 57, .int 57, .int 57, .int 57, .int 57, .int 57], vm := .none }]
def classes : Array Class := #[k0, k1, k2, k3, k4, k5, k6, k7, k8, k9, k10, k11, k12, k13, k14, k15, k16, k17, k18, k19, k20, k21, k22, k23, k24, k25, k26, k27, k28]
def interned : List (Array UInt16 × Addr) := []
def slotsUsed : Nat := 219
def theMethod : MethodId := ⟨1, 1⟩
def args0 : Array Value := #[.int 1, .int 2, .int 3, .int 4]
def aboutOver (below : List Frame) : State where
  vm := { classes := classes, interned := interned.toArray }
  heap := heap
  slotsUsed := slotsUsed
  threads := #[{ frames := .invoking theMethod args0 :: below }]
def below0 : List Frame := [.native { method := ⟨0, 0⟩, args := #[] }]
def about1 : State := aboutOver below0
def p0 : Program := .bare "" "" ""
def e0 : Env := launch0.env 0 0 0
theorem w_frames : about1.frames = Frame.invoking theMethod args0 :: below0 := rfl
set_option maxRecDepth 65536 in
theorem w_args : argsFit about1.vm theMethod args0 = true := by decide +kernel
set_option maxRecDepth 65536 in
theorem w_heap : heapFits about1 = true := by decide +kernel
set_option maxRecDepth 65536 in
theorem w_runnable : about1.curStatus? = some .runnable := by decide +kernel
set_option maxRecDepth 65536 in
theorem w_alone : about1.alone = true := by decide +kernel
set_option maxRecDepth 65536 in
theorem w_named : about1.methodNamed? x = some theMethod := by decide +kernel
set_option maxRecDepth 65536 in
theorem w_hears : about1.hears theMethod below0 = true := by decide +kernel
set_option maxRecDepth 65536 in
theorem w_ripe : about1.ripe theMethod args0 below0 = true := by decide +kernel
theorem w_running : about1.status = .running := rfl
set_option maxRecDepth 65536 in
theorem w_room : about1.hasRoom e0.platform room_1 = true :=
  launch0.hasRoom_least _ room_1 (by decide +kernel) (by decide +kernel) (by decide +kernel) (by decide +kernel) (by decide +kernel) (by decide +kernel)
theorem allAtoms_all (ts : List Jvm.Cond) (a : Array Jvm.Value) (st : Jvm.State) : (allAtoms ts).before a st = ts.all (fun c => c.before a st) := by
  induction ts with
  | nil => rfl
  | cons c t ih =>
    show (Jvm.Cond.and c (allAtoms t)).before a st = _
    rw [Jvm.Cond.before_and, ih, List.all_cons]
def words1 : List Jvm.Cond := Jvm.Cond.code x code maxLocals ret :: tables_1
/-- a 'code' word, met by the world's own term for the bytes: nothing is compared byte by byte -/
theorem code_word {y : MethodName} {bytes : ByteArray} {mx : Nat} {rt : Option FieldType} {a : Array Value} {s : State} {m : MethodId} {meth : Method} {c : Code} (h1 : s.methodNamed? y = some m) (h2 : s.vm.method? m = some meth) (h3 : meth.code = some c) (h4 : c.code = bytes)
    (h5 : (c.maxLocals == mx && c.exceptionTable.isEmpty && decide (c.maxStack ≤ mostOperands) && decide (meth.sig.returnType = rt) && !meth.locks && decide (parseMethodDescriptor y.desc = some meth.sig)) = true) : (Jvm.Cond.code y bytes mx rt).before a s = true := by
  simp only [Bool.and_eq_true, beq_iff_eq, Bool.not_eq_true', decide_eq_true_eq] at h5
  obtain ⟨⟨⟨⟨⟨g1, g2⟩, g3⟩, g4⟩, g5⟩, g6⟩ := h5
  simp [Cond.before, Cond.holds, Cond.value, h1, h2, h3, h4, g1, g2, g3, g4, g5, g6]
def isCode : Jvm.Cond → Bool
  | .code _ _ _ _ => true
  | _ => false
theorem all_split {L : List Jvm.Cond} {P : Jvm.Cond → Bool} (h1 : L.all (fun c => isCode c || P c) = true) (h2 : ∀ c ∈ L.filter isCode, P c = true) : L.all P = true := by
  refine List.all_eq_true.mpr fun c hc => ?_
  have h := List.all_eq_true.mp h1 c hc
  rcases Bool.eq_false_or_eq_true (isCode c) with hi | hi
  · exact h2 c (List.mem_filter.mpr ⟨hc, hi⟩)
  · simpa [hi] using h
set_option maxRecDepth 65536 in
theorem w_c0 : (Jvm.Cond.code x code maxLocals ret).before args0 about1 = true := code_word (m := ⟨1, 1⟩) (meth := k1m1) (c := k1c1) (by decide +kernel) rfl rfl rfl (by decide +kernel)
set_option maxRecDepth 65536 in
theorem w_c1 : (Jvm.Cond.code ({ cls := "java/lang/String", name := "<init>", desc := "([C)V" } : Jvm.MethodName) jdk_42_method_3_code (2 : Nat) (Option.none : Option Jvm.ClassFile.FieldType)).before args0 about1 = true := code_word (m := ⟨7, 1⟩) (meth := k7m1) (c := k7c1) (by decide +kernel) rfl rfl rfl (by decide +kernel)
set_option maxRecDepth 65536 in
theorem w_c2 : (Jvm.Cond.code ({ cls := "java/lang/String", name := "<init>", desc := "([CIILjava/lang/Void;)V" } : Jvm.MethodName) jdk_42_method_149_code (6 : Nat) (Option.none : Option Jvm.ClassFile.FieldType)).before args0 about1 = true := code_word (m := ⟨7, 7⟩) (meth := k7m7) (c := k7c7) (by decide +kernel) rfl rfl rfl (by decide +kernel)
set_option maxRecDepth 65536 in
theorem w_c3 : (Jvm.Cond.code ({ cls := "java/lang/Object", name := "<init>", desc := "()V" } : Jvm.MethodName) object_method_1_code (1 : Nat) (Option.none : Option Jvm.ClassFile.FieldType)).before args0 about1 = true := code_word (m := ⟨0, 0⟩) (meth := k0m0) (c := k0c0) (by decide +kernel) rfl rfl rfl (by decide +kernel)
set_option maxRecDepth 65536 in
theorem w_c4 : (Jvm.Cond.code ({ cls := "java/lang/StringUTF16", name := "compress", desc := "([CII)[B" } : Jvm.MethodName) jdk_52_method_16_code (6 : Nat) (Option.some (Jvm.ClassFile.FieldType.array Jvm.ClassFile.FieldType.byte))).before args0 about1 = true := code_word (m := ⟨8, 2⟩) (meth := k8m2) (c := k8c2) (by decide +kernel) rfl rfl rfl (by decide +kernel)
set_option maxRecDepth 65536 in
theorem w_c5 : (Jvm.Cond.code ({ cls := "java/lang/StringUTF16", name := "compress", desc := "([CI[BII)I" } : Jvm.MethodName) jdk_52_method_21_code (7 : Nat) (Option.some Jvm.ClassFile.FieldType.int)).before args0 about1 = true := code_word (m := ⟨8, 3⟩) (meth := k8m3) (c := k8c3) (by decide +kernel) rfl rfl rfl (by decide +kernel)
set_option maxRecDepth 65536 in
theorem w_c6 : (Jvm.Cond.code ({ cls := "java/lang/StringUTF16", name := "coderFromArrayLen", desc := "([BI)B" } : Jvm.MethodName) jdk_52_method_15_code (2 : Nat) (Option.some Jvm.ClassFile.FieldType.byte)).before args0 about1 = true := code_word (m := ⟨8, 1⟩) (meth := k8m1) (c := k8c1) (by decide +kernel) rfl rfl rfl (by decide +kernel)
set_option maxRecDepth 65536 in
theorem w_c7 : (Jvm.Cond.code ({ cls := "com/example/tributary/tributary/Location", name := "<init>", desc := "(Ljava/lang/String;II)V" } : Jvm.MethodName) prog_10_method_1_code (4 : Nat) (Option.none : Option Jvm.ClassFile.FieldType)).before args0 about1 = true := code_word (m := ⟨10, 0⟩) (meth := k10m0) (c := k10c0) (by decide +kernel) rfl rfl rfl (by decide +kernel)
set_option maxRecDepth 65536 in
theorem w_c8 : (Jvm.Cond.code ({ cls := "java/lang/Record", name := "<init>", desc := "()V" } : Jvm.MethodName) jdk_30_method_1_code (1 : Nat) (Option.none : Option Jvm.ClassFile.FieldType)).before args0 about1 = true := code_word (m := ⟨9, 0⟩) (meth := k9m0) (c := k9c0) (by decide +kernel) rfl rfl rfl (by decide +kernel)
set_option maxRecDepth 65536 in
theorem w_c9 : (Jvm.Cond.code ({ cls := "com/example/tributary/tributary/Location", name := "toString", desc := "()Ljava/lang/String;" } : Jvm.MethodName) prog_10_method_3_code (1 : Nat) (Option.some (Jvm.ClassFile.FieldType.object "java/lang/String"))).before args0 about1 = true := code_word (m := ⟨10, 1⟩) (meth := k10m1) (c := k10c1) (by decide +kernel) rfl rfl rfl (by decide +kernel)
set_option maxRecDepth 65536 in
theorem w_c10 : (Jvm.Cond.code ({ cls := "java/lang/StringBuilder", name := "<init>", desc := "()V" } : Jvm.MethodName) jdk_67_method_1_code (1 : Nat) (Option.none : Option Jvm.ClassFile.FieldType)).before args0 about1 = true := code_word (m := ⟨13, 0⟩) (meth := k13m0) (c := k13c0) (by decide +kernel) rfl rfl rfl (by decide +kernel)
set_option maxRecDepth 65536 in
theorem w_c11 : (Jvm.Cond.code ({ cls := "java/lang/AbstractStringBuilder", name := "<init>", desc := "(I)V" } : Jvm.MethodName) jdk_68_method_2_code (2 : Nat) (Option.none : Option Jvm.ClassFile.FieldType)).before args0 about1 = true := code_word (m := ⟨12, 1⟩) (meth := k12m1) (c := k12c1) (by decide +kernel) rfl rfl rfl (by decide +kernel)
set_option maxRecDepth 65536 in
theorem w_c12 : (Jvm.Cond.code ({ cls := "java/lang/StringBuilder", name := "append", desc := "(Ljava/lang/String;)Ljava/lang/StringBuilder;" } : Jvm.MethodName) jdk_67_method_7_code (2 : Nat) (Option.some (Jvm.ClassFile.FieldType.object "java/lang/StringBuilder"))).before args0 about1 = true := code_word (m := ⟨13, 1⟩) (meth := k13m1) (c := k13c1) (by decide +kernel) rfl rfl rfl (by decide +kernel)
set_option maxRecDepth 65536 in
theorem w_c13 : (Jvm.Cond.code ({ cls := "java/lang/AbstractStringBuilder", name := "append", desc := "(Ljava/lang/String;)Ljava/lang/AbstractStringBuilder;" } : Jvm.MethodName) jdk_68_method_22_code (3 : Nat) (Option.some (Jvm.ClassFile.FieldType.object "java/lang/AbstractStringBuilder"))).before args0 about1 = true := code_word (m := ⟨12, 5⟩) (meth := k12m5) (c := k12c5) (by decide +kernel) rfl rfl rfl (by decide +kernel)
set_option maxRecDepth 65536 in
theorem w_c14 : (Jvm.Cond.code ({ cls := "java/lang/String", name := "length", desc := "()I" } : Jvm.MethodName) jdk_42_method_54_code (1 : Nat) (Option.some Jvm.ClassFile.FieldType.int)).before args0 about1 = true := code_word (m := ⟨7, 3⟩) (meth := k7m3) (c := k7c3) (by decide +kernel) rfl rfl rfl (by decide +kernel)
set_option maxRecDepth 65536 in
theorem w_c15 : (Jvm.Cond.code ({ cls := "java/lang/String", name := "coder", desc := "()B" } : Jvm.MethodName) jdk_42_method_152_code (1 : Nat) (Option.some Jvm.ClassFile.FieldType.byte)).before args0 about1 = true := code_word (m := ⟨7, 9⟩) (meth := k7m9) (c := k7c9) (by decide +kernel) rfl rfl rfl (by decide +kernel)
set_option maxRecDepth 65536 in
theorem w_c16 : (Jvm.Cond.code ({ cls := "java/lang/AbstractStringBuilder", name := "ensureCapacityInternal", desc := "(I)V" } : Jvm.MethodName) jdk_68_method_9_code (3 : Nat) (Option.none : Option Jvm.ClassFile.FieldType)).before args0 about1 = true := code_word (m := ⟨12, 3⟩) (meth := k12m3) (c := k12c3) (by decide +kernel) rfl rfl rfl (by decide +kernel)
set_option maxRecDepth 65536 in
theorem w_c17 : (Jvm.Cond.code ({ cls := "java/lang/AbstractStringBuilder", name := "putStringAt", desc := "(ILjava/lang/String;)V" } : Jvm.MethodName) jdk_68_method_73_code (3 : Nat) (Option.none : Option Jvm.ClassFile.FieldType)).before args0 about1 = true := code_word (m := ⟨12, 10⟩) (meth := k12m10) (c := k12c10) (by decide +kernel) rfl rfl rfl (by decide +kernel)
set_option maxRecDepth 65536 in
theorem w_c18 : (Jvm.Cond.code ({ cls := "java/lang/AbstractStringBuilder", name := "inflateIfNeededFor", desc := "(Ljava/lang/String;)V" } : Jvm.MethodName) jdk_68_method_71_code (2 : Nat) (Option.none : Option Jvm.ClassFile.FieldType)).before args0 about1 = true := code_word (m := ⟨12, 9⟩) (meth := k12m9) (c := k12c9) (by decide +kernel) rfl rfl rfl (by decide +kernel)
set_option maxRecDepth 65536 in
theorem w_c19 : (Jvm.Cond.code ({ cls := "java/lang/String", name := "getBytes", desc := "([BIB)V" } : Jvm.MethodName) jdk_42_method_147_code (4 : Nat) (Option.none : Option Jvm.ClassFile.FieldType)).before args0 about1 = true := code_word (m := ⟨7, 6⟩) (meth := k7m6) (c := k7c6) (by decide +kernel) rfl rfl rfl (by decide +kernel)
set_option maxRecDepth 65536 in
theorem w_c20 : (Jvm.Cond.code ({ cls := "java/lang/StringBuilder", name := "append", desc := "(I)Ljava/lang/StringBuilder;" } : Jvm.MethodName) jdk_67_method_15_code (2 : Nat) (Option.some (Jvm.ClassFile.FieldType.object "java/lang/StringBuilder"))).before args0 about1 = true := code_word (m := ⟨13, 2⟩) (meth := k13m2) (c := k13c2) (by decide +kernel) rfl rfl rfl (by decide +kernel)
set_option maxRecDepth 65536 in
theorem w_c21 : (Jvm.Cond.code ({ cls := "java/lang/AbstractStringBuilder", name := "append", desc := "(I)Ljava/lang/AbstractStringBuilder;" } : Jvm.MethodName) jdk_68_method_32_code (4 : Nat) (Option.some (Jvm.ClassFile.FieldType.object "java/lang/AbstractStringBuilder"))).before args0 about1 = true := code_word (m := ⟨12, 6⟩) (meth := k12m6) (c := k12c6) (by decide +kernel) rfl rfl rfl (by decide +kernel)
set_option maxRecDepth 65536 in
theorem w_c22 : (Jvm.Cond.code ({ cls := "java/lang/Integer", name := "stringSize", desc := "(I)I" } : Jvm.MethodName) jdk_33_method_13_code (4 : Nat) (Option.some Jvm.ClassFile.FieldType.int)).before args0 about1 = true := code_word (m := ⟨16, 1⟩) (meth := k16m1) (c := k16c1) (by decide +kernel) rfl rfl rfl (by decide +kernel)
set_option maxRecDepth 65536 in
theorem w_c23 : (Jvm.Cond.code ({ cls := "java/lang/AbstractStringBuilder", name := "isLatin1", desc := "()Z" } : Jvm.MethodName) jdk_68_method_68_code (1 : Nat) (Option.some Jvm.ClassFile.FieldType.boolean)).before args0 about1 = true := code_word (m := ⟨12, 8⟩) (meth := k12m8) (c := k12c8) (by decide +kernel) rfl rfl rfl (by decide +kernel)
set_option maxRecDepth 65536 in
theorem w_c24 : (Jvm.Cond.code ({ cls := "java/lang/Integer", name := "getChars", desc := "(II[B)I" } : Jvm.MethodName) jdk_33_method_12_code (7 : Nat) (Option.some Jvm.ClassFile.FieldType.int)).before args0 about1 = true := code_word (m := ⟨16, 0⟩) (meth := k16m0) (c := k16c0) (by decide +kernel) rfl rfl rfl (by decide +kernel)
set_option maxRecDepth 65536 in
theorem w_c25 : (Jvm.Cond.code ({ cls := "java/lang/StringBuilder", name := "toString", desc := "()Ljava/lang/String;" } : Jvm.MethodName) jdk_67_method_42_code (1 : Nat) (Option.some (Jvm.ClassFile.FieldType.object "java/lang/String"))).before args0 about1 = true := code_word (m := ⟨13, 3⟩) (meth := k13m3) (c := k13c3) (by decide +kernel) rfl rfl rfl (by decide +kernel)
set_option maxRecDepth 65536 in
theorem w_c26 : (Jvm.Cond.code ({ cls := "java/lang/String", name := "<init>", desc := "(Ljava/lang/StringBuilder;)V" } : Jvm.MethodName) jdk_42_method_53_code (2 : Nat) (Option.none : Option Jvm.ClassFile.FieldType)).before args0 about1 = true := code_word (m := ⟨7, 2⟩) (meth := k7m2) (c := k7c2) (by decide +kernel) rfl rfl rfl (by decide +kernel)
set_option maxRecDepth 65536 in
theorem w_c27 : (Jvm.Cond.code ({ cls := "java/lang/String", name := "<init>", desc := "(Ljava/lang/AbstractStringBuilder;Ljava/lang/Void;)V" } : Jvm.MethodName) jdk_42_method_150_code (5 : Nat) (Option.none : Option Jvm.ClassFile.FieldType)).before args0 about1 = true := code_word (m := ⟨7, 8⟩) (meth := k7m8) (c := k7c8) (by decide +kernel) rfl rfl rfl (by decide +kernel)
set_option maxRecDepth 65536 in
theorem w_c28 : (Jvm.Cond.code ({ cls := "java/lang/AbstractStringBuilder", name := "getValue", desc := "()[B" } : Jvm.MethodName) jdk_68_method_64_code (1 : Nat) (Option.some (Jvm.ClassFile.FieldType.array Jvm.ClassFile.FieldType.byte))).before args0 about1 = true := code_word (m := ⟨12, 7⟩) (meth := k12m7) (c := k12c7) (by decide +kernel) rfl rfl rfl (by decide +kernel)
set_option maxRecDepth 65536 in
theorem w_c29 : (Jvm.Cond.code ({ cls := "java/lang/StringBuilder", name := "length", desc := "()I" } : Jvm.MethodName) jdk_67_method_93_code (1 : Nat) (Option.some Jvm.ClassFile.FieldType.int)).before args0 about1 = true := code_word (m := ⟨13, 4⟩) (meth := k13m4) (c := k13c4) (by decide +kernel) rfl rfl rfl (by decide +kernel)
set_option maxRecDepth 65536 in
theorem w_c30 : (Jvm.Cond.code ({ cls := "java/lang/AbstractStringBuilder", name := "length", desc := "()I" } : Jvm.MethodName) jdk_68_method_6_code (1 : Nat) (Option.some Jvm.ClassFile.FieldType.int)).before args0 about1 = true := code_word (m := ⟨12, 2⟩) (meth := k12m2) (c := k12c2) (by decide +kernel) rfl rfl rfl (by decide +kernel)
set_option maxRecDepth 65536 in
theorem w_c31 : (Jvm.Cond.code ({ cls := "java/util/Arrays", name := "copyOfRange", desc := "([BII)[B" } : Jvm.MethodName) jdk_65_method_132_code (3 : Nat) (Option.some (Jvm.ClassFile.FieldType.array Jvm.ClassFile.FieldType.byte))).before args0 about1 = true := code_word (m := ⟨17, 3⟩) (meth := k17m3) (c := k17c3) (by decide +kernel) rfl rfl rfl (by decide +kernel)
set_option maxRecDepth 65536 in
theorem w_c32 : (Jvm.Cond.code ({ cls := "java/util/Arrays", name := "copyOfRangeByte", desc := "([BII)[B" } : Jvm.MethodName) jdk_65_method_133_code (5 : Nat) (Option.some (Jvm.ClassFile.FieldType.array Jvm.ClassFile.FieldType.byte))).before args0 about1 = true := code_word (m := ⟨17, 4⟩) (meth := k17m4) (c := k17c4) (by decide +kernel) rfl rfl rfl (by decide +kernel)
set_option maxRecDepth 65536 in
theorem w_c33 : (Jvm.Cond.code ({ cls := "java/util/Arrays", name := "checkLength", desc := "(II)V" } : Jvm.MethodName) jdk_65_method_131_code (2 : Nat) (Option.none : Option Jvm.ClassFile.FieldType)).before args0 about1 = true := code_word (m := ⟨17, 2⟩) (meth := k17m2) (c := k17c2) (by decide +kernel) rfl rfl rfl (by decide +kernel)
set_option maxRecDepth 65536 in
theorem w_c34 : (Jvm.Cond.code ({ cls := "java/lang/Math", name := "min", desc := "(II)I" } : Jvm.MethodName) jdk_29_method_69_code (2 : Nat) (Option.some Jvm.ClassFile.FieldType.int)).before args0 about1 = true := code_word (m := ⟨18, 2⟩) (meth := k18m2) (c := k18c2) (by decide +kernel) rfl rfl rfl (by decide +kernel)
set_option maxRecDepth 65536 in
theorem w_c35 : (Jvm.Cond.code ({ cls := "com/example/tributary/tributary/LocationToStringPinLaw", name := "nd", desc := "(I)I" } : Jvm.MethodName) method_3_code (1 : Nat) (Option.some Jvm.ClassFile.FieldType.int)).before args0 about1 = true := code_word (m := ⟨1, 2⟩) (meth := k1m2) (c := k1c2) (by decide +kernel) rfl rfl rfl (by decide +kernel)
set_option maxRecDepth 65536 in
theorem w_c36 : (Jvm.Cond.code ({ cls := "java/lang/String", name := "charAt", desc := "(I)C" } : Jvm.MethodName) jdk_42_method_56_code (2 : Nat) (Option.some Jvm.ClassFile.FieldType.char)).before args0 about1 = true := code_word (m := ⟨7, 4⟩) (meth := k7m4) (c := k7c4) (by decide +kernel) rfl rfl rfl (by decide +kernel)
set_option maxRecDepth 65536 in
theorem w_c37 : (Jvm.Cond.code ({ cls := "java/lang/String", name := "isLatin1", desc := "()Z" } : Jvm.MethodName) jdk_42_method_154_code (1 : Nat) (Option.some Jvm.ClassFile.FieldType.boolean)).before args0 about1 = true := code_word (m := ⟨7, 10⟩) (meth := k7m10) (c := k7c10) (by decide +kernel) rfl rfl rfl (by decide +kernel)
set_option maxRecDepth 65536 in
theorem w_c38 : (Jvm.Cond.code ({ cls := "java/lang/StringLatin1", name := "charAt", desc := "([BI)C" } : Jvm.MethodName) jdk_43_method_2_code (2 : Nat) (Option.some Jvm.ClassFile.FieldType.char)).before args0 about1 = true := code_word (m := ⟨19, 1⟩) (meth := k19m1) (c := k19c1) (by decide +kernel) rfl rfl rfl (by decide +kernel)
set_option maxRecDepth 65536 in
theorem w_c39 : (Jvm.Cond.code ({ cls := "java/lang/String", name := "checkIndex", desc := "(II)V" } : Jvm.MethodName) jdk_42_method_155_code (2 : Nat) (Option.none : Option Jvm.ClassFile.FieldType)).before args0 about1 = true := code_word (m := ⟨7, 11⟩) (meth := k7m11) (c := k7c11) (by decide +kernel) rfl rfl rfl (by decide +kernel)
set_option maxRecDepth 65536 in
theorem w_c40 : (Jvm.Cond.code ({ cls := "jdk/internal/util/Preconditions", name := "checkIndex", desc := "(IILjava/util/function/BiFunction;)I" } : Jvm.MethodName) jdk_41_method_11_code (3 : Nat) (Option.some Jvm.ClassFile.FieldType.int)).before args0 about1 = true := code_word (m := ⟨20, 1⟩) (meth := k20m1) (c := k20c1) (by decide +kernel) rfl rfl rfl (by decide +kernel)
set_option maxRecDepth 65536 in
theorem w_c41 : (Jvm.Cond.code ({ cls := "com/example/tributary/tributary/LocationToStringPinLaw", name := "digits", desc := "(Ljava/lang/String;II)Z" } : Jvm.MethodName) method_4_code (4 : Nat) (Option.some Jvm.ClassFile.FieldType.boolean)).before args0 about1 = true := code_word (m := ⟨1, 3⟩) (meth := k1m3) (c := k1c3) (by decide +kernel) rfl rfl rfl (by decide +kernel)
set_option maxRecDepth 65536 in
theorem w_c42 : (Jvm.Cond.code ({ cls := "com/example/tributary/tributary/LocationToStringPinLaw", name := "d", desc := "(Ljava/lang/String;IIIII)Z" } : Jvm.MethodName) method_5_code (6 : Nat) (Option.some Jvm.ClassFile.FieldType.boolean)).before args0 about1 = true := code_word (m := ⟨1, 4⟩) (meth := k1m4) (c := k1c4) (by decide +kernel) rfl rfl rfl (by decide +kernel)
set_option maxRecDepth 65536 in
theorem w_c43 : (Jvm.Cond.code ({ cls := "java/lang/AbstractStringBuilder", name := "newCapacity", desc := "(I)I" } : Jvm.MethodName) jdk_68_method_10_code (6 : Nat) (Option.some Jvm.ClassFile.FieldType.int)).before args0 about1 = true := code_word (m := ⟨12, 4⟩) (meth := k12m4) (c := k12c4) (by decide +kernel) rfl rfl rfl (by decide +kernel)
set_option maxRecDepth 65536 in
theorem w_c44 : (Jvm.Cond.code ({ cls := "jdk/internal/util/ArraysSupport", name := "newLength", desc := "(III)I" } : Jvm.MethodName) jdk_48_method_27_code (4 : Nat) (Option.some Jvm.ClassFile.FieldType.int)).before args0 about1 = true := code_word (m := ⟨21, 1⟩) (meth := k21m1) (c := k21c1) (by decide +kernel) rfl rfl rfl (by decide +kernel)
set_option maxRecDepth 65536 in
theorem w_c45 : (Jvm.Cond.code ({ cls := "java/lang/Math", name := "max", desc := "(II)I" } : Jvm.MethodName) jdk_29_method_65_code (2 : Nat) (Option.some Jvm.ClassFile.FieldType.int)).before args0 about1 = true := code_word (m := ⟨18, 1⟩) (meth := k18m1) (c := k18c1) (by decide +kernel) rfl rfl rfl (by decide +kernel)
set_option maxRecDepth 65536 in
theorem w_c46 : (Jvm.Cond.code ({ cls := "java/util/Arrays", name := "copyOf", desc := "([BI)[B" } : Jvm.MethodName) jdk_65_method_121_code (3 : Nat) (Option.some (Jvm.ClassFile.FieldType.array Jvm.ClassFile.FieldType.byte))).before args0 about1 = true := code_word (m := ⟨17, 1⟩) (meth := k17m1) (c := k17c1) (by decide +kernel) rfl rfl rfl (by decide +kernel)
set_option maxRecDepth 65536 in
theorem w_c47 : (Jvm.Cond.code ({ cls := "java/lang/String", name := "equals", desc := "(Ljava/lang/Object;)Z" } : Jvm.MethodName) jdk_42_method_66_code (3 : Nat) (Option.some Jvm.ClassFile.FieldType.boolean)).before args0 about1 = true := code_word (m := ⟨7, 5⟩) (meth := k7m5) (c := k7c5) (by decide +kernel) rfl rfl rfl (by decide +kernel)
def codes1 : List Jvm.Cond := [Jvm.Cond.code x code maxLocals ret, Jvm.Cond.code ({ cls := "java/lang/String", name := "<init>", desc := "([C)V" } : Jvm.MethodName) jdk_42_method_3_code (2 : Nat) (Option.none : Option Jvm.ClassFile.FieldType), Jvm.Cond.code ({ cls := "java/lang/String", name := "<init>", desc := "([CIILjava/lang/Void;)V" } : Jvm.MethodName) jdk_42_method_149_code (6 : Nat) (Option.none : Option Jvm.ClassFile.FieldType), Jvm.Cond.code ({ cls := "java/lang/Object", name := "<init>", desc := "()V" } : Jvm.MethodName) object_method_1_code (1 : Nat) (Option.none : Option Jvm.ClassFile.FieldType), Jvm.Cond.code ({ cls := "java/lang/StringUTF16", name := "compress", desc := "([CII)[B" } : Jvm.MethodName) jdk_52_method_16_code (6 : Nat) (Option.some (Jvm.ClassFile.FieldType.array Jvm.ClassFile.FieldType.byte)), Jvm.Cond.code ({ cls := "java/lang/StringUTF16", name := "compress", desc := "([CI[BII)I" } : Jvm.MethodName) jdk_52_method_21_code (7 : Nat) (Option.some Jvm.ClassFile.FieldType.int), Jvm.Cond.code ({ cls := "java/lang/StringUTF16", name := "coderFromArrayLen", desc := "([BI)B" } : Jvm.MethodName) jdk_52_method_15_code (2 : Nat) (Option.some Jvm.ClassFile.FieldType.byte), Jvm.Cond.code ({ cls := "com/example/tributary/tributary/Location", name := "<init>", desc := "(Ljava/lang/String;II)V" } : Jvm.MethodName) prog_10_method_1_code (4 : Nat) (Option.none : Option Jvm.ClassFile.FieldType), Jvm.Cond.code ({ cls := "java/lang/Record", name := "<init>", desc := "()V" } : Jvm.MethodName) jdk_30_method_1_code (1 : Nat) (Option.none : Option Jvm.ClassFile.FieldType), Jvm.Cond.code ({ cls := "com/example/tributary/tributary/Location", name := "toString", desc := "()Ljava/lang/String;" } : Jvm.MethodName) prog_10_method_3_code (1 : Nat) (Option.some (Jvm.ClassFile.FieldType.object "java/lang/String")), Jvm.Cond.code ({ cls := "java/lang/StringBuilder", name := "<init>", desc := "()V" } : Jvm.MethodName) jdk_67_method_1_code (1 : Nat) (Option.none : Option Jvm.ClassFile.FieldType), Jvm.Cond.code ({ cls := "java/lang/AbstractStringBuilder", name := "<init>", desc := "(I)V" } : Jvm.MethodName) jdk_68_method_2_code (2 : Nat) (Option.none : Option Jvm.ClassFile.FieldType), Jvm.Cond.code ({ cls := "java/lang/StringBuilder", name := "append", desc := "(Ljava/lang/String;)Ljava/lang/StringBuilder;" } : Jvm.MethodName) jdk_67_method_7_code (2 : Nat) (Option.some (Jvm.ClassFile.FieldType.object "java/lang/StringBuilder")), Jvm.Cond.code ({ cls := "java/lang/AbstractStringBuilder", name := "append", desc := "(Ljava/lang/String;)Ljava/lang/AbstractStringBuilder;" } : Jvm.MethodName) jdk_68_method_22_code (3 : Nat) (Option.some (Jvm.ClassFile.FieldType.object "java/lang/AbstractStringBuilder")), Jvm.Cond.code ({ cls := "java/lang/String", name := "length", desc := "()I" } : Jvm.MethodName) jdk_42_method_54_code (1 : Nat) (Option.some Jvm.ClassFile.FieldType.int), Jvm.Cond.code ({ cls := "java/lang/String", name := "coder", desc := "()B" } : Jvm.MethodName) jdk_42_method_152_code (1 : Nat) (Option.some Jvm.ClassFile.FieldType.byte), Jvm.Cond.code ({ cls := "java/lang/AbstractStringBuilder", name := "ensureCapacityInternal", desc := "(I)V" } : Jvm.MethodName) jdk_68_method_9_code (3 : Nat) (Option.none : Option Jvm.ClassFile.FieldType), Jvm.Cond.code ({ cls := "java/lang/AbstractStringBuilder", name := "putStringAt", desc := "(ILjava/lang/String;)V" } : Jvm.MethodName) jdk_68_method_73_code (3 : Nat) (Option.none : Option Jvm.ClassFile.FieldType), Jvm.Cond.code ({ cls := "java/lang/AbstractStringBuilder", name := "inflateIfNeededFor", desc := "(Ljava/lang/String;)V" } : Jvm.MethodName) jdk_68_method_71_code (2 : Nat) (Option.none : Option Jvm.ClassFile.FieldType), Jvm.Cond.code ({ cls := "java/lang/String", name := "getBytes", desc := "([BIB)V" } : Jvm.MethodName) jdk_42_method_147_code (4 : Nat) (Option.none : Option Jvm.ClassFile.FieldType), Jvm.Cond.code ({ cls := "java/lang/StringBuilder", name := "append", desc := "(I)Ljava/lang/StringBuilder;" } : Jvm.MethodName) jdk_67_method_15_code (2 : Nat) (Option.some (Jvm.ClassFile.FieldType.object "java/lang/StringBuilder")), Jvm.Cond.code ({ cls := "java/lang/AbstractStringBuilder", name := "append", desc := "(I)Ljava/lang/AbstractStringBuilder;" } : Jvm.MethodName) jdk_68_method_32_code (4 : Nat) (Option.some (Jvm.ClassFile.FieldType.object "java/lang/AbstractStringBuilder")), Jvm.Cond.code ({ cls := "java/lang/Integer", name := "stringSize", desc := "(I)I" } : Jvm.MethodName) jdk_33_method_13_code (4 : Nat) (Option.some Jvm.ClassFile.FieldType.int), Jvm.Cond.code ({ cls := "java/lang/AbstractStringBuilder", name := "isLatin1", desc := "()Z" } : Jvm.MethodName) jdk_68_method_68_code (1 : Nat) (Option.some Jvm.ClassFile.FieldType.boolean), Jvm.Cond.code ({ cls := "java/lang/Integer", name := "getChars", desc := "(II[B)I" } : Jvm.MethodName) jdk_33_method_12_code (7 : Nat) (Option.some Jvm.ClassFile.FieldType.int), Jvm.Cond.code ({ cls := "java/lang/StringBuilder", name := "toString", desc := "()Ljava/lang/String;" } : Jvm.MethodName) jdk_67_method_42_code (1 : Nat) (Option.some (Jvm.ClassFile.FieldType.object "java/lang/String")), Jvm.Cond.code ({ cls := "java/lang/String", name := "<init>", desc := "(Ljava/lang/StringBuilder;)V" } : Jvm.MethodName) jdk_42_method_53_code (2 : Nat) (Option.none : Option Jvm.ClassFile.FieldType), Jvm.Cond.code ({ cls := "java/lang/String", name := "<init>", desc := "(Ljava/lang/AbstractStringBuilder;Ljava/lang/Void;)V" } : Jvm.MethodName) jdk_42_method_150_code (5 : Nat) (Option.none : Option Jvm.ClassFile.FieldType), Jvm.Cond.code ({ cls := "java/lang/AbstractStringBuilder", name := "getValue", desc := "()[B" } : Jvm.MethodName) jdk_68_method_64_code (1 : Nat) (Option.some (Jvm.ClassFile.FieldType.array Jvm.ClassFile.FieldType.byte)), Jvm.Cond.code ({ cls := "java/lang/StringBuilder", name := "length", desc := "()I" } : Jvm.MethodName) jdk_67_method_93_code (1 : Nat) (Option.some Jvm.ClassFile.FieldType.int), Jvm.Cond.code ({ cls := "java/lang/AbstractStringBuilder", name := "length", desc := "()I" } : Jvm.MethodName) jdk_68_method_6_code (1 : Nat) (Option.some Jvm.ClassFile.FieldType.int), Jvm.Cond.code ({ cls := "java/util/Arrays", name := "copyOfRange", desc := "([BII)[B" } : Jvm.MethodName) jdk_65_method_132_code (3 : Nat) (Option.some (Jvm.ClassFile.FieldType.array Jvm.ClassFile.FieldType.byte)), Jvm.Cond.code ({ cls := "java/util/Arrays", name := "copyOfRangeByte", desc := "([BII)[B" } : Jvm.MethodName) jdk_65_method_133_code (5 : Nat) (Option.some (Jvm.ClassFile.FieldType.array Jvm.ClassFile.FieldType.byte)), Jvm.Cond.code ({ cls := "java/util/Arrays", name := "checkLength", desc := "(II)V" } : Jvm.MethodName) jdk_65_method_131_code (2 : Nat) (Option.none : Option Jvm.ClassFile.FieldType), Jvm.Cond.code ({ cls := "java/lang/Math", name := "min", desc := "(II)I" } : Jvm.MethodName) jdk_29_method_69_code (2 : Nat) (Option.some Jvm.ClassFile.FieldType.int), Jvm.Cond.code ({ cls := "com/example/tributary/tributary/LocationToStringPinLaw", name := "nd", desc := "(I)I" } : Jvm.MethodName) method_3_code (1 : Nat) (Option.some Jvm.ClassFile.FieldType.int), Jvm.Cond.code ({ cls := "java/lang/String", name := "charAt", desc := "(I)C" } : Jvm.MethodName) jdk_42_method_56_code (2 : Nat) (Option.some Jvm.ClassFile.FieldType.char), Jvm.Cond.code ({ cls := "java/lang/String", name := "isLatin1", desc := "()Z" } : Jvm.MethodName) jdk_42_method_154_code (1 : Nat) (Option.some Jvm.ClassFile.FieldType.boolean), Jvm.Cond.code ({ cls := "java/lang/StringLatin1", name := "charAt", desc := "([BI)C" } : Jvm.MethodName) jdk_43_method_2_code (2 : Nat) (Option.some Jvm.ClassFile.FieldType.char), Jvm.Cond.code ({ cls := "java/lang/String", name := "checkIndex", desc := "(II)V" } : Jvm.MethodName) jdk_42_method_155_code (2 : Nat) (Option.none : Option Jvm.ClassFile.FieldType), Jvm.Cond.code ({ cls := "jdk/internal/util/Preconditions", name := "checkIndex", desc := "(IILjava/util/function/BiFunction;)I" } : Jvm.MethodName) jdk_41_method_11_code (3 : Nat) (Option.some Jvm.ClassFile.FieldType.int), Jvm.Cond.code ({ cls := "com/example/tributary/tributary/LocationToStringPinLaw", name := "digits", desc := "(Ljava/lang/String;II)Z" } : Jvm.MethodName) method_4_code (4 : Nat) (Option.some Jvm.ClassFile.FieldType.boolean), Jvm.Cond.code ({ cls := "com/example/tributary/tributary/LocationToStringPinLaw", name := "d", desc := "(Ljava/lang/String;IIIII)Z" } : Jvm.MethodName) method_5_code (6 : Nat) (Option.some Jvm.ClassFile.FieldType.boolean), Jvm.Cond.code ({ cls := "java/lang/AbstractStringBuilder", name := "newCapacity", desc := "(I)I" } : Jvm.MethodName) jdk_68_method_10_code (6 : Nat) (Option.some Jvm.ClassFile.FieldType.int), Jvm.Cond.code ({ cls := "jdk/internal/util/ArraysSupport", name := "newLength", desc := "(III)I" } : Jvm.MethodName) jdk_48_method_27_code (4 : Nat) (Option.some Jvm.ClassFile.FieldType.int), Jvm.Cond.code ({ cls := "java/lang/Math", name := "max", desc := "(II)I" } : Jvm.MethodName) jdk_29_method_65_code (2 : Nat) (Option.some Jvm.ClassFile.FieldType.int), Jvm.Cond.code ({ cls := "java/util/Arrays", name := "copyOf", desc := "([BI)[B" } : Jvm.MethodName) jdk_65_method_121_code (3 : Nat) (Option.some (Jvm.ClassFile.FieldType.array Jvm.ClassFile.FieldType.byte)), Jvm.Cond.code ({ cls := "java/lang/String", name := "equals", desc := "(Ljava/lang/Object;)Z" } : Jvm.MethodName) jdk_42_method_66_code (3 : Nat) (Option.some Jvm.ClassFile.FieldType.boolean)]
set_option maxRecDepth 65536 in
theorem codes_eq : words1.filter isCode = codes1 := rfl
theorem w_codes : ∀ c ∈ words1.filter isCode, c.before args0 about1 = true := by
  rw [codes_eq]
  intro c hc
  simp only [codes1, List.mem_cons, List.not_mem_nil, or_false] at hc
  rcases hc with rfl | rfl | rfl | rfl | rfl | rfl | rfl | rfl | rfl | rfl | rfl | rfl | rfl | rfl | rfl | rfl | rfl | rfl | rfl | rfl | rfl | rfl | rfl | rfl | rfl | rfl | rfl | rfl | rfl | rfl | rfl | rfl | rfl | rfl | rfl | rfl | rfl | rfl | rfl | rfl | rfl | rfl | rfl | rfl | rfl | rfl | rfl | rfl
  · exact w_c0
  · exact w_c1
  · exact w_c2
  · exact w_c3
  · exact w_c4
  · exact w_c5
  · exact w_c6
  · exact w_c7
  · exact w_c8
  · exact w_c9
  · exact w_c10
  · exact w_c11
  · exact w_c12
  · exact w_c13
  · exact w_c14
  · exact w_c15
  · exact w_c16
  · exact w_c17
  · exact w_c18
  · exact w_c19
  · exact w_c20
  · exact w_c21
  · exact w_c22
  · exact w_c23
  · exact w_c24
  · exact w_c25
  · exact w_c26
  · exact w_c27
  · exact w_c28
  · exact w_c29
  · exact w_c30
  · exact w_c31
  · exact w_c32
  · exact w_c33
  · exact w_c34
  · exact w_c35
  · exact w_c36
  · exact w_c37
  · exact w_c38
  · exact w_c39
  · exact w_c40
  · exact w_c41
  · exact w_c42
  · exact w_c43
  · exact w_c44
  · exact w_c45
  · exact w_c46
  · exact w_c47
set_option maxRecDepth 65536 in
theorem w_t1 : (words1.take 24).all (fun c => isCode c || c.before args0 about1) = true := by decide +kernel
set_option maxRecDepth 65536 in
theorem w_t2 : ((words1.drop 24).take 24).all (fun c => isCode c || c.before args0 about1) = true := by decide +kernel
set_option maxRecDepth 65536 in
theorem w_t3 : (((words1.drop 24).drop 24).take 24).all (fun c => isCode c || c.before args0 about1) = true := by decide +kernel
set_option maxRecDepth 65536 in
theorem w_t4 : ((((words1.drop 24).drop 24).drop 24).take 24).all (fun c => isCode c || c.before args0 about1) = true := by decide +kernel
set_option maxRecDepth 65536 in
theorem w_t5 : (((((words1.drop 24).drop 24).drop 24).drop 24).take 24).all (fun c => isCode c || c.before args0 about1) = true := by decide +kernel
set_option maxRecDepth 65536 in
theorem w_t6 : ((((((words1.drop 24).drop 24).drop 24).drop 24).drop 24).take 24).all (fun c => isCode c || c.before args0 about1) = true := by decide +kernel
set_option maxRecDepth 65536 in
theorem w_t7 : (((((((words1.drop 24).drop 24).drop 24).drop 24).drop 24).drop 24).take 24).all (fun c => isCode c || c.before args0 about1) = true := by decide +kernel
set_option maxRecDepth 65536 in
theorem w_t8 : ((((((((words1.drop 24).drop 24).drop 24).drop 24).drop 24).drop 24).drop 24).take 24).all (fun c => isCode c || c.before args0 about1) = true := by decide +kernel
set_option maxRecDepth 65536 in
theorem w_t9 : (((((((((words1.drop 24).drop 24).drop 24).drop 24).drop 24).drop 24).drop 24).drop 24).take 24).all (fun c => isCode c || c.before args0 about1) = true := by decide +kernel
set_option maxRecDepth 65536 in
theorem w_t10 : ((((((((((words1.drop 24).drop 24).drop 24).drop 24).drop 24).drop 24).drop 24).drop 24).drop 24).take 24).all (fun c => isCode c || c.before args0 about1) = true := by decide +kernel
set_option maxRecDepth 65536 in
theorem w_t11 : ((((((((((words1.drop 24).drop 24).drop 24).drop 24).drop 24).drop 24).drop 24).drop 24).drop 24).drop 24).all (fun c => isCode c || c.before args0 about1) = true := by decide +kernel
theorem w_tables : (allAtoms (Jvm.Cond.code x code maxLocals ret :: tables_1)).before args0 about1 = true := by
  rw [allAtoms_all]
  show words1.all (fun c => c.before args0 about1) = true
  refine all_split ?_ w_codes
  rw [← List.take_append_drop 24 words1, List.all_append, w_t1, ← List.take_append_drop 24 (words1.drop 24), List.all_append, w_t2, ← List.take_append_drop 24 ((words1.drop 24).drop 24), List.all_append, w_t3, ← List.take_append_drop 24 (((words1.drop 24).drop 24).drop 24), List.all_append, w_t4, ← List.take_append_drop 24 ((((words1.drop 24).drop 24).drop 24).drop 24), List.all_append, w_t5, ← List.take_append_drop 24 (((((words1.drop 24).drop 24).drop 24).drop 24).drop 24), List.all_append, w_t6, ← List.take_append_drop 24 ((((((words1.drop 24).drop 24).drop 24).drop 24).drop 24).drop 24), List.all_append, w_t7, ← List.take_append_drop 24 (((((((words1.drop 24).drop 24).drop 24).drop 24).drop 24).drop 24).drop 24), List.all_append, w_t8, ← List.take_append_drop 24 ((((((((words1.drop 24).drop 24).drop 24).drop 24).drop 24).drop 24).drop 24).drop 24), List.all_append, w_t9, ← List.take_append_drop 24 (((((((((words1.drop 24).drop 24).drop 24).drop 24).drop 24).drop 24).drop 24).drop 24).drop 24), List.all_append, w_t10, w_t11]
  rfl
set_option maxRecDepth 65536 in
theorem w_rest : rest_1_c.before args0 about1 = true := by decide +kernel
set_option maxRecDepth 65536 in
theorem w_case : (Jvm.Cond.and given_1 narrow_1).before args0 about1 = true := by decide +kernel
set_option maxRecDepth 65536 in
theorem w_consts : constsHeld consts_1 about1 := Jvm.Lit.constsHeldB_iff.mp (by decide +kernel)
theorem w_applies : (headSpec (Jvm.Cond.code x code maxLocals ret :: tables_1) room_1).applies x e0.platform about1 = true :=
  (Spec.applies_iff w_frames).mpr ⟨w_running, w_runnable, w_alone, w_named, w_hears, w_ripe, w_room, w_tables⟩
theorem atStart : AtStart classFile x code maxLocals ret World_1 tables_1 room_1 Calls_1 rest_1 Pre_1 launch0 p0 e0 about1 theMethod args0 below0 :=
  ⟨lists_1, trivial, launch0.admits_env _ _ _, launch0.least_env, fairChoices_fair.cas, fairChoices_fair.clock, w_frames, w_args, w_heap, w_applies, ⟨w_consts, trivial⟩, w_rest, w_case⟩
end start1
theorem witness_1 : WitnessClaimed_1 := ⟨start1.p0, start1.e0, start1.about1, start1.theMethod, start1.args0, start1.below0, start1.atStart⟩
end Jvm.Pilot.@@N@@
