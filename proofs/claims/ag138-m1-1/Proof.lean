import JvmDerived
import JvmDerived.Pilot.@@N@@Statement
import JvmDerived.Pilot.@@N@@Code
set_option linter.unusedVariables false
set_option linter.unusedSimpArgs false
/- laws to paste: Road.backV, Road.eqW, Road.codOf (cut by pick.py; bodies as the Statement names them) -/
namespace Jvm.Pilot.@@N@@
namespace StrChars
open Jvm Sem ClassFile Op Lib Jvm.Stand Jvm.Free.XT Jvm.Free.ALB Jvm.Free.JM Jvm.Free
open Jvm.Lib.Cold (StaticIs)
/-- a char array whose places are chars -/
def Ch (a : Addr) (A : Cell) (U : State) : Prop := Arr .char a A U ∧ Typed .char A
theorem Ch.mv {a : Addr} {A : Cell} {U U' : State} (h : Ch a A U) (hal : U.vm.Alike U'.vm) (hh : U'.heap = U.heap) : Ch a A U' := ⟨h.1.mv hal hh, h.2⟩
theorem Ch.keep {a : Addr} {A : Cell} {U U' : State} (h : Ch a A U) (hal : U.vm.Alike U'.vm) (hk : U'.heap[a]? = some A) : Ch a A U' := ⟨h.1.keep hal hk, h.2⟩
/-- what place i of a char[]'s cell holds -/
def cv (A : Cell) (i : Nat) : Int32 := match A.slots[i]? with | some (.int x) => x | _ => 0
theorem Ch.get {a : Addr} {A : Cell} {U : State} (h : Ch a A U) {i : Nat} (hi : i < A.slots.size) : A.slots[i]? = some (.int (cv A i)) := by
  have e := Array.getElem?_eq_getElem hi
  have f := h.2 i _ e
  unfold cv; rw [e]
  generalize A.slots[i] = v at f
  cases v <;> simp [fits] at f ⊢
/-- the byte that i2b leaves of a char -/
def lo8 (x : Int32) : Int32 := x.toInt8.toInt32
theorem fits_lo8 (y : Int32) : fits .byte (.int (lo8 y)) = true := by
  have h1 := y.toInt8.le_toInt
  have h2 := y.toInt8.toInt_lt
  simp only [lo8, fits, Bool.and_eq_true, decide_eq_true_eq, Int32.le_iff_toInt_le, Int8.toInt_toInt32, show (-128 : Int32).toInt = -128 from by decide, show (127 : Int32).toInt = 127 from by decide]
  omega
/-- A' is A but that each place j of lo .. hi - 1 holds f j -/
def Laid (A A' : Cell) (lo hi : Nat) (f : Nat → Value) : Prop := A'.cls = A.cls ∧ A'.vm = A.vm ∧ A'.slots.size = A.slots.size ∧ ∀ i, A'.slots[i]? = if lo ≤ i ∧ i < hi then some (f i) else A.slots[i]?
theorem Laid.zero (A : Cell) (lo : Nat) (f : Nat → Value) : Laid A A lo (lo + 0) f := ⟨rfl, rfl, rfl, fun i => by rw [if_neg (by omega)]⟩
theorem Laid.step {A Ak : Cell} {lo k : Nat} {f : Nat → Value} {v : Value} (h : Laid A Ak lo k f) (hlo : lo ≤ k) (hk : k < Ak.slots.size) (hv : v = f k) : Laid A (Ak.setSlot k v) lo (k + 1) f := by
  refine ⟨h.1, h.2.1, by simpa [Cell.setSlot] using h.2.2.1, fun i => ?_⟩
  by_cases e : k = i
  · subst e; rw [Cell.slots_setSlot_self v hk, if_pos (by omega), hv]
  · rw [Cell.slots_setSlot_ne v e, h.2.2.2 i]
    by_cases q : lo ≤ i ∧ i < k
    · rw [if_pos q, if_pos (by omega)]
    · rw [if_neg q, if_neg (by omega)]
def U16 : String := "java/lang/StringUTF16"
namespace Cmp5
def yN : MethodName := ⟨"java/lang/StringUTF16", "compress", "([CI[BII)I"⟩
abbrev yB : ByteArray := jdk_52_method_21_code
theorem d0 : decode yB 0 = .ok (.iconst 0, 1) := by decide +kernel
theorem d1 : decode yB 1 = .ok (.istore 5, 2) := by decide +kernel
theorem d3 : decode yB 3 = .ok (.iload 5, 2) := by decide +kernel
theorem d5 : decode yB 5 = .ok (.iload 4, 2) := by decide +kernel
theorem d7 : decode yB 7 = .ok (.if_icmp (.ge) 37, 3) := by decide +kernel
theorem d10 : decode yB 10 = .ok (.aload_n 0, 1) := by decide +kernel
theorem d11 : decode yB 11 = .ok (.iload_n 1, 1) := by decide +kernel
theorem d12 : decode yB 12 = .ok (.caload, 1) := by decide +kernel
theorem d13 : decode yB 13 = .ok (.istore 6, 2) := by decide +kernel
theorem d15 : decode yB 15 = .ok (.iload 6, 2) := by decide +kernel
theorem d17 : decode yB 17 = .ok (.sipush 255, 3) := by decide +kernel
theorem d20 : decode yB 20 = .ok (.if_icmp (.le) 6, 3) := by decide +kernel
theorem d26 : decode yB 26 = .ok (.aload_n 2, 1) := by decide +kernel
theorem d27 : decode yB 27 = .ok (.iload_n 3, 1) := by decide +kernel
theorem d28 : decode yB 28 = .ok (.iload 6, 2) := by decide +kernel
theorem d30 : decode yB 30 = .ok (.i2b, 1) := by decide +kernel
theorem d31 : decode yB 31 = .ok (.bastore, 1) := by decide +kernel
theorem d32 : decode yB 32 = .ok (.iinc 1 1, 3) := by decide +kernel
theorem d35 : decode yB 35 = .ok (.iinc 3 1, 3) := by decide +kernel
theorem d38 : decode yB 38 = .ok (.iinc 5 1, 3) := by decide +kernel
theorem d41 : decode yB 41 = .ok (.goto (-38), 3) := by decide +kernel
theorem d44 : decode yB 44 = .ok (.iload 4, 2) := by decide +kernel
theorem d46 : decode yB 46 = .ok (.ireturn, 1) := by decide +kernel
def site : List Cond := []
def tab : Cond := tabOf yN yB 7 (some .int) site
def P (b : Addr) (A : Cell) (d : Addr) (B : Cell) (o q len : Nat) (args : Array Value) (s : State) : Prop := args = #[.ref b, .int (Int32.ofNat o), .ref d, .int (Int32.ofNat q), .int (Int32.ofNat len)] ∧ Ch b A s ∧ Arr .byte d B s ∧ b ≠ d ∧ o + len ≤ A.slots.size ∧ q + len ≤ B.slots.size ∧ ∀ i, i < len → ¬ 255 < cv A (o + i)
def E (b : Addr) (A : Cell) (d : Addr) (B : Cell) (o q len : Nat) (r : Option Value) (s u : State) : Prop := r = some (.int (Int32.ofNat len)) ∧ ∃ B', Put d B' s u ∧ Laid B B' q (q + len) (fun j => Value.int (lo8 (cv A (o + (j - q)))))
/-- no char of the range above 255: len; the places written hold each char's low byte -/
theorem law (l : Launch) (b : Addr) (A : Cell) (d : Addr) (B : Cell) (o q len : Nat) : Law l yN 5 5 0 0 yB 7 (some .int) site (P b A d B o q len) (E b A d B o q len) (copyLocs d q len) 0 0 := by
  refine Law.of_walk (plainFor_of_name (by decide +kernel)) (by decide +kernel) (by decide +kernel) (by decide) (fun _ _ h => by rw [h.1]; rfl) (fun _ U U' hal hh h => ⟨h.1, h.2.1.mv hal hh, h.2.2.1.mv hal hh, h.2.2.2⟩) (fun r U U' V V' h1 hal h2 h => ⟨h.1, h.2.elim fun B' q => ⟨B', q.1.mv h1 h2, q.2⟩⟩) ?_
  intro p e s m args below meth c s₁ X0 hexec hbytes hml hret hlk hnm hown hh0 W hP
  obtain ⟨rfl, hA, hB, hne, l1, l2, hp⟩ := hP
  have c1 : Steps p.tables e below (s₁.setTop (entryFrame m #[.ref b, .int (Int32.ofNat o), .ref d, .int (Int32.ofNat q), .int (Int32.ofNat len)] 7)) (s₁.setTop (mkF m 0 #[.val (.ref b), .val (.int (Int32.ofNat o)), .val (.ref d), .val (.int (Int32.ofNat q)), .val (.int (Int32.ofNat len)), .unset, .unset] [])) := entry rfl
  have hA0 := hA.1.mv X0.warmed.alike hh0
  have hB0 := hB.mv X0.warmed.alike hh0
  have a31 := hA.1.2.2.2
  have c2 : Steps p.tables e below (s₁.setTop (entryFrame m #[.ref b, .int (Int32.ofNat o), .ref d, .int (Int32.ofNat q), .int (Int32.ofNat len)] 7)) (s₁.setTop (mkF m 3 #[.val (.ref b), .val (.int (Int32.ofNat o)), .val (.ref d), .val (.int (Int32.ofNat q)), .val (.int (Int32.ofNat len)), .val (.int 0), .unset] [])) := c1.trans (by
    refine iconstV X0.here hexec rfl 0 (hb hbytes d0) (by decide) ?_
    refine XS.istore X0.here hexec rfl (hb hbytes d1) rfl rfl ?_
    exact Steps.refl _)
  have loop : ∀ (r i : Nat), i + r = len → ∀ (z : Slot), (z = .unset ∨ ∃ w, z = .val w ∧ w.category = 1) → ∀ (Tl : State) (Bk : Cell), Stand p l e { frames := 0, locals := 0, cells := 0, slots := 0 } s m #[.ref b, .int (Int32.ofNat o), .ref d, .int (Int32.ofNat q), .int (Int32.ofNat len)] below meth c Tl ([] ++ copyLocs d q i) 0 0 → Put d Bk s₁ Tl → Laid B Bk q (q + i) (fun j => Value.int (lo8 (cv A (o + (j - q))))) →
      Steps p.tables e below (s₁.setTop (entryFrame m #[.ref b, .int (Int32.ofNat o), .ref d, .int (Int32.ofNat q), .int (Int32.ofNat len)] 7)) (Tl.setTop (mkF m 3 #[.val (.ref b), .val (.int (Int32.ofNat (o + i))), .val (.ref d), .val (.int (Int32.ofNat (q + i))), .val (.int (Int32.ofNat len)), .val (.int (Int32.ofNat i)), z] [])) → ∃ (T' : State) (B' : Cell) (z' : Slot), Stand p l e { frames := 0, locals := 0, cells := 0, slots := 0 } s m #[.ref b, .int (Int32.ofNat o), .ref d, .int (Int32.ofNat q), .int (Int32.ofNat len)] below meth c T' ([] ++ copyLocs d q len) 0 0 ∧ Put d B' s₁ T' ∧ Laid B B' q (q + len) (fun j => Value.int (lo8 (cv A (o + (j - q))))) ∧
      Steps p.tables e below (s₁.setTop (entryFrame m #[.ref b, .int (Int32.ofNat o), .ref d, .int (Int32.ofNat q), .int (Int32.ofNat len)] 7)) (T'.setTop (mkF m 3 #[.val (.ref b), .val (.int (Int32.ofNat (o + len))), .val (.ref d), .val (.int (Int32.ofNat (q + len))), .val (.int (Int32.ofNat len)), .val (.int (Int32.ofNat len)), z'] [])) := by
    intro r
    induction r with
    | zero =>
      intro i hi z hz Tl Bk Xl pl fl cl
      have hil : i = len := by omega
      rw [hil] at Xl fl cl
      exact ⟨Tl, Bk, z, Xl, pl, fl, cl⟩
    | succ r ih =>
      intro i hi z hz Tl Bk Xl pl fl cl
      have all := X0.warmed.alike.symm.trans Xl.warmed.alike
      have hAl := hA0.keep all (pl.other hne hA0.1)
      have hBk := hB0.like all pl.1 fl.1 fl.2.1 fl.2.2.1
      have hlt : q + i < Bk.slots.size := by rw [fl.2.2.1]; omega
      have c3 : Steps p.tables e below (s₁.setTop (entryFrame m #[.ref b, .int (Int32.ofNat o), .ref d, .int (Int32.ofNat q), .int (Int32.ofNat len)] 7)) (Tl.setTop (mkF m 12 #[.val (.ref b), .val (.int (Int32.ofNat (o + i))), .val (.ref d), .val (.int (Int32.ofNat (q + i))), .val (.int (Int32.ofNat len)), .val (.int (Int32.ofNat i)), z] [.int (Int32.ofNat (o + i)), .ref b])) := cl.trans (by
        refine XS.iload Xl.here hexec rfl (hb hbytes d3) rfl ?_
        refine XS.iload Xl.here hexec rfl (hb hbytes d5) rfl ?_
        refine XS.icmpNo Xl.here hexec rfl (hb hbytes d7) rfl (ii_ge_f (lt32 (by omega) (by omega))) ?_
        refine XS.aloadN Xl.here hexec rfl (hb hbytes d10) rfl rfl ?_
        refine XS.iloadN Xl.here hexec rfl (hb hbytes d11) rfl ?_
        exact Steps.refl _)
      have c4 : Steps p.tables e below (s₁.setTop (entryFrame m #[.ref b, .int (Int32.ofNat o), .ref d, .int (Int32.ofNat q), .int (Int32.ofNat len)] 7)) (Tl.setTop (mkF m 13 #[.val (.ref b), .val (.int (Int32.ofNat (o + i))), .val (.ref d), .val (.int (Int32.ofNat (q + i))), .val (.int (Int32.ofNat len)), .val (.int (Int32.ofNat i)), z] [.int (cv A (o + i))])) := c3.trans (by
        refine Xl.aget hexec hAl rfl (hA.get (i := o + i) (by omega)) rfl rfl (hb hbytes d12) ?_
        exact Steps.refl _)
      have c5 : Steps p.tables e below (s₁.setTop (entryFrame m #[.ref b, .int (Int32.ofNat o), .ref d, .int (Int32.ofNat q), .int (Int32.ofNat len)] 7)) (Tl.setTop (mkF m 15 #[.val (.ref b), .val (.int (Int32.ofNat (o + i))), .val (.ref d), .val (.int (Int32.ofNat (q + i))), .val (.int (Int32.ofNat len)), .val (.int (Int32.ofNat i)), .val (.int (cv A (o + i)))] [])) := c4.trans (by
        refine XS.istoreS Xl.here hexec rfl (hb hbytes d13) rfl rfl hz ?_
        exact Steps.refl _)
      have c6 : Steps p.tables e below (s₁.setTop (entryFrame m #[.ref b, .int (Int32.ofNat o), .ref d, .int (Int32.ofNat q), .int (Int32.ofNat len)] 7)) (Tl.setTop (mkF m 31 #[.val (.ref b), .val (.int (Int32.ofNat (o + i))), .val (.ref d), .val (.int (Int32.ofNat (q + i))), .val (.int (Int32.ofNat len)), .val (.int (Int32.ofNat i)), .val (.int (cv A (o + i)))] [.int (lo8 (cv A (o + i))), .int (Int32.ofNat (q + i)), .ref d])) := c5.trans (by
        refine XS.iload Xl.here hexec rfl (hb hbytes d15) rfl ?_
        refine sipushV Xl.here hexec rfl 255 (hb hbytes d17) (by decide) ?_
        refine XS.icmpYes Xl.here hexec rfl (pc0 := 20) rfl (hb hbytes d20) rfl (ii_le_t (hp i (by omega))) (by decide) rfl ?_
        refine XS.aloadN Xl.here hexec rfl (hb hbytes d26) rfl rfl ?_
        refine XS.iloadN Xl.here hexec rfl (hb hbytes d27) rfl ?_
        refine XS.iload Xl.here hexec rfl (hb hbytes d28) rfl ?_
        refine i2b Xl.here hexec rfl (hb hbytes d30) rfl ?_
        exact Steps.refl _)
      obtain ⟨T7, X7, p7, st7⟩ := Xl.aput hexec hBk rfl hlt rfl (fits_lo8 (cv A (o + i))) (g := (mkF m 31 #[.val (.ref b), .val (.int (Int32.ofNat (o + i))), .val (.ref d), .val (.int (Int32.ofNat (q + i))), .val (.int (Int32.ofNat len)), .val (.int (Int32.ofNat i)), .val (.int (cv A (o + i)))] [.int (lo8 (cv A (o + i))), .int (Int32.ofNat (q + i)), .ref d])) rfl (rest := []) rfl (hb hbytes d31)
      have c8 : Steps p.tables e below (s₁.setTop (entryFrame m #[.ref b, .int (Int32.ofNat o), .ref d, .int (Int32.ofNat q), .int (Int32.ofNat len)] 7)) (T7.setTop (mkF m 32 #[.val (.ref b), .val (.int (Int32.ofNat (o + i))), .val (.ref d), .val (.int (Int32.ofNat (q + i))), .val (.int (Int32.ofNat len)), .val (.int (Int32.ofNat i)), .val (.int (cv A (o + i)))] [])) := c6.trans (st7 _ (Steps.refl _))
      have c9 : Steps p.tables e below (s₁.setTop (entryFrame m #[.ref b, .int (Int32.ofNat o), .ref d, .int (Int32.ofNat q), .int (Int32.ofNat len)] 7)) (T7.setTop (mkF m 3 #[.val (.ref b), .val (.int (Int32.ofNat (o + i) + 1)), .val (.ref d), .val (.int (Int32.ofNat (q + i) + 1)), .val (.int (Int32.ofNat len)), .val (.int (Int32.ofNat i + 1)), .val (.int (cv A (o + i)))] [])) := c8.trans (by
        refine iincV X7.here hexec rfl 1 (hb hbytes d32) (by decide) rfl rfl ?_
        refine iincV X7.here hexec rfl 1 (hb hbytes d35) (by decide) rfl rfl ?_
        refine iincV X7.here hexec rfl 1 (hb hbytes d38) (by decide) rfl rfl ?_
        refine XS.goto X7.here hexec rfl (pc0 := 41) rfl (hb hbytes d41) (by decide) rfl ?_
        exact Steps.refl _)
      have c10 : Steps p.tables e below (s₁.setTop (entryFrame m #[.ref b, .int (Int32.ofNat o), .ref d, .int (Int32.ofNat q), .int (Int32.ofNat len)] 7)) (T7.setTop (mkF m 3 #[.val (.ref b), .val (.int (Int32.ofNat (o + (i + 1)))), .val (.ref d), .val (.int (Int32.ofNat (q + (i + 1)))), .val (.int (Int32.ofNat len)), .val (.int (Int32.ofNat (i + 1))), .val (.int (cv A (o + i)))] [])) := by
        have := c9
        rw [succ32, succ32, succ32] at this
        exact this
      exact ih (i + 1) (by omega) _ (Or.inr ⟨_, rfl, rfl⟩) T7 _ (by rw [copyLocs_step, ← List.append_assoc]; exact X7) (pl.trans p7) (fl.step (by omega) hlt (by simp)) c10
  obtain ⟨T9, B9, z9, X9, p9, f9, g9⟩ := loop len 0 (by omega) .unset (Or.inl rfl) s₁ B (by simpa [copyLocs] using X0) ⟨hB0.1, fun _ _ => rfl, rfl⟩ (Laid.zero _ _ _) c2
  have c11 : Steps p.tables e below (s₁.setTop (entryFrame m #[.ref b, .int (Int32.ofNat o), .ref d, .int (Int32.ofNat q), .int (Int32.ofNat len)] 7)) (T9.setTop (mkF m 46 #[.val (.ref b), .val (.int (Int32.ofNat (o + len))), .val (.ref d), .val (.int (Int32.ofNat (q + len))), .val (.int (Int32.ofNat len)), .val (.int (Int32.ofNat len)), z9] [.int (Int32.ofNat len)])) := g9.trans (by
    refine XS.iload X9.here hexec rfl (hb hbytes d3) rfl ?_
    refine XS.iload X9.here hexec rfl (hb hbytes d5) rfl ?_
    refine XS.icmpYes X9.here hexec rfl (pc0 := 7) rfl (hb hbytes d7) rfl (ii_ge_t (nlt32 (by omega) (Nat.le_refl _))) (by decide) rfl ?_
    refine XS.iload X9.here hexec rfl (hb hbytes d44) rfl ?_
    exact Steps.refl _)
  exact ⟨T9, some (.int (Int32.ofNat len)), _, _, _, X9, by simp, rfl, rfl, (fun h => by cases h), ⟨rfl, B9, p9.from hh0, f9⟩, fun fs hl => c11.trans (X9.ireturnOut hexec hret rfl (Or.inl rfl) (hb hbytes d46) hl)⟩
end Cmp5
namespace Cmp3
def yN : MethodName := ⟨"java/lang/StringUTF16", "compress", "([CII)[B"⟩
abbrev yB : ByteArray := jdk_52_method_16_code
theorem d0 : decode yB 0 = .ok (.iload_n 2, 1) := by decide +kernel
theorem d1 : decode yB 1 = .ok (.newarray .byte, 2) := by decide +kernel
theorem d3 : decode yB 3 = .ok (.astore_n 3, 1) := by decide +kernel
theorem d4 : decode yB 4 = .ok (.aload_n 0, 1) := by decide +kernel
theorem d5 : decode yB 5 = .ok (.iload_n 1, 1) := by decide +kernel
theorem d6 : decode yB 6 = .ok (.aload_n 3, 1) := by decide +kernel
theorem d7 : decode yB 7 = .ok (.iconst 0, 1) := by decide +kernel
theorem d8 : decode yB 8 = .ok (.iload_n 2, 1) := by decide +kernel
theorem d9 : decode yB 9 = .ok (.invokestatic 115, 3) := by decide +kernel
theorem d12 : decode yB 12 = .ok (.istore 4, 2) := by decide +kernel
theorem d14 : decode yB 14 = .ok (.iload 4, 2) := by decide +kernel
theorem d16 : decode yB 16 = .ok (.iload_n 2, 1) := by decide +kernel
theorem d17 : decode yB 17 = .ok (.if_icmp (.eq) 40, 3) := by decide +kernel
theorem d57 : decode yB 57 = .ok (.aload_n 3, 1) := by decide +kernel
theorem d58 : decode yB 58 = .ok (.areturn, 1) := by decide +kernel
def site : List Cond := [.arrayClass .byte, Cmp5.tab] ++ staticW U16 115 Cmp5.yN
def tab : Cond := tabOf yN yB 6 (some (.array .byte)) site
def P (b : Addr) (A : Cell) (o len : Nat) (args : Array Value) (s : State) : Prop := args = #[.ref b, .int (Int32.ofNat o), .int (Int32.ofNat len)] ∧ Ch b A s ∧ o + len ≤ A.slots.size ∧ len ≤ 536870912 ∧ ∀ i, i < len → ¬ 255 < cv A (o + i)
def E (b : Addr) (A : Cell) (o len : Nat) (r : Option Value) (s u : State) : Prop := NewArr .byte "[B" len (fun j => .int (lo8 (cv A (o + j)))) r s u ∧ u.heap.size = s.heap.size + 1
/-- no char of the range above 255: a new byte[] of their low bytes -/
theorem law (l : Launch) (b : Addr) (A : Cell) (o len : Nat) : Law l yN 3 3 1 18 yB 6 (some (.array .byte)) site (P b A o len) (E b A o len) [] 1 len := by
  refine Law.of_walk (plainFor_of_name (by decide +kernel)) (by decide +kernel) (by decide +kernel) (by decide) (fun _ _ h => by rw [h.1]; rfl) (fun _ U U' hal hh h => ⟨h.1, h.2.1.mv hal hh, h.2.2⟩) (fun r U U' V V' h1 hal h2 h => ⟨NewArr.mv r U U' V V' h1 hal h2 h.1, by rw [h1, h2]; exact h.2⟩) ?_
  intro p e s m args below meth c s₁ X0 hexec hbytes hml hret hlk hnm hown hh0 W hP
  obtain ⟨rfl, hA, l1, l2, hp⟩ := hP
  have a31 := hA.1.2.2.2
  have c1 : Steps p.tables e below (s₁.setTop (entryFrame m #[.ref b, .int (Int32.ofNat o), .int (Int32.ofNat len)] 6)) (s₁.setTop (mkF m 0 #[.val (.ref b), .val (.int (Int32.ofNat o)), .val (.int (Int32.ofNat len)), .unset, .unset, .unset] [])) := entry rfl
  have c2 : Steps p.tables e below (s₁.setTop (entryFrame m #[.ref b, .int (Int32.ofNat o), .int (Int32.ofNat len)] 6)) (s₁.setTop (mkF m 1 #[.val (.ref b), .val (.int (Int32.ofNat o)), .val (.int (Int32.ofNat len)), .unset, .unset, .unset] [.int (Int32.ofNat len)])) := c1.trans (by
    refine XS.iloadN X0.here hexec rfl (hb hbytes d0) rfl ?_
    exact Steps.refl _)
  obtain ⟨T3, B3, X3, ba3, bs3, bv3, bh3, bf3, st3⟩ := X0.anew hexec (atype := .byte) (wk W (.arrayClass .byte)) rfl (by show len * 1 ≤ _; omega) (by omega) (g := (mkF m 1 #[.val (.ref b), .val (.int (Int32.ofNat o)), .val (.int (Int32.ofNat len)), .unset, .unset, .unset] [.int (Int32.ofNat len)])) rfl (hb hbytes d1) (rest := []) rfl (Nat.le_refl _) (by show 0 + len ≤ len; omega)
  rw [hh0] at ba3 st3
  have kp3 : XT.Kept s T3 := (XT.Kept.of_eq hh0).push bh3
  have hA3 := hA.keep X3.warmed.alike (kp3 _ _ hA.1.1)
  have hne : b ≠ s.heap.size := hA.1.ne
  have c4 : Steps p.tables e below (s₁.setTop (entryFrame m #[.ref b, .int (Int32.ofNat o), .int (Int32.ofNat len)] 6)) (T3.setTop (mkF m 3 #[.val (.ref b), .val (.int (Int32.ofNat o)), .val (.int (Int32.ofNat len)), .unset, .unset, .unset] [.ref s.heap.size])) := c2.trans (st3 _ (Steps.refl _))
  have c5 : Steps p.tables e below (s₁.setTop (entryFrame m #[.ref b, .int (Int32.ofNat o), .int (Int32.ofNat len)] 6)) (T3.setTop (mkF m 9 #[.val (.ref b), .val (.int (Int32.ofNat o)), .val (.int (Int32.ofNat len)), .val (.ref s.heap.size), .unset, .unset] [.int (Int32.ofNat len), .int 0, .ref s.heap.size, .int (Int32.ofNat o), .ref b])) := c4.trans (by
    refine XS.astoreN X3.here hexec rfl (hb hbytes d3) rfl rfl rfl ?_
    refine XS.aloadN X3.here hexec rfl (hb hbytes d4) rfl rfl ?_
    refine XS.iloadN X3.here hexec rfl (hb hbytes d5) rfl ?_
    refine XS.aloadN X3.here hexec rfl (hb hbytes d6) rfl rfl ?_
    refine iconstV X3.here hexec rfl 0 (hb hbytes d7) (by decide) ?_
    refine XS.iloadN X3.here hexec rfl (hb hbytes d8) rfl ?_
    exact Steps.refl _)
  obtain ⟨v6, T6, X6, E6, g6⟩ := X3.callS hexec (Cmp5.law l b A s.heap.size B3 o 0 len) hown (wks W (staticW U16 115 Cmp5.yN)) (wk W Cmp5.tab) (W := 0) (Nat.le_of_ble_eq_true rfl) (Nat.le_of_ble_eq_true rfl) (Nat.le_refl _) (by show 0 + len + 0 ≤ len; omega) (g := (mkF m 9 #[.val (.ref b), .val (.int (Int32.ofNat o)), .val (.int (Int32.ofNat len)), .val (.ref s.heap.size), .unset, .unset] [.int (Int32.ofNat len), .int (Int32.ofNat 0), .ref s.heap.size, .int (Int32.ofNat o), .ref b])) rfl (by rw [hml]; rfl) c5 (argsL := [.ref b, .int (Int32.ofNat o), .ref s.heap.size, .int (Int32.ofNat 0), .int (Int32.ofNat len)]) (rest := []) rfl rfl (by show 2 * 0 + 0 ≤ _; decide) (hb hbytes d9) (⟨rfl, hA3, ba3, hne, l1, by rw [bs3]; simp, hp⟩)
  obtain ⟨rfl, B6, p6, f6⟩ := E6
  have c7 : Steps p.tables e below (s₁.setTop (entryFrame m #[.ref b, .int (Int32.ofNat o), .int (Int32.ofNat len)] 6)) (T6.setTop (mkF m 12 #[.val (.ref b), .val (.int (Int32.ofNat o)), .val (.int (Int32.ofNat len)), .val (.ref s.heap.size), .unset, .unset] [.int (Int32.ofNat len)])) := g6
  have c8 : Steps p.tables e below (s₁.setTop (entryFrame m #[.ref b, .int (Int32.ofNat o), .int (Int32.ofNat len)] 6)) (T6.setTop (mkF m 58 #[.val (.ref b), .val (.int (Int32.ofNat o)), .val (.int (Int32.ofNat len)), .val (.ref s.heap.size), .val (.int (Int32.ofNat len)), .unset] [.ref s.heap.size])) := c7.trans (by
    refine XS.istore X6.here hexec rfl (hb hbytes d12) rfl rfl ?_
    refine XS.iload X6.here hexec rfl (hb hbytes d14) rfl ?_
    refine XS.iloadN X6.here hexec rfl (hb hbytes d16) rfl ?_
    refine XS.icmpYes X6.here hexec rfl (pc0 := 17) rfl (hb hbytes d17) rfl (ii_eq_t rfl) (by decide) rfl ?_
    refine XS.aloadN X6.here hexec rfl (hb hbytes d57) rfl rfl ?_
    exact Steps.refl _)
  have X8 := X6.wide (L' := []) (cells' := 1) (slots' := len) (fun x hx hlt => by
    simp only [List.nil_append, copyLocs, List.mem_map, List.mem_range] at hx
    obtain ⟨i, -, rfl⟩ := hx
    exact absurd hlt (Nat.lt_irrefl _)) (Nat.le_refl _) (by omega)
  exact ⟨T6, some (.ref s.heap.size), _, _, _, X8, rfl, rfl, rfl, (fun h => by cases h), ⟨⟨rfl, B6, ba3.like (X3.warmed.alike.symm.trans X6.warmed.alike) p6.1 f6.1 f6.2.1 f6.2.2.1, f6.2.1.trans bv3, by rw [X6.warmed.alike.findClass, f6.1]; exact bf3, by rw [f6.2.2.1, bs3]; simp, fun j hj => by rw [f6.2.2.2 j, if_pos (by omega)]; rfl, kp3.put p6 (Nat.le_refl _)⟩, by rw [p6.2.2, bh3, hh0]; simp⟩, fun fs hl => c8.trans (X8.areturnOut hexec rfl hret rfl (hb hbytes d58) hl)⟩
end Cmp3
namespace CodL
def yN : MethodName := ⟨"java/lang/StringUTF16", "coderFromArrayLen", "([BI)B"⟩
abbrev yB : ByteArray := jdk_52_method_15_code
theorem d0 : decode yB 0 = .ok (.iload_n 1, 1) := by decide +kernel
theorem d1 : decode yB 1 = .ok (.aload_n 0, 1) := by decide +kernel
theorem d2 : decode yB 2 = .ok (.arraylength, 1) := by decide +kernel
theorem d3 : decode yB 3 = .ok (.isub, 1) := by decide +kernel
theorem d4 : decode yB 4 = .ok (.bipush 31, 2) := by decide +kernel
theorem d6 : decode yB 6 = .ok (.iushr, 1) := by decide +kernel
theorem d7 : decode yB 7 = .ok (.i2b, 1) := by decide +kernel
theorem d8 : decode yB 8 = .ok (.ireturn, 1) := by decide +kernel
def site : List Cond := []
def tab : Cond := tabOf yN yB 2 (some .byte) site
def P (d : Addr) (B : Cell) (args : Array Value) (s : State) : Prop := args = #[.ref d, .int (Int32.ofNat B.slots.size)] ∧ Arr .byte d B s
def E (r : Option Value) (s u : State) : Prop := XT.PureE (some (.int 0)) r s u
/-- an array as long as the number of chars: LATIN1 -/
theorem law (l : Launch) (d : Addr) (B : Cell) : Law l yN 2 2 0 0 yB 2 (some .byte) site (P d B) E [] 0 0 := by
  refine Law.of_walk (plainFor_of_name (by decide +kernel)) (by decide +kernel) (by decide +kernel) (by decide) (fun _ _ h => by rw [h.1]; rfl) (fun _ U U' hal hh h => ⟨h.1, h.2.mv hal hh⟩) (fun r U U' V V' h1 hal h2 h => XT.PureE.mv r U U' V V' h1 hal h2 h) ?_
  intro p e s m args below meth c s₁ X0 hexec hbytes hml hret hlk hnm hown hh0 W hP
  obtain ⟨rfl, hB⟩ := hP
  have hB0 := hB.mv X0.warmed.alike hh0
  have c1 : Steps p.tables e below (s₁.setTop (entryFrame m #[.ref d, .int (Int32.ofNat B.slots.size)] 2)) (s₁.setTop (mkF m 0 #[.val (.ref d), .val (.int (Int32.ofNat B.slots.size))] [])) := entry rfl
  have c2 : Steps p.tables e below (s₁.setTop (entryFrame m #[.ref d, .int (Int32.ofNat B.slots.size)] 2)) (s₁.setTop (mkF m 2 #[.val (.ref d), .val (.int (Int32.ofNat B.slots.size))] [.ref d, .int (Int32.ofNat B.slots.size)])) := c1.trans (by
    refine XS.iloadN X0.here hexec rfl (hb hbytes d0) rfl ?_
    refine XS.aloadN X0.here hexec rfl (hb hbytes d1) rfl rfl ?_
    exact Steps.refl _)
  have c3 : Steps p.tables e below (s₁.setTop (entryFrame m #[.ref d, .int (Int32.ofNat B.slots.size)] 2)) (s₁.setTop (mkF m 8 #[.val (.ref d), .val (.int (Int32.ofNat B.slots.size))] [.int (lo8 (ushr (Int32.ofNat B.slots.size - Int32.ofNat B.slots.size) 31))])) := c2.trans (by
    refine X0.alen hexec hB0 rfl rfl (hb hbytes d2) ?_
    refine XS.isub X0.here hexec rfl (hb hbytes d3) rfl ?_
    refine bipushV X0.here hexec rfl 31 (hb hbytes d4) (by decide) ?_
    refine iushr X0.here hexec rfl (hb hbytes d6) rfl ?_
    refine i2b X0.here hexec rfl (hb hbytes d7) rfl ?_
    exact Steps.refl _)
  have e0 : lo8 (ushr (Int32.ofNat B.slots.size - Int32.ofNat B.slots.size) 31) = 0 := by rw [Int32.sub_self]; decide
  rw [e0] at c3
  exact ⟨s₁, some (.int 0), _, _, _, X0, rfl, rfl, rfl, (fun h => by cases h), ⟨rfl, hh0⟩, fun fs hl => c3.trans (X0.ireturnOut hexec hret rfl (Or.inr (Or.inr (Or.inl rfl))) (hb hbytes d8) hl)⟩
end CodL
/-- the String at a is Latin-1 over a new byte[] (the heap's one new cell): the low bytes of the len chars of A from o on; every cell but a is kept -/
def Got (a : Addr) (D : Cell) (fV fC : Field) (A : Cell) (o len : Nat) (r : Option Value) (s u : State) : Prop := r = none ∧ ∃ D' V : Cell, Blank "java/lang/String" a D' u ∧ Same D D' [fV.slot, fC.slot] ∧ D'.slots[fV.slot]? = some (.ref s.heap.size) ∧ D'.slots[fC.slot]? = some (.int 0) ∧ Arr .byte s.heap.size V u ∧ V.vm = .none ∧ u.vm.findClass "[B" = some V.cls ∧ V.slots.size = len ∧ (∀ j, j < len → V.slots[j]? = some (.int (lo8 (cv A (o + j))))) ∧ (∀ (y : Addr) (c : Cell), y ≠ a → s.heap[y]? = some c → u.heap[y]? = some c) ∧ u.heap.size = s.heap.size + 1
theorem Got.mv {a : Addr} {D A : Cell} {fV fC : Field} {o len : Nat} : ∀ r (U U' V V' : State), U'.heap = U.heap → V.vm.Alike V'.vm → V'.heap = V.heap → Got a D fV fC A o len r U V → Got a D fV fC A o len r U' V' :=
  fun r U U' V V' h1 hal h2 ⟨e0, D', X, a1, a2, a3, a4, a5, a6, a7, a8, a9, a10, a11⟩ => ⟨e0, D', X, a1.mv hal h2, a2, by rw [h1]; exact a3, a4, by rw [h1]; exact a5.mv hal h2, a6, by rw [hal.findClass]; exact a7, a8, a9, by rw [h1, h2]; exact a10, by rw [h1, h2]; exact a11⟩
namespace New4
def yN : MethodName := ⟨"java/lang/String", "<init>", "([CIILjava/lang/Void;)V"⟩
abbrev yB : ByteArray := jdk_42_method_149_code
theorem d0 : decode yB 0 = .ok (.aload_n 0, 1) := by decide +kernel
theorem d1 : decode yB 1 = .ok (.invokespecial 1, 3) := by decide +kernel
theorem d4 : decode yB 4 = .ok (.iload_n 3, 1) := by decide +kernel
theorem d5 : decode yB 5 = .ok (.ifCond (.ne) 22, 3) := by decide +kernel
theorem d27 : decode yB 27 = .ok (.getstatic 38, 3) := by decide +kernel
theorem d30 : decode yB 30 = .ok (.ifCond (.eq) 28, 3) := by decide +kernel
theorem d33 : decode yB 33 = .ok (.aload_n 1, 1) := by decide +kernel
theorem d34 : decode yB 34 = .ok (.iload_n 2, 1) := by decide +kernel
theorem d35 : decode yB 35 = .ok (.iload_n 3, 1) := by decide +kernel
theorem d36 : decode yB 36 = .ok (.invokestatic 177, 3) := by decide +kernel
theorem d39 : decode yB 39 = .ok (.astore 5, 2) := by decide +kernel
theorem d41 : decode yB 41 = .ok (.aload_n 0, 1) := by decide +kernel
theorem d42 : decode yB 42 = .ok (.aload 5, 2) := by decide +kernel
theorem d44 : decode yB 44 = .ok (.iload_n 3, 1) := by decide +kernel
theorem d45 : decode yB 45 = .ok (.invokestatic 47, 3) := by decide +kernel
theorem d48 : decode yB 48 = .ok (.putfield 15, 3) := by decide +kernel
theorem d51 : decode yB 51 = .ok (.aload_n 0, 1) := by decide +kernel
theorem d52 : decode yB 52 = .ok (.aload 5, 2) := by decide +kernel
theorem d54 : decode yB 54 = .ok (.putfield 9, 3) := by decide +kernel
theorem d57 : decode yB 57 = .ok (.return_, 1) := by decide +kernel
def site : List Cond := [.fieldLink "java/lang/String" 38 "java/lang/String" "COMPACT_STRINGS" "Z", Cmp3.tab, CodL.tab, .laysFinal "java/lang/String" "java/lang/String" "value" "[B", .fieldLink "java/lang/String" 9 "java/lang/String" "value" "[B", .laysFinal "java/lang/String" "java/lang/String" "coder" "B", .fieldLink "java/lang/String" 15 "java/lang/String" "coder" "B"] ++ objW "java/lang/String" 1 ++ staticW "java/lang/String" 177 Cmp3.yN ++ staticW "java/lang/String" 47 CodL.yN
def tab : Cond := tabOf yN yB 6 none site
def P (a : Addr) (D : Cell) (fV fC : Field) (b : Addr) (A : Cell) (z : Int32) (o len : Nat) (args : Array Value) (s : State) : Prop := args = #[.ref a, .ref b, .int (Int32.ofNat o), .int (Int32.ofNat len), .null] ∧ Blank "java/lang/String" a D s ∧ Found "java/lang/String" "value" "[B" fV s ∧ Found "java/lang/String" "coder" "B" fC s ∧ Ch b A s ∧ StaticIs s "java/lang/String" "COMPACT_STRINGS" "Z" (.int z) ∧ ¬ z = 0 ∧ 0 < len ∧ o + len ≤ A.slots.size ∧ len ≤ 536870912 ∧ ∀ i, i < len → ¬ 255 < cv A (o + i)
def E (a : Addr) (D : Cell) (fV fC : Field) (A : Cell) (o len : Nat) (r : Option Value) (s u : State) : Prop := Got a D fV fC A o len r s u
/-- len > 0, no char of the range above 255: a Latin-1 String of their low bytes -/
theorem law (l : Launch) (a : Addr) (D : Cell) (fV fC : Field) (b : Addr) (A : Cell) (z : Int32) (o len : Nat) : Law l yN 5 4 2 35 yB 6 none site (P a D fV fC b A z o len) (E a D fV fC A o len) [⟨a, fC.slot⟩, ⟨a, fV.slot⟩] 1 len := by
  refine Law.of_walk (plainFor_of_name (by decide +kernel)) (by decide +kernel) (by decide +kernel) (by decide) (fun _ _ h => by rw [h.1]; rfl) (fun _ U U' hal hh h => ⟨h.1, h.2.1.mv hal hh, h.2.2.1.al hal, h.2.2.2.1.al hal, h.2.2.2.2.1.mv hal hh, h.2.2.2.2.2.1.there hal hh, h.2.2.2.2.2.2⟩) (fun r U U' V V' h1 hal h2 h => Got.mv r U U' V V' h1 hal h2 h) ?_
  intro p e s m args below meth c s₁ X0 hexec hbytes hml hret hlk hnm hown hh0 W hP
  obtain ⟨rfl, hB, f1, f2, hA, s1, hz, l0, l1, l2, hp⟩ := hP
  have a31 := hA.1.2.2.2
  have c1 : Steps p.tables e below (s₁.setTop (entryFrame m #[.ref a, .ref b, .int (Int32.ofNat o), .int (Int32.ofNat len), .null] 6)) (s₁.setTop (mkF m 0 #[.val (.ref a), .val (.ref b), .val (.int (Int32.ofNat o)), .val (.int (Int32.ofNat len)), .val .null, .unset] [])) := entry rfl
  have c2 : Steps p.tables e below (s₁.setTop (entryFrame m #[.ref a, .ref b, .int (Int32.ofNat o), .int (Int32.ofNat len), .null] 6)) (s₁.setTop (mkF m 1 #[.val (.ref a), .val (.ref b), .val (.int (Int32.ofNat o)), .val (.int (Int32.ofNat len)), .val .null, .unset] [.ref a])) := c1.trans (by
    refine XS.aloadN X0.here hexec rfl (hb hbytes d0) rfl rfl ?_
    exact Steps.refl _)
  obtain ⟨T3, X3, q3, st3⟩ := X0.oinit hexec hown (wks W (objW "java/lang/String" 1)) (g := (mkF m 1 #[.val (.ref a), .val (.ref b), .val (.int (Int32.ofNat o)), .val (.int (Int32.ofNat len)), .val .null, .unset] [.ref a])) rfl (by rw [hml]; rfl) (rest := []) rfl (hb hbytes d1) (W := 0) (by show 2 * 0 + 0 ≤ _; decide) (Nat.le_of_ble_eq_true rfl) (Nat.le_of_ble_eq_true rfl)
  have hh3 := q3.trans hh0
  have c4 : Steps p.tables e below (s₁.setTop (entryFrame m #[.ref a, .ref b, .int (Int32.ofNat o), .int (Int32.ofNat len), .null] 6)) (T3.setTop (mkF m 27 #[.val (.ref a), .val (.ref b), .val (.int (Int32.ofNat o)), .val (.int (Int32.ofNat len)), .val .null, .unset] [])) := (c2.trans (st3 _ (Steps.refl _))).trans (by
    refine XS.iloadN X3.here hexec rfl (hb hbytes d4) rfl ?_
    refine XS.ifYes X3.here hexec rfl (pc0 := 5) rfl (hb hbytes d5) rfl (i0_ne_t (nz32 (by omega) l0)) (by decide) rfl ?_
    exact Steps.refl _)
  obtain ⟨T5, X5, q5, st5⟩ := X3.sget hexec hown (wk W (.fieldLink "java/lang/String" 38 "java/lang/String" "COMPACT_STRINGS" "Z")) s1 (fun _ _ h => by rw [hh3]; exact h) (g := (mkF m 27 #[.val (.ref a), .val (.ref b), .val (.int (Int32.ofNat o)), .val (.int (Int32.ofNat len)), .val .null, .unset] [])) rfl (hb hbytes d27)
  have hh5 := q5.trans hh3
  have c6 : Steps p.tables e below (s₁.setTop (entryFrame m #[.ref a, .ref b, .int (Int32.ofNat o), .int (Int32.ofNat len), .null] 6)) (T5.setTop (mkF m 30 #[.val (.ref a), .val (.ref b), .val (.int (Int32.ofNat o)), .val (.int (Int32.ofNat len)), .val .null, .unset] [.int z])) := c4.trans (st5 _ (Steps.refl _))
  have c7 : Steps p.tables e below (s₁.setTop (entryFrame m #[.ref a, .ref b, .int (Int32.ofNat o), .int (Int32.ofNat len), .null] 6)) (T5.setTop (mkF m 36 #[.val (.ref a), .val (.ref b), .val (.int (Int32.ofNat o)), .val (.int (Int32.ofNat len)), .val .null, .unset] [.int (Int32.ofNat len), .int (Int32.ofNat o), .ref b])) := c6.trans (by
    refine XS.ifNo X5.here hexec rfl (hb hbytes d30) rfl (i0_eq_f hz) ?_
    refine XS.aloadN X5.here hexec rfl (hb hbytes d33) rfl rfl ?_
    refine XS.iloadN X5.here hexec rfl (hb hbytes d34) rfl ?_
    refine XS.iloadN X5.here hexec rfl (hb hbytes d35) rfl ?_
    exact Steps.refl _)
  obtain ⟨v8, T8, X8, E8, g8⟩ := X5.callS hexec (Cmp3.law l b A o len) hown (wks W (staticW "java/lang/String" 177 Cmp3.yN)) (wk W Cmp3.tab) (W := 0) (Nat.le_of_ble_eq_true rfl) (Nat.le_of_ble_eq_true rfl) (Nat.le_refl _) (by show 0 + len ≤ len; omega) (g := (mkF m 36 #[.val (.ref a), .val (.ref b), .val (.int (Int32.ofNat o)), .val (.int (Int32.ofNat len)), .val .null, .unset] [.int (Int32.ofNat len), .int (Int32.ofNat o), .ref b])) rfl (by rw [hml]; rfl) c7 (argsL := [.ref b, .int (Int32.ofNat o), .int (Int32.ofNat len)]) (rest := []) rfl rfl (by show 2 * 0 + 0 ≤ _; decide) (hb hbytes d36) (⟨rfl, hA.mv X5.warmed.alike hh5, l1, l2, hp⟩)
  obtain ⟨e8, z8⟩ := E8
  obtain ⟨rfl, N, n1, n2, n3, n4, n5, n6⟩ := NewArr.mv _ T5 s _ _ hh5.symm (Vm.Alike.refl _) rfl e8
  rw [hh5] at z8
  have hB1 := hB.keep X8.warmed.alike (n6 _ _ hB.1)
  have hne : s.heap.size ≠ a := (Nat.ne_of_lt (Array.getElem?_eq_some_iff.mp hB.1).1).symm
  have c9 : Steps p.tables e below (s₁.setTop (entryFrame m #[.ref a, .ref b, .int (Int32.ofNat o), .int (Int32.ofNat len), .null] 6)) (T8.setTop (mkF m 39 #[.val (.ref a), .val (.ref b), .val (.int (Int32.ofNat o)), .val (.int (Int32.ofNat len)), .val .null, .unset] [.ref s.heap.size])) := g8
  have c10 : Steps p.tables e below (s₁.setTop (entryFrame m #[.ref a, .ref b, .int (Int32.ofNat o), .int (Int32.ofNat len), .null] 6)) (T8.setTop (mkF m 45 #[.val (.ref a), .val (.ref b), .val (.int (Int32.ofNat o)), .val (.int (Int32.ofNat len)), .val .null, .val (.ref s.heap.size)] [.int (Int32.ofNat N.slots.size), .ref s.heap.size, .ref a])) := by
    have hc : Steps p.tables e below (s₁.setTop (entryFrame m #[.ref a, .ref b, .int (Int32.ofNat o), .int (Int32.ofNat len), .null] 6)) (T8.setTop (mkF m 45 #[.val (.ref a), .val (.ref b), .val (.int (Int32.ofNat o)), .val (.int (Int32.ofNat len)), .val .null, .val (.ref s.heap.size)] [.int (Int32.ofNat len), .ref s.heap.size, .ref a])) := c9.trans (by
      refine XS.astore X8.here hexec rfl (hb hbytes d39) rfl rfl rfl ?_
      refine XS.aloadN X8.here hexec rfl (hb hbytes d41) rfl rfl ?_
      refine XS.aload X8.here hexec rfl (hb hbytes d42) rfl rfl ?_
      refine XS.iloadN X8.here hexec rfl (hb hbytes d44) rfl ?_
      exact Steps.refl _)
    rw [n4]; exact hc
  obtain ⟨v11, T11, X11, E11, g11⟩ := X8.callS hexec (CodL.law l s.heap.size N) hown (wks W (staticW "java/lang/String" 47 CodL.yN)) (wk W CodL.tab) (W := 1) (Nat.le_of_ble_eq_true rfl) (Nat.le_of_ble_eq_true rfl) (Nat.le_refl _) (by show 0 + len + 0 ≤ len; omega) (g := (mkF m 45 #[.val (.ref a), .val (.ref b), .val (.int (Int32.ofNat o)), .val (.int (Int32.ofNat len)), .val .null, .val (.ref s.heap.size)] [.int (Int32.ofNat N.slots.size), .ref s.heap.size, .ref a])) rfl (by rw [hml]; rfl) c10 (argsL := [.ref s.heap.size, .int (Int32.ofNat N.slots.size)]) (rest := [.ref a]) rfl rfl (by show 2 * 0 + (1 + 0) ≤ _; decide) (hb hbytes d45) (⟨rfl, n1⟩)
  obtain ⟨rfl, q11⟩ := E11
  have hB11 := hB1.mv (X8.warmed.alike.symm.trans X11.warmed.alike) q11
  have c12 : Steps p.tables e below (s₁.setTop (entryFrame m #[.ref a, .ref b, .int (Int32.ofNat o), .int (Int32.ofNat len), .null] 6)) (T11.setTop (mkF m 48 #[.val (.ref a), .val (.ref b), .val (.int (Int32.ofNat o)), .val (.int (Int32.ofNat len)), .val .null, .val (.ref s.heap.size)] [.int 0, .ref a])) := g11
  obtain ⟨T13, X13, p13, bl13, sl13, st13⟩ := X11.finit hexec hown (wk W (.fieldLink "java/lang/String" 15 "java/lang/String" "coder" "B")) (Or.inr ⟨_, (wk W (.laysFinal "java/lang/String" "java/lang/String" "coder" "B"))⟩) (Or.inl ⟨rfl, hnm⟩) f2 (Or.inl rfl) hB11 (t := .byte) (by decide +kernel) rfl (g := (mkF m 48 #[.val (.ref a), .val (.ref b), .val (.int (Int32.ofNat o)), .val (.int (Int32.ofNat len)), .val .null, .val (.ref s.heap.size)] [.int 0, .ref a])) rfl (rest := []) rfl (hb hbytes d48)
  have c14 : Steps p.tables e below (s₁.setTop (entryFrame m #[.ref a, .ref b, .int (Int32.ofNat o), .int (Int32.ofNat len), .null] 6)) (T13.setTop (mkF m 54 #[.val (.ref a), .val (.ref b), .val (.int (Int32.ofNat o)), .val (.int (Int32.ofNat len)), .val .null, .val (.ref s.heap.size)] [.ref s.heap.size, .ref a])) := (c12.trans (st13 _ (Steps.refl _))).trans (by
    refine XS.aloadN X13.here hexec rfl (hb hbytes d51) rfl rfl ?_
    refine XS.aload X13.here hexec rfl (hb hbytes d52) rfl rfl ?_
    exact Steps.refl _)
  obtain ⟨T15, X15, p15, bl15, sl15, st15⟩ := X13.finit hexec hown (wk W (.fieldLink "java/lang/String" 9 "java/lang/String" "value" "[B")) (Or.inr ⟨_, (wk W (.laysFinal "java/lang/String" "java/lang/String" "value" "[B"))⟩) (Or.inl ⟨rfl, hnm⟩) f1 (Or.inl rfl) bl13 (t := (.array .byte)) (by decide +kernel) rfl (g := (mkF m 54 #[.val (.ref a), .val (.ref b), .val (.int (Int32.ofNat o)), .val (.int (Int32.ofNat len)), .val .null, .val (.ref s.heap.size)] [.ref s.heap.size, .ref a])) rfl (rest := []) rfl (hb hbytes d54)
  have c16 : Steps p.tables e below (s₁.setTop (entryFrame m #[.ref a, .ref b, .int (Int32.ofNat o), .int (Int32.ofNat len), .null] 6)) (T15.setTop (mkF m 57 #[.val (.ref a), .val (.ref b), .val (.int (Int32.ofNat o)), .val (.int (Int32.ofNat len)), .val .null, .val (.ref s.heap.size)] [])) := c14.trans (st15 _ (Steps.refl _))
  have ap := apart (Or.inr ⟨_, (wk W (.laysFinal "java/lang/String" "java/lang/String" "value" "[B"))⟩) (Or.inr ⟨_, (wk W (.laysFinal "java/lang/String" "java/lang/String" "coder" "B"))⟩) f1 f2 (t₁ := .array .byte) (t₂ := .byte) (by decide +kernel) (by decide +kernel) (by decide)
  have al := X8.warmed.alike.symm.trans X15.warmed.alike
  have n7 : T11.heap[s.heap.size]? = some N := by rw [q11]; exact n1.1
  exact ⟨T15, none, _, _, _, X15, by simp, rfl, by omega, (fun _ => rfl), ⟨rfl, _, N, bl15, ((Same.refl D _).set _ (by simp)).set _ (by simp), sl15, (Cell.slots_setSlot_ne _ ap).trans sl13, n1.keep al (p15.other hne (p13.other hne n7)), n2, by rw [al.findClass]; exact n3, n4, n5, fun y c h1 h2 => p15.other h1 (p13.other h1 (by rw [q11]; exact n6 y c h2)), by rw [p15.2.2, p13.2.2, q11]; exact z8⟩, fun fs hl => c16.trans (X15.returnOut hexec hret (hb hbytes d57) hl)⟩
end New4
namespace New1
def yN : MethodName := ⟨"java/lang/String", "<init>", "([C)V"⟩
abbrev yB : ByteArray := jdk_42_method_3_code
theorem d0 : decode yB 0 = .ok (.aload_n 0, 1) := by decide +kernel
theorem d1 : decode yB 1 = .ok (.aload_n 1, 1) := by decide +kernel
theorem d2 : decode yB 2 = .ok (.iconst 0, 1) := by decide +kernel
theorem d3 : decode yB 3 = .ok (.aload_n 1, 1) := by decide +kernel
theorem d4 : decode yB 4 = .ok (.arraylength, 1) := by decide +kernel
theorem d5 : decode yB 5 = .ok (.aconst_null, 1) := by decide +kernel
theorem d6 : decode yB 6 = .ok (.invokespecial 27, 3) := by decide +kernel
theorem d9 : decode yB 9 = .ok (.return_, 1) := by decide +kernel
def site : List Cond := [New4.tab] ++ initW "java/lang/String" 27 New4.yN
def tab : Cond := tabOf yN yB 2 none site
def P (a : Addr) (D : Cell) (fV fC : Field) (b : Addr) (A : Cell) (z : Int32) (args : Array Value) (s : State) : Prop := args = #[.ref a, .ref b] ∧ Blank "java/lang/String" a D s ∧ Found "java/lang/String" "value" "[B" fV s ∧ Found "java/lang/String" "coder" "B" fC s ∧ Ch b A s ∧ StaticIs s "java/lang/String" "COMPACT_STRINGS" "Z" (.int z) ∧ ¬ z = 0 ∧ 0 < A.slots.size ∧ A.slots.size ≤ 536870912 ∧ ∀ i, i < A.slots.size → ¬ 255 < cv A i
def E (a : Addr) (D : Cell) (fV fC : Field) (A : Cell) (r : Option Value) (s u : State) : Prop := Got a D fV fC A 0 A.slots.size r s u
/-- new String(chars), not empty, no char above 255: a Latin-1 String of their low bytes -/
theorem law (l : Launch) (a : Addr) (D : Cell) (fV fC : Field) (b : Addr) (A : Cell) (z : Int32) : Law l yN 2 1 3 52 yB 2 none site (P a D fV fC b A z) (E a D fV fC A) [⟨a, fC.slot⟩, ⟨a, fV.slot⟩] 1 A.slots.size := by
  refine Law.of_walk (plainFor_of_name (by decide +kernel)) (by decide +kernel) (by decide +kernel) (by decide) (fun _ _ h => by rw [h.1]; rfl) (fun _ U U' hal hh h => ⟨h.1, h.2.1.mv hal hh, h.2.2.1.al hal, h.2.2.2.1.al hal, h.2.2.2.2.1.mv hal hh, h.2.2.2.2.2.1.there hal hh, h.2.2.2.2.2.2⟩) (fun r U U' V V' h1 hal h2 h => Got.mv r U U' V V' h1 hal h2 h) ?_
  intro p e s m args below meth c s₁ X0 hexec hbytes hml hret hlk hnm hown hh0 W hP
  obtain ⟨rfl, hB, f1, f2, hA, s1, hz, l0, l2, hp⟩ := hP
  have c1 : Steps p.tables e below (s₁.setTop (entryFrame m #[.ref a, .ref b] 2)) (s₁.setTop (mkF m 0 #[.val (.ref a), .val (.ref b)] [])) := entry rfl
  have c2 : Steps p.tables e below (s₁.setTop (entryFrame m #[.ref a, .ref b] 2)) (s₁.setTop (mkF m 6 #[.val (.ref a), .val (.ref b)] [.null, .int (Int32.ofNat A.slots.size), .int 0, .ref b, .ref a])) := c1.trans (by
    refine XS.aloadN X0.here hexec rfl (hb hbytes d0) rfl rfl ?_
    refine XS.aloadN X0.here hexec rfl (hb hbytes d1) rfl rfl ?_
    refine iconstV X0.here hexec rfl 0 (hb hbytes d2) (by decide) ?_
    refine XS.aloadN X0.here hexec rfl (hb hbytes d3) rfl rfl ?_
    refine X0.alen hexec (hA.1.mv X0.warmed.alike hh0) rfl rfl (hb hbytes d4) ?_
    refine XS.aconstNull X0.here hexec rfl (hb hbytes d5) ?_
    exact Steps.refl _)
  obtain ⟨v3, T3, X3, E3, g3⟩ := X0.callN hexec (New4.law l a D fV fC b A z 0 A.slots.size) rfl hown (wks W (initW "java/lang/String" 27 New4.yN)) (W New4.tab (by simp only [site, List.mem_cons, List.mem_append, true_or, or_true])) (W := 0) (Nat.le_of_ble_eq_true rfl) (Nat.le_of_ble_eq_true rfl) (Nat.le_refl _) (by show 0 + A.slots.size ≤ A.slots.size; omega) (g := (mkF m 6 #[.val (.ref a), .val (.ref b)] [.null, .int (Int32.ofNat A.slots.size), .int (Int32.ofNat 0), .ref b, .ref a])) rfl (by rw [hml]; rfl) c2 (argsL := [.ref b, .int (Int32.ofNat 0), .int (Int32.ofNat A.slots.size), .null]) (rest := []) rfl rfl (by show 2 * 0 + 0 ≤ _; decide) (hb hbytes d6) (⟨rfl, hB.mv X0.warmed.alike hh0, f1.al X0.warmed.alike, f2.al X0.warmed.alike, hA.mv X0.warmed.alike hh0, s1.there X0.warmed.alike hh0, hz, l0, by omega, l2, fun i hi => by rw [Nat.zero_add]; exact hp i hi⟩)
  have e0 := Got.mv _ s₁ s _ _ hh0.symm (Vm.Alike.refl _) rfl E3
  obtain rfl := e0.1
  have c4 : Steps p.tables e below (s₁.setTop (entryFrame m #[.ref a, .ref b] 2)) (T3.setTop (mkF m 9 #[.val (.ref a), .val (.ref b)] [])) := g3
  exact ⟨T3, none, _, _, _, X3, by simp, rfl, by omega, (fun _ => rfl), e0, fun fs hl => c4.trans (X3.returnOut hexec hret (hb hbytes d9) hl)⟩
theorem pays {l : Launch} {R : Room} {p : Program} {e : Env} {below : List Frame} {s : State} {sargs : Array Value} {len W : Nat} (a : Addr) (D : Cell) (fV fC : Field) (b : Addr) (A : Cell) (z : Int32) (htab : tab.before sargs s = true) (hfr : 4 ≤ R.frames) (hlo : W + 65 ≤ R.locals) :
    Back l R p e below s sargs yN len W (fun A₁ a₁ => A₁.cells + 1 ≤ R.cells ∧ A₁.slots + A.slots.size ≤ R.slots ∧ P a D fV fC b A z a₁ A₁.U) (fun A₁ _ v₁ B₁ => E a D fV fC A v₁ A₁.U B₁.U ∧ B₁.locs = A₁.locs ++ [⟨a, fC.slot⟩, ⟨a, fV.slot⟩] ∧ B₁.cells = A₁.cells + 1 ∧ B₁.slots = A₁.slots + A.slots.size) :=
  (law l a D fV fC b A z).pays htab hfr (by omega)
end New1
/-- the byte, read back as charAt reads it, is the char -/
theorem lo8_mask {x : Int32} (h0 : ¬ x < 0) (h1 : ¬ 255 < x) : lo8 x &&& 255 = x := by
  have t : ∀ k : Fin 256, lo8 (Int32.ofNat k.val) &&& 255 = Int32.ofNat k.val := by decide +kernel
  rw [Int32.lt_iff_toInt_lt] at h0 h1
  have e0 : (0 : Int32).toInt = 0 := rfl
  have e1 : (255 : Int32).toInt = 255 := rfl
  obtain ⟨k, hk⟩ : ∃ k : Nat, x.toInt = k := ⟨x.toInt.toNat, by omega⟩
  have hx : x = Int32.ofNat k := Int32.toInt_inj.mp (by rw [hk, Int32.toInt_ofNat_small (by omega)])
  rw [hx]
  exact t ⟨k, by omega⟩
end StrChars
namespace StrChars.Road
open Jvm Sem ClassFile Op Lib Jvm.Stand Jvm.Free Jvm.Free.XT
open Jvm.Lib.Cold (StaticIs)
abbrev ST : String := "java/lang/String"
/-- every table word that New1's law asks, flat -/
abbrev words : List Jvm.Cond := [.code New1.yN New1.yB 2 none, .initialized ST, .methodLink ST 27 New4.yN, .instanceMethod New4.yN,
  .code New4.yN New4.yB 6 none, .fieldLink ST 38 ST "COMPACT_STRINGS" "Z", .laysFinal ST ST "value" "[B", .fieldLink ST 9 ST "value" "[B", .laysFinal ST ST "coder" "B", .fieldLink ST 15 ST "coder" "B",
  .methodLink ST 1 Lib.objectInit, .instanceMethod Lib.objectInit, .code Lib.objectInit ⟨#[0xb1]⟩ 1 none, .methodLink ST 177 Cmp3.yN, .static Cmp3.yN, .methodLink ST 47 CodL.yN, .static CodL.yN,
  .code Cmp3.yN Cmp3.yB 6 (some (.array .byte)), .initialized U16, .arrayClass .byte, .methodLink U16 115 Cmp5.yN, .static Cmp5.yN, .code Cmp5.yN Cmp5.yB 7 (some .int), .code CodL.yN CodL.yB 2 (some .byte)]
theorem tab_of {a : Array Value} {s : State} (h : ∀ w ∈ words, w.before a s = true) : New1.tab.before a s = true := by
  have h5 : Cmp5.tab.before a s = true := unparts (wk h (.code Cmp5.yN Cmp5.yB 7 (some .int))) (wks h (.initialized Cmp5.yN.cls :: Cmp5.site))
  have hc : CodL.tab.before a s = true := unparts (wk h (.code CodL.yN CodL.yB 2 (some .byte))) (wks h (.initialized CodL.yN.cls :: CodL.site))
  have q5 : ∀ w ∈ Cmp5.tab :: words, w.before a s = true := fun w hw => (List.mem_cons.mp hw).elim (fun e => e ▸ h5) (h w)
  have h3 : Cmp3.tab.before a s = true := unparts (wk q5 (.code Cmp3.yN Cmp3.yB 6 (some (.array .byte)))) (wks q5 (.initialized Cmp3.yN.cls :: Cmp3.site))
  have q3 : ∀ w ∈ Cmp3.tab :: CodL.tab :: words, w.before a s = true := fun w hw => (List.mem_cons.mp hw).elim (fun e => e ▸ h3) fun hw => (List.mem_cons.mp hw).elim (fun e => e ▸ hc) (h w)
  have h4 : New4.tab.before a s = true := unparts (wk q3 (.code New4.yN New4.yB 6 none)) (wks q3 (.initialized New4.yN.cls :: New4.site))
  have q4 : ∀ w ∈ New4.tab :: words, w.before a s = true := fun w hw => (List.mem_cons.mp hw).elim (fun e => e ▸ h4) (h w)
  exact unparts (wk q4 (.code New1.yN New1.yB 2 none)) (wks q4 (.initialized New1.yN.cls :: New1.site))
/-- the words ride from the start Z to the walk's own state -/
theorem moved {Z s : State} {a0 args : Array Value} (hZ : Z.Warmed39 s.vm) (hw : ∀ d ∈ words, d.before a0 Z = true) : ∀ d ∈ words, d.before args s = true := fun d hd => by
  have q := hw d hd
  have t : ∀ d ∈ words, d = .arrayClass .byte ∨ (d.onTables && d.keepsFace) = true := by decide +kernel
  rcases t d hd with rfl | t
  · exact RoadKit.mvA hZ q
  · exact RoadKit.mv hZ q t
/-- WHAT COMES BACK, over the tables of the start Z: h the heap at the call, h' behind it -/
def Q (Z : State) (x : Addr) (A : Cell) (h : Heap) (v : Option Value) (h' : Heap) (L : List Loc) : Prop := v = none ∧ (∀ y ∈ L, y.base = x) ∧ RoadKit.Keep h h' [x] ∧ h'.size = h.size + 1 ∧ RoadKit.Exa Z h' x ST ∧ RoadKit.Fld Z h' x ST "value" "[B" (.ref h.size) ∧ RoadKit.Fld Z h' x ST "coder" "B" (.int 0) ∧
  (∃ V : Cell, RoadKit.Arr Z h' h.size V .byte ∧ V.vm = .none ∧ Z.vm.findClass "[B" = some V.cls ∧ V.slots.size = A.slots.size ∧ ∀ j, j < A.slots.size → V.slots[j]? = some (.int (lo8 (cv A j)))) ∧
  ∀ (O n d : String) (w : Value), RoadKit.Fld Z h x O n d w → RoadKit.slotOf Z O n d ≠ RoadKit.slotOf Z ST "value" "[B" → RoadKit.slotOf Z O n d ≠ RoadKit.slotOf Z ST "coder" "B" → RoadKit.Fld Z h' x O n d w
/-- **new String(chars) AT A CALL, IN THE ROAD'S FORM**: for specialBack behind newO: x the fresh String, b the char[] with the cell A -/
theorem back {p : Program} {l : Launch} {e : Env} {R : Room} {s : State} {args : Array Value} {below : List Frame} {len W : Nat} {Z : State} {a0 : Array Value} {h : Heap} (hZ : Z.Warmed39 s.vm) (hw : ∀ d ∈ words, d.before a0 Z = true) {kI : Nat} (wi : (Jvm.Cond.instantiable ST kI).before a0 Z = true)
    {x b : Addr} {A : Cell} {z : Int32} {v0 c0 : Value} (E : RoadKit.Exa Z h x ST) (V : RoadKit.Fld Z h x ST "value" "[B" v0) (C : RoadKit.Fld Z h x ST "coder" "B" c0) (K : RoadKit.Arr Z h b A .char) (hty : Typed .char A) (S : RoadKit.Sta Z h ST "COMPACT_STRINGS" "Z" (.int z)) (hz : ¬ z = 0)
    (l0 : 0 < A.slots.size) (l2 : A.slots.size ≤ 536870912) (hp : ∀ i, i < A.slots.size → ¬ 255 < cv A i) (hfr : 4 ≤ R.frames) (hlo : W + 65 ≤ R.locals) :
    Back l R p e below s args New1.yN len W (fun P a => a = #[.ref x, .ref b] ∧ P.U.heap = h ∧ P.cells + 1 ≤ R.cells ∧ P.slots + A.slots.size ≤ R.slots)
      (fun P _ v B => ∃ L, Q Z x A h v B.U.heap L ∧ B.locs = P.locs ++ L ∧ B.cells = P.cells + 1 ∧ B.slots = P.slots + A.slots.size) := by
  intro m meth c P g ig mk a X hg hsize hdg hW hn hp'
  obtain ⟨rfl, rfl, r1, r2⟩ := hp'
  have al : Z.vm.Alike P.U.vm := hZ.alike.trans X.warmed.alike
  obtain ⟨D, cfV, kV, iV, fV, hD, gV, stV, knV, obV, asV, slV⟩ := id V
  obtain ⟨D', cfC, kC, iC, fC, hD', gC, stC, -, -, asC, slC⟩ := id C
  cases hD.symm.trans hD'
  obtain ⟨D2, kD, e1, e2, e3, e4, e5⟩ := id E
  cases hD.symm.trans e1
  obtain ⟨c2, k2, i1, i2, i3, -⟩ := Cond.instantiable_spec wi
  cases e2.symm.trans i1
  cases e3.symm.trans i2
  obtain ⟨kU, u1, u2⟩ := al.2.2 _ _ e3
  have hB : Blank ST x D P.U := ⟨hD, ⟨knV, fun q hq => by rw [hq] at obV; cases obV⟩, by rw [al.findClass]; exact e2, kU, u1, by rw [u2]; exact i3, by rw [u2]; exact e5 i3⟩
  have F1 : Found ST "value" "[B" fV P.U := ⟨SBG.found_only al ⟨cfV, kV, iV, gV⟩, stV⟩
  have F2 : Found ST "coder" "B" fC P.U := ⟨SBG.found_only al ⟨cfC, kC, iC, gC⟩, stC⟩
  have hA : Ch b A P.U := ⟨⟨K.1, State.isArrayOf_alike al K.2.1, K.2.2, by omega⟩, hty⟩
  have hS : StaticIs P.U ST "COMPACT_STRINGS" "Z" (.int z) := by
    obtain ⟨cfS, iS, kS, fS, st, cS, t1, t2, t3, t4, t5, t6, t7⟩ := S
    exact StaticIs.there (s := { Z with heap := P.U.heap }) ⟨cfS, iS, kS, fS, st, cS, t1, t2, t3, t4, t5, (fun q => by rw [q] at t6; cases t6), t7⟩ al rfl
  obtain ⟨v, B, X', ⟨⟨hv, E', V', q1, q2, q3, q4, q5, q6, q7, q8, q9, q10, q11⟩, hl, hc, hs⟩, st⟩ := New1.pays x D fV fC b A z (tab_of (moved hZ hw)) hfr hlo m meth c P g ig mk _ X hg hsize hdg hW hn ⟨r1, r2, rfl, hB, F1, F2, hA, hS, hz, l0, l2, hp⟩
  have al' : Z.vm.Alike B.U.vm := hZ.alike.trans X'.warmed.alike
  have hsz : E'.slots.size = D.slots.size := by
    obtain ⟨-, -, -, kB, w1, w2, w3⟩ := q1
    obtain ⟨kB', y1, y2⟩ := al'.2.2 _ _ e3
    rw [q2.2.1] at w1
    cases w1.symm.trans y1
    rw [w3, e5 i3, y2]
  refine ⟨v, B, X', ⟨_, ⟨hv, ?_, ⟨by omega, fun y cy hy hn' => q10 y cy (by simpa using hn') hy, fun y cy hy => ?_⟩, q11, ⟨E', _, q1.1, by rw [q2.2.1]; exact e2, by rw [q2.2.1]; exact e3, by rw [q2.1]; exact obV, fun _ => by rw [hsz]; exact e5 i3⟩,
    ⟨E', cfV, kV, iV, fV, q1.1, gV, stV, by rw [q2.1]; exact knV, by rw [q2.1]; exact obV, by rw [q2.2.1]; exact asV, q3⟩, ⟨E', cfC, kC, iC, fC, q1.1, gC, stC, by rw [q2.1]; exact knV, by rw [q2.1]; exact obV, by rw [q2.2.1]; exact asC, q4⟩,
    ⟨V', ⟨q5.1, State.isArrayOf_alike al'.symm q5.2.1, q5.2.2.1⟩, q6, by rw [← al'.findClass]; exact q7, q8, fun j hj => by have := q9 j hj; rwa [Nat.zero_add] at this⟩, fun O n d w F n1 n2 => ?_⟩, hl, hc, hs⟩, st⟩
  · intro y hy
    simp only [List.mem_cons, List.not_mem_nil, or_false] at hy
    rcases hy with rfl | rfl <;> rfl
  · by_cases q : y = x
    · subst q
      cases hD.symm.trans hy
      exact ⟨E', q1.1, q2.2.1, q2.1, hsz⟩
    · exact ⟨cy, q10 y cy q hy, rfl, rfl, rfl⟩
  · obtain ⟨D3, cf, k, i, f, g1, g2, g3, g4, g5, g6, g7⟩ := F
    cases hD.symm.trans g1
    simp only [RoadKit.slotOf, g2, gV, gC, Option.map_some, Option.getD_some] at n1 n2
    exact ⟨E', cf, k, i, f, q1.1, g2, g3, by rw [q2.1]; exact g4, by rw [q2.1]; exact g5, by rw [q2.2.1]; exact g6, by rw [q2.2.2 f.slot (by simp [n1, n2])]; exact g7⟩
end StrChars.Road
namespace StrChars.Road
open Jvm Sem ClassFile Op Lib Jvm.Stand Jvm.Free Jvm.Free.XT
/-- WHAT COMES BACK, the byte[] as a list of values -/
def QA (Z : State) (x : Addr) (zn : Int32) (cs : List Int32) (h : Heap) (v : Option Value) (h' : Heap) (L : List Loc) : Prop := v = none ∧ (∀ y ∈ L, y.base = x) ∧ RoadKit.Keep h h' [x] ∧ h'.size = h.size + 1 ∧ RoadKit.Exa Z h' x ST ∧ RoadKit.Fld Z h' x ST "value" "[B" (.ref h.size) ∧ RoadKit.Fld Z h' x ST "coder" "B" (.int 0) ∧
  (∃ kb, Z.vm.findClass "[B" = some kb ∧ RoadKit.Arv Z h' h.size kb .byte zn (cs.map fun c => .int (lo8 c)) (.int 0)) ∧
  ∀ (O n d : String) (w : Value), RoadKit.Fld Z h x O n d w → RoadKit.slotOf Z O n d ≠ RoadKit.slotOf Z ST "value" "[B" → RoadKit.slotOf Z O n d ≠ RoadKit.slotOf Z ST "coder" "B" → RoadKit.Fld Z h' x O n d w
/-- **new String(chars) AT A CALL, THE ARRAYS AS LISTS**: the char[] at b holds cs, not empty, no char above 255 -/
theorem backArv {p : Program} {l : Launch} {e : Env} {R : Room} {s : State} {args : Array Value} {below : List Frame} {len W : Nat} {Z : State} {a0 : Array Value} {h : Heap} (hZ : Z.Warmed39 s.vm) (hw : ∀ d ∈ words, d.before a0 Z = true) {kI : Nat} (wi : (Jvm.Cond.instantiable ST kI).before a0 Z = true)
    {x b : Addr} {k : ClassId} {zn z : Int32} {cs : List Int32} {dv v0 c0 : Value} (E : RoadKit.Exa Z h x ST) (V : RoadKit.Fld Z h x ST "value" "[B" v0) (C : RoadKit.Fld Z h x ST "coder" "B" c0) (K : RoadKit.Arv Z h b k .char zn (cs.map Value.int) dv) (S : RoadKit.Sta Z h ST "COMPACT_STRINGS" "Z" (.int z)) (hz : ¬ z = 0)
    (hlen : zn.toNatClampNeg = cs.length) (h0 : 0 < cs.length) (hbig : cs.length ≤ 536870912) (hall : ∀ c ∈ cs, ¬ 255 < c) (hfr : 4 ≤ R.frames) (hlo : W + 65 ≤ R.locals) :
    Back l R p e below s args New1.yN len W (fun P a => a = #[.ref x, .ref b] ∧ P.U.heap = h ∧ P.cells + 1 ≤ R.cells ∧ P.slots + cs.length ≤ R.slots)
      (fun P _ v B => ∃ L, QA Z x zn cs h v B.U.heap L ∧ B.locs = P.locs ++ L ∧ B.cells = P.cells + 1 ∧ B.slots = P.slots + cs.length) := by
  obtain ⟨A, K1, K2, K3, K4, K5, K6⟩ := K
  have e : A.slots.size = cs.length := K3.trans hlen
  have hat : ∀ (i : Nat) (hi : i < cs.length), A.slots[i]? = some (.int cs[i]) := fun i hi => by rw [K5 i (by omega)]; simp [List.getD_eq_getElem?_getD, hi]
  have hcv : ∀ (i : Nat) (hi : i < cs.length), cv A i = cs[i] := fun i hi => by unfold cv; rw [hat i hi]
  have hty : Typed .char A := fun i v hv => by
    have hi : i < A.slots.size := (Array.getElem?_eq_some_iff.mp hv).1
    have q := K5 i hi
    rw [hv] at q
    rw [Option.some.inj q]
    exact K6 i hi
  refine Back.mono (back hZ hw wi E V C K1 hty S hz (by omega) (by omega) (fun i hi => by rw [hcv i (by omega)]; exact hall _ (List.getElem_mem _)) hfr hlo) (fun P a hp => ⟨hp.1, hp.2.1, hp.2.2.1, by rw [e]; exact hp.2.2.2⟩) (fun P a v B hp hq => ?_)
  obtain ⟨L, ⟨q1, q2, q3, q4, q5, q6, q7, ⟨V', v1, v2, v3, v4, v5⟩, q9⟩, hl, hc, hs⟩ := hq
  refine ⟨L, ⟨q1, q2, q3, q4, q5, q6, q7, ⟨V'.cls, v3, V', v1, rfl, by rw [v4, e, hlen], K4, fun i hi => ?_, fun i hi => ?_⟩, q9⟩, hl, hc, by rw [hs, e]⟩
  · have hi' : i < cs.length := by omega
    rw [v5 i (by omega), hcv i hi']; simp [List.getD_eq_getElem?_getD, hi']
  · have hi' : i < cs.length := by omega
    simp only [List.getD_eq_getElem?_getD, List.getElem?_map, List.getElem?_eq_getElem hi', Option.map_some, Option.getD_some]
    exact fits_lo8 _
end StrChars.Road
namespace StrChars.Road
open Jvm Sem ClassFile Op Lib Jvm.Stand Jvm.Free Jvm.Free.XT
/-- WHAT COMES BACK, in the writer's own shape -/
def QV (Z : State) (x : Addr) (N : Int32) (bs : List Int32) (h : Heap) (n0 : Nat) (v : Option Value) (h' : Heap) (L : List Loc) : Prop := v = none ∧ RoadKit.Fr n0 L ∧ RoadKit.Keep h h' [x] ∧ RoadKit.Exa Z h' x ST ∧ RoadKit.Fld Z h' x ST "coder" "B" (.int 0) ∧
  ∃ (t : Addr) (kb : ClassId), n0 ≤ t ∧ h.size ≤ t ∧ ¬ t = x ∧ RoadKit.Fld Z h' x ST "value" "[B" (.ref t) ∧ RoadKit.Arv Z h' t kb .byte N (bs.map Value.int) (.int 0)
/-- **new String(chars) AT A CALL, FOR THE WRITER**: a char[] of n known ints, each 0 to 255 -/
theorem backV {p : Program} {l : Launch} {e : Env} {R : Room} {s : State} {args : Array Value} {below : List Frame} {len W : Nat} {Z : State} {a0 : Array Value} {h : Heap} (hZ : Z.Warmed39 s.vm) (hw : ∀ d ∈ words, d.before a0 Z = true) {kI : Nat} (wi : (Jvm.Cond.instantiable ST kI).before a0 Z = true)
    {x b : Addr} {kC : ClassId} {cs bs : List Int32} {d v0 c0 : Value} {z N : Int32} {n n0 : Nat} (hx0 : n0 ≤ x) (hh0 : n0 ≤ h.size) (E : RoadKit.Exa Z h x ST) (V : RoadKit.Fld Z h x ST "value" "[B" v0) (C : RoadKit.Fld Z h x ST "coder" "B" c0) (K : RoadKit.Arv Z h b kC .char N (cs.map Value.int) d) (S : RoadKit.Sta Z h ST "COMPACT_STRINGS" "Z" (.int z)) (hz : ¬ z = 0)
    (hn : cs.length = n) (hN : N = Int32.ofNat n) (l0 : 0 < n) (l2 : n ≤ 4000) (hp : ∀ c ∈ cs, ¬ c < 0 ∧ ¬ (255 : Int32) < c) (hb : bs = cs.map (fun c => c.toInt8.toInt32)) (hfr : 4 ≤ R.frames) (hlo : W + 65 ≤ R.locals) :
    Back l R p e below s args (⟨"java/lang/String", "<init>", "([C)V"⟩ : MethodName) len W (fun P a => a = #[.ref x, .ref b] ∧ P.U.heap = h ∧ P.cells + 1 ≤ R.cells ∧ P.slots + n ≤ R.slots)
      (fun P _ v B => ∃ L, QV Z x N bs h n0 v B.U.heap L ∧ B.locs = P.locs ++ L ∧ B.cells = P.cells + 1 ∧ B.slots = P.slots + n) := by
  subst hn hN hb
  refine Back.mono (backArv hZ hw wi E V C K S hz (n32 (by omega)) l0 (by omega) (fun c hc => (hp c hc).2) hfr hlo) (fun P a hp => hp) (fun P a v B hp hq => ?_)
  obtain ⟨L, ⟨q1, q2, q3, q4, q5, q6, q7, ⟨kb, v1, v2⟩, q9⟩, hl, hc, hs⟩ := hq
  exact ⟨L, ⟨q1, fun y hy => by rw [q2 y hy]; exact hx0, q3, q5, q7, h.size, kb, hh0, Nat.le_refl _, Nat.ne_of_gt E.lt, q6, by rw [List.map_map]; exact v2⟩, hl, hc, hs⟩
end StrChars.Road
namespace StrChars
open Jvm Sem ClassFile Op Lib Jvm.Stand Jvm.Free.XT Jvm.Free.ALB Jvm.Free.JM Jvm.Free
open Jvm.Lib.Cold (StaticIs)
def hi8 (x : Int32) : Int32 := lo8 (x >>> ((8 : Int32) &&& 31))
/-- what StringUTF16.getChar makes of two bytes -/
def pairCh (u v : Int32) : Int32 := (((u &&& 255) <<< ((0 : Int32) &&& 31)) ||| ((v &&& 255) <<< ((8 : Int32) &&& 31))).toUInt32.toUInt16.toUInt32.toInt32
theorem lo8_and (x : Int32) : (lo8 x &&& 255).toBitVec.toNat = x.toBitVec.toNat % 256 := by
  have h : (lo8 x).toBitVec = (x.toBitVec.signExtend 8).signExtend 32 := by rw [lo8, Int8.toBitVec_toInt32, Int32.toBitVec_toInt8]
  rw [Int32.toBitVec_and, BitVec.toNat_and, h]
  have e : ((x.toBitVec.signExtend 8).signExtend 32).toNat % 256 = x.toBitVec.toNat % 256 := by
    rw [BitVec.toNat_signExtend]
    have hlt := x.toBitVec.isLt
    simp only [BitVec.toNat_setWidth, BitVec.toNat_signExtend]
    split <;> split <;> omega
  rw [← e]
  exact Nat.and_two_pow_sub_one_eq_mod _ 8
theorem pair_says {c : Int32} (h0 : ¬ c < 0) (h1 : ¬ 65535 < c) : pairCh (lo8 c) (hi8 c) = c := by
  rw [Int32.lt_iff_toInt_lt] at h0 h1
  have e0 : (0 : Int32).toInt = 0 := rfl
  have e1 : (65535 : Int32).toInt = 65535 := rfl
  have hc : c.toInt = c.toBitVec.toNat := by
    have := c.toBitVec.isLt
    have e : c.toInt = c.toBitVec.toInt := rfl
    rw [e] at h0 h1
    rw [e]
    rw [BitVec.toInt_eq_toNat_cond] at h0 h1 ⊢
    split at h0 <;> split <;> omega
  have hn : c.toBitVec.toNat < 65536 := by omega
  have a1 := lo8_and c
  have a2 : (hi8 c &&& 255).toBitVec.toNat = c.toBitVec.toNat / 256 := by
    rw [hi8, lo8_and]
    have e : ((8 : Int32) &&& 31) = 8 := by decide
    rw [e, Int32.toBitVec_shiftRight]
    have e2 : ((8 : Int32).toBitVec.smod 32) = 8#32 := by decide
    rw [e2, BitVec.sshiftRight_eq', BitVec.toNat_sshiftRight_of_msb_false (by rw [BitVec.msb_eq_false_iff_two_mul_lt]; omega)]
    show c.toBitVec.toNat >>> 8 % 256 = _
    rw [Nat.shiftRight_eq_div_pow]
    omega
  unfold pairCh
  apply Int32.toBitVec_inj.mp
  apply BitVec.eq_of_toNat_eq
  have f0 : ((0 : Int32) &&& 31) = 0 := by decide
  have f8 : ((8 : Int32) &&& 31) = 8 := by decide
  rw [f0, f8]
  have g : (((lo8 c &&& 255) <<< (0 : Int32)) ||| ((hi8 c &&& 255) <<< (8 : Int32))).toBitVec.toNat = c.toBitVec.toNat := by
    rw [Int32.toBitVec_or, Int32.toBitVec_shiftLeft, Int32.toBitVec_shiftLeft]
    have s0 : ((0 : Int32).toBitVec.smod 32) = 0#32 := by decide
    have s8 : ((8 : Int32).toBitVec.smod 32) = 8#32 := by decide
    rw [s0, s8, BitVec.toNat_or]
    simp only [BitVec.shiftLeft_eq', BitVec.toNat_shiftLeft, a1, a2]
    show (c.toBitVec.toNat % 256) <<< 0 % 2 ^ 32 ||| (c.toBitVec.toNat / 256) <<< 8 % 2 ^ 32 = _
    rw [Nat.shiftLeft_zero, Nat.mod_eq_of_lt (show c.toBitVec.toNat % 256 < 2 ^ 32 by omega), Nat.mod_eq_of_lt (show (c.toBitVec.toNat / 256) <<< 8 < 2 ^ 32 by rw [Nat.shiftLeft_eq]; omega), Nat.or_comm, ← Nat.shiftLeft_add_eq_or_of_lt (by omega), Nat.shiftLeft_eq]
    omega
  show BitVec.toNat (((((lo8 c &&& 255) <<< (0 : Int32)) ||| ((hi8 c &&& 255) <<< (8 : Int32))).toBitVec.setWidth 16).setWidth 32) = _
  rw [BitVec.toNat_setWidth, BitVec.toNat_setWidth, g]
  omega
end StrChars
namespace StrChars
open Jvm Sem ClassFile Op Lib Jvm.Stand Jvm.Free.XT Jvm.Free.ALB Jvm.Free.JM Jvm.Free
open Jvm.Lib.Cold (StaticIs)
/-- the array's cell V codes the n chars f 0 .. f (n - 1) by the coder cd, as the JDK does: coder 1 just where some char is above 255 -/
def Cod (cd : Int32) (n : Nat) (f : Nat → Int32) (V : Cell) : Prop := (cd = 0 ∧ V.slots.size = n ∧ ∀ j, j < n → V.slots[j]? = some (.int (lo8 (f j))) ∧ ¬ 255 < f j) ∨ (cd = 1 ∧ V.slots.size = 2 * n ∧ (∀ j, j < n → V.slots[2 * j]? = some (.int (lo8 (f j))) ∧ V.slots[2 * j + 1]? = some (.int (hi8 (f j)))) ∧ ∃ j, j < n ∧ 255 < f j)
/-- **x is a String of the n chars f 0 .. f (n - 1)**, Latin-1 or UTF-16; its array at t has the cell V -/
def Txt (x t : Addr) (V : Cell) (cd : Int32) (n : Nat) (f : Nat → Int32) (U : State) : Prop := Exact "java/lang/String" x U ∧ Has x "java/lang/String" "value" "[B" (.ref t) U ∧ Has x "java/lang/String" "coder" "B" (.int cd) U ∧ XT.Arr .byte t V U ∧ Cod cd n f V ∧ ∀ j, j < n → ¬ f j < 0 ∧ ¬ 65535 < f j
theorem Txt.mv {x t : Addr} {V : Cell} {cd : Int32} {n : Nat} {f : Nat → Int32} {U U' : State} (h : Txt x t V cd n f U) (hal : U.vm.Alike U'.vm) (hh : U'.heap = U.heap) : Txt x t V cd n f U' := ⟨h.1.mv hal hh, h.2.1.mv hal hh, h.2.2.1.mv hal hh, h.2.2.2.1.mv hal hh, h.2.2.2.2⟩
end StrChars
namespace StrChars.Road
open Jvm Sem ClassFile Op Lib Jvm.Stand Jvm.Free Jvm.Free.XT
open Jvm.Lib.Cold (StaticIs)
theorem consq {a : Array Value} {s : State} {c : Jvm.Cond} {L : List Jvm.Cond} (h0 : c.before a s = true) (h : ∀ w ∈ L, w.before a s = true) : ∀ w ∈ c :: L, w.before a s = true := fun w hw => (List.mem_cons.mp hw).elim (fun e => e ▸ h0) (h w)
/-- the bytes of the chars cs, low before high -/
def wideBytes : List Int32 → List Value
  | [] => []
  | c :: cs => .int (lo8 c) :: .int (hi8 c) :: wideBytes cs
theorem wide_lo (d : Value) : ∀ (cs : List Int32) (j : Nat), j < cs.length → (wideBytes cs).getD (2 * j) d = .int (lo8 (cs.getD j 0))
  | [], j, h => absurd h (Nat.not_lt_zero j)
  | c :: cs, 0, _ => rfl
  | c :: cs, j + 1, h => by
    have q := wide_lo d cs j (by simpa using h)
    rw [show 2 * (j + 1) = 2 * j + 1 + 1 from by omega]
    simpa [wideBytes] using q
theorem wide_hi (d : Value) : ∀ (cs : List Int32) (j : Nat), j < cs.length → (wideBytes cs).getD (2 * j + 1) d = .int (hi8 (cs.getD j 0))
  | [], j, h => absurd h (Nat.not_lt_zero j)
  | c :: cs, 0, _ => rfl
  | c :: cs, j + 1, h => by
    have q := wide_hi d cs j (by simpa using h)
    rw [show 2 * (j + 1) + 1 = 2 * j + 1 + 1 + 1 from by omega]
    simpa [wideBytes] using q
theorem low_at (d : Value) (cs : List Int32) (j : Nat) (h : j < cs.length) : (cs.map fun c => Value.int (lo8 c)).getD j d = .int (lo8 (cs.getD j 0)) := by
  simp [List.getD_eq_getElem?_getD, h]
/-- an array of N2 bytes vs codes the chars cs by the coder cd -/
def CodA (cs : List Int32) (cd N2 : Int32) (vs : List Value) : Prop := (cd = 0 ∧ N2 = Int32.ofNat cs.length ∧ vs = (cs.map fun c => Value.int (lo8 c)) ∧ ∀ c ∈ cs, ¬ 255 < c) ∨ (cd = 1 ∧ N2 = Int32.ofNat (2 * cs.length) ∧ vs = wideBytes cs ∧ ∃ c ∈ cs, 255 < c)
theorem CodA.cod {cs : List Int32} {cd N2 : Int32} {vs : List Value} {V : Cell} (h : CodA cs cd N2 vs) (hn : 2 * cs.length < 2 ^ 31) (hs : V.slots.size = N2.toNatClampNeg) (hv : RoadKit.Has V vs (.int 0)) : Cod cd cs.length (fun j => cs.getD j 0) V := by
  rcases h with ⟨rfl, rfl, rfl, h⟩ | ⟨rfl, rfl, rfl, c, hc, hw⟩
  · rw [n32 (by omega)] at hs
    exact Or.inl ⟨rfl, hs, fun j hj => ⟨by rw [hv j (by omega), low_at _ _ _ hj], by
      have e : cs.getD j 0 = cs[j] := by simp [List.getD_eq_getElem?_getD, hj]
      show ¬ 255 < cs.getD j 0
      rw [e]; exact h _ (List.getElem_mem _)⟩⟩
  · rw [n32 (by omega)] at hs
    obtain ⟨j, hj, rfl⟩ := List.getElem_of_mem hc
    exact Or.inr ⟨rfl, hs, fun j hj => ⟨by rw [hv _ (by omega), wide_lo _ _ _ hj], by rw [hv _ (by omega), wide_hi _ _ _ hj]⟩, j, hj, by
      have e : cs.getD j 0 = cs[j] := by simp [List.getD_eq_getElem?_getD, hj]
      show 255 < cs.getD j 0
      rw [e]; exact hw⟩
/-- an object of exactly java/lang/String, its two fields found: as the laws ask it -/
theorem strObj {Z U : State} {a0 : Array Value} {kI : Nat} (wi : (Jvm.Cond.instantiable ST kI).before a0 Z = true) (al : Z.vm.Alike U.vm) {x : Addr} {v0 c0 : Value} (E : RoadKit.Exa Z U.heap x ST) (V : RoadKit.Fld Z U.heap x ST "value" "[B" v0) (C : RoadKit.Fld Z U.heap x ST "coder" "B" c0) :
    ∃ (D : Cell) (fV fC : Field), Blank ST x D U ∧ Found ST "value" "[B" fV U ∧ Found ST "coder" "B" fC U ∧ D.slots[fV.slot]? = some v0 ∧ D.slots[fC.slot]? = some c0 ∧ RoadKit.slotOf Z ST "value" "[B" = fV.slot ∧ RoadKit.slotOf Z ST "coder" "B" = fC.slot := by
  obtain ⟨D, cfV, kV, iV, fV, hD, gV, stV, knV, obV, asV, slV⟩ := V
  obtain ⟨D', cfC, kC, iC, fC, hD', gC, stC, -, -, asC, slC⟩ := C
  cases hD.symm.trans hD'
  obtain ⟨D2, kD, e1, e2, e3, e4, e5⟩ := E
  cases hD.symm.trans e1
  obtain ⟨c2, k2, i1, i2, i3, -⟩ := Cond.instantiable_spec wi
  cases e2.symm.trans i1
  cases e3.symm.trans i2
  obtain ⟨kU, u1, u2⟩ := al.2.2 _ _ e3
  exact ⟨D, fV, fC, ⟨hD, ⟨knV, fun q hq => by rw [hq] at obV; cases obV⟩, by rw [al.findClass]; exact e2, kU, u1, by rw [u2]; exact i3, by rw [u2]; exact e5 i3⟩, ⟨SBG.found_only al ⟨cfV, kV, iV, gV⟩, stV⟩, ⟨SBG.found_only al ⟨cfC, kC, iC, gC⟩, stC⟩, slV, slC, by simp [RoadKit.slotOf, gV], by simp [RoadKit.slotOf, gC]⟩
theorem sta_is {Z U : State} (al : Z.vm.Alike U.vm) {C n d : String} {v : Value} (S : RoadKit.Sta Z U.heap C n d v) : StaticIs U C n d v := by
  obtain ⟨cfS, iS, kS, fS, st, cS, t1, t2, t3, t4, t5, t6, t7⟩ := S
  exact StaticIs.there (s := { Z with heap := U.heap }) ⟨cfS, iS, kS, fS, st, cS, t1, t2, t3, t4, t5, (fun q => by rw [q] at t6; cases t6), t7⟩ al rfl
end StrChars.Road
namespace StrChars
open Jvm Sem ClassFile Op Lib Jvm.Stand Jvm.Free.XT Jvm.Free.ALB Jvm.Free.JM Jvm.Free
open Jvm.Lib.Cold (StaticIs)
/-- what place i of a byte[]'s cell holds -/
def yv (A : Cell) (i : Nat) : Int32 := match A.slots[i]? with | some (.int x) => x | _ => 0
theorem yv_get {a : Addr} {A : Cell} {U : State} (h : XT.Arr .byte a A U) (ht : Typed .byte A) {i : Nat} (hi : i < A.slots.size) : A.slots[i]? = some (.int (yv A i)) := by
  have e := Array.getElem?_eq_getElem hi
  have f := ht i _ e
  unfold yv; rw [e]
  generalize A.slots[i] = v at f
  cases v <;> simp [fits] at f ⊢
/-- the two arrays are equal, place for place -/
def EqC (A B : Cell) : Prop := A.slots.size = B.slots.size ∧ ∀ i, i < A.slots.size → yv A i = yv B i
/-- a boolean that says whether p -/
def Says01 (q : Prop) (r : Option Value) (s u : State) : Prop := ∃ v : Int32, r = some (.int v) ∧ u.heap = s.heap ∧ ((v = 1 ∧ q) ∨ (v = 0 ∧ ¬ q))
theorem Says01.mv {q : Prop} : ∀ r (U U' V V' : State), U'.heap = U.heap → V.vm.Alike V'.vm → V'.heap = V.heap → Says01 q r U V → Says01 q r U' V' :=
  fun r U U' V V' h1 _ h2 ⟨v, a, b, c⟩ => ⟨v, a, by rw [h1, h2]; exact b, c⟩
namespace LEq
def yN : MethodName := ⟨"java/lang/StringLatin1", "equals", "([B[B)Z"⟩
abbrev yB : ByteArray := jdk_43_method_13_code
theorem d0 : decode yB 0 = .ok (.aload_n 0, 1) := by decide +kernel
theorem d1 : decode yB 1 = .ok (.arraylength, 1) := by decide +kernel
theorem d2 : decode yB 2 = .ok (.aload_n 1, 1) := by decide +kernel
theorem d3 : decode yB 3 = .ok (.arraylength, 1) := by decide +kernel
theorem d4 : decode yB 4 = .ok (.if_icmp (.ne) 30, 3) := by decide +kernel
theorem d7 : decode yB 7 = .ok (.iconst 0, 1) := by decide +kernel
theorem d8 : decode yB 8 = .ok (.istore_n 2, 1) := by decide +kernel
theorem d9 : decode yB 9 = .ok (.iload_n 2, 1) := by decide +kernel
theorem d10 : decode yB 10 = .ok (.aload_n 0, 1) := by decide +kernel
theorem d11 : decode yB 11 = .ok (.arraylength, 1) := by decide +kernel
theorem d12 : decode yB 12 = .ok (.if_icmp (.ge) 20, 3) := by decide +kernel
theorem d15 : decode yB 15 = .ok (.aload_n 0, 1) := by decide +kernel
theorem d16 : decode yB 16 = .ok (.iload_n 2, 1) := by decide +kernel
theorem d17 : decode yB 17 = .ok (.baload, 1) := by decide +kernel
theorem d18 : decode yB 18 = .ok (.aload_n 1, 1) := by decide +kernel
theorem d19 : decode yB 19 = .ok (.iload_n 2, 1) := by decide +kernel
theorem d20 : decode yB 20 = .ok (.baload, 1) := by decide +kernel
theorem d21 : decode yB 21 = .ok (.if_icmp (.eq) 5, 3) := by decide +kernel
theorem d24 : decode yB 24 = .ok (.iconst 0, 1) := by decide +kernel
theorem d25 : decode yB 25 = .ok (.ireturn, 1) := by decide +kernel
theorem d26 : decode yB 26 = .ok (.iinc 2 1, 3) := by decide +kernel
theorem d29 : decode yB 29 = .ok (.goto (-20), 3) := by decide +kernel
theorem d32 : decode yB 32 = .ok (.iconst 1, 1) := by decide +kernel
theorem d33 : decode yB 33 = .ok (.ireturn, 1) := by decide +kernel
theorem d34 : decode yB 34 = .ok (.iconst 0, 1) := by decide +kernel
theorem d35 : decode yB 35 = .ok (.ireturn, 1) := by decide +kernel
def site : List Cond := []
def tab : Cond := tabOf yN yB 3 (some .boolean) site
def P (a : Addr) (A : Cell) (b : Addr) (B : Cell) (args : Array Value) (s : State) : Prop := args = #[.ref a, .ref b] ∧ XT.Arr .byte a A s ∧ Typed .byte A ∧ XT.Arr .byte b B s ∧ Typed .byte B
/-- whether two byte[] are equal, place for place -/
theorem law (l : Launch) (a : Addr) (A : Cell) (b : Addr) (B : Cell) : Law l yN 2 2 0 0 yB 3 (some .boolean) site (P a A b B) (Says01 (EqC A B)) [] 0 0 := by
  refine Law.of_walk (plainFor_of_name (by decide +kernel)) (by decide +kernel) (by decide +kernel) (by decide) (fun _ _ h => by rw [h.1]; rfl) (fun _ U U' hal hh h => ⟨h.1, h.2.1.mv hal hh, h.2.2.1, h.2.2.2.1.mv hal hh, h.2.2.2.2⟩) (fun r U U' V V' h1 hal h2 h => Says01.mv r U U' V V' h1 hal h2 h) ?_
  intro p e s m args below meth c s₁ X0 hexec hbytes hml hret hlk hnm hown hh0 W hP
  obtain ⟨rfl, hA, tA, hB, tB⟩ := hP
  have a31 := hA.2.2.2
  have b31 := hB.2.2.2
  have hA0 := hA.mv X0.warmed.alike hh0
  have hB0 := hB.mv X0.warmed.alike hh0
  have c1 : Steps p.tables e below (s₁.setTop (entryFrame m #[.ref a, .ref b] 3)) (s₁.setTop (mkF m 0 #[.val (.ref a), .val (.ref b), .unset] [])) := entry rfl
  have c2 : Steps p.tables e below (s₁.setTop (entryFrame m #[.ref a, .ref b] 3)) (s₁.setTop (mkF m 4 #[.val (.ref a), .val (.ref b), .unset] [.int (Int32.ofNat B.slots.size), .int (Int32.ofNat A.slots.size)])) := c1.trans (by
    refine XS.aloadN X0.here hexec rfl (hb hbytes d0) rfl rfl ?_
    refine X0.alen hexec hA0 rfl rfl (hb hbytes d1) ?_
    refine XS.aloadN X0.here hexec rfl (hb hbytes d2) rfl rfl ?_
    refine X0.alen hexec hB0 rfl rfl (hb hbytes d3) ?_
    exact Steps.refl _)
  by_cases hs : A.slots.size = B.slots.size
  · have c3 : Steps p.tables e below (s₁.setTop (entryFrame m #[.ref a, .ref b] 3)) (s₁.setTop (mkF m 9 #[.val (.ref a), .val (.ref b), .val (.int 0)] [])) := c2.trans (by
      refine XS.icmpNo X0.here hexec rfl (hb hbytes d4) rfl (ii_ne_f (by rw [hs])) ?_
      refine iconstV X0.here hexec rfl 0 (hb hbytes d7) (by decide) ?_
      refine XS.istoreN X0.here hexec rfl (hb hbytes d8) rfl rfl ?_
      exact Steps.refl _)
    have loop : ∀ (r i : Nat), i + r = A.slots.size → (∀ j, j < i → yv A j = yv B j) → Steps p.tables e below (s₁.setTop (entryFrame m #[.ref a, .ref b] 3)) (s₁.setTop (mkF m 9 #[.val (.ref a), .val (.ref b), .val (.int (Int32.ofNat i))] [])) → ∃ (pc : Nat) (Ls : Array Slot) (v : Int32), (pc = 25 ∨ pc = 33) ∧ ((v = 1 ∧ EqC A B) ∨ (v = 0 ∧ ¬ EqC A B)) ∧ Steps p.tables e below (s₁.setTop (entryFrame m #[.ref a, .ref b] 3)) (s₁.setTop (mkF m pc Ls [.int v])) := by
      intro r
      induction r with
      | zero =>
        intro i hi he cl
        exact ⟨33, _, 1, Or.inr rfl, Or.inl ⟨rfl, hs, fun j hj => he j (by omega)⟩, cl.trans (by
          refine XS.iloadN X0.here hexec rfl (hb hbytes d9) rfl ?_
          refine XS.aloadN X0.here hexec rfl (hb hbytes d10) rfl rfl ?_
          refine X0.alen hexec hA0 rfl rfl (hb hbytes d11) ?_
          refine XS.icmpYes X0.here hexec rfl (pc0 := 12) rfl (hb hbytes d12) rfl (ii_ge_t (nlt32 (by omega) (by omega))) (by decide) rfl ?_
          refine iconstV X0.here hexec rfl 1 (hb hbytes d32) (by decide) ?_
          exact Steps.refl _)⟩
      | succ r ih =>
        intro i hi he cl
        have c4 : Steps p.tables e below (s₁.setTop (entryFrame m #[.ref a, .ref b] 3)) (s₁.setTop (mkF m 21 #[.val (.ref a), .val (.ref b), .val (.int (Int32.ofNat i))] [.int (yv B i), .int (yv A i)])) := cl.trans (by
          refine XS.iloadN X0.here hexec rfl (hb hbytes d9) rfl ?_
          refine XS.aloadN X0.here hexec rfl (hb hbytes d10) rfl rfl ?_
          refine X0.alen hexec hA0 rfl rfl (hb hbytes d11) ?_
          refine XS.icmpNo X0.here hexec rfl (hb hbytes d12) rfl (ii_ge_f (lt32 (by omega) (by omega))) ?_
          refine XS.aloadN X0.here hexec rfl (hb hbytes d15) rfl rfl ?_
          refine XS.iloadN X0.here hexec rfl (hb hbytes d16) rfl ?_
          refine X0.aget hexec hA0 rfl (yv_get hA tA (i := i) (by omega)) rfl rfl (hb hbytes d17) ?_
          refine XS.aloadN X0.here hexec rfl (hb hbytes d18) rfl rfl ?_
          refine XS.iloadN X0.here hexec rfl (hb hbytes d19) rfl ?_
          refine X0.aget hexec hB0 rfl (yv_get hB tB (i := i) (by omega)) rfl rfl (hb hbytes d20) ?_
          exact Steps.refl _)
        by_cases hv : yv A i = yv B i
        · have c5 : Steps p.tables e below (s₁.setTop (entryFrame m #[.ref a, .ref b] 3)) (s₁.setTop (mkF m 9 #[.val (.ref a), .val (.ref b), .val (.int (Int32.ofNat i + 1))] [])) := c4.trans (by
            refine XS.icmpYes X0.here hexec rfl (pc0 := 21) rfl (hb hbytes d21) rfl (ii_eq_t hv) (by decide) rfl ?_
            refine iincV X0.here hexec rfl 1 (hb hbytes d26) (by decide) rfl rfl ?_
            refine XS.goto X0.here hexec rfl (pc0 := 29) rfl (hb hbytes d29) (by decide) rfl ?_
            exact Steps.refl _)
          rw [succ32] at c5
          exact ih (i + 1) (by omega) (fun j hj => by
            by_cases e : j = i
            · rw [e]; exact hv
            · exact he j (by omega)) c5
        · exact ⟨25, _, 0, Or.inl rfl, Or.inr ⟨rfl, fun q => hv (q.2 i (by omega))⟩, c4.trans (by
            refine XS.icmpNo X0.here hexec rfl (hb hbytes d21) rfl (ii_eq_f hv) ?_
            refine iconstV X0.here hexec rfl 0 (hb hbytes d24) (by decide) ?_
            exact Steps.refl _)⟩
    obtain ⟨pc, Ls, v, hpc, hv, cz⟩ := loop A.slots.size 0 (by omega) (fun j hj => absurd hj (Nat.not_lt_zero j)) c3
    have nv : narrow .boolean (.int v) = .int v := by rcases hv with ⟨rfl, -⟩ | ⟨rfl, -⟩ <;> rfl
    rcases hpc with rfl | rfl
    · exact ⟨s₁, some (.int v), _, _, _, X0, rfl, rfl, rfl, (fun h => by cases h), ⟨v, rfl, hh0, hv⟩, fun fs hl => cz.trans (X0.ireturnOut hexec hret nv (Or.inr (Or.inl rfl)) (hb hbytes d25) hl)⟩
    · exact ⟨s₁, some (.int v), _, _, _, X0, rfl, rfl, rfl, (fun h => by cases h), ⟨v, rfl, hh0, hv⟩, fun fs hl => cz.trans (X0.ireturnOut hexec hret nv (Or.inr (Or.inl rfl)) (hb hbytes d33) hl)⟩
  · have c3 : Steps p.tables e below (s₁.setTop (entryFrame m #[.ref a, .ref b] 3)) (s₁.setTop (mkF m 35 #[.val (.ref a), .val (.ref b), .unset] [.int 0])) := c2.trans (by
      refine XS.icmpYes X0.here hexec rfl (pc0 := 4) rfl (hb hbytes d4) rfl (ii_ne_t (ne32 a31 b31 hs)) (by decide) rfl ?_
      refine iconstV X0.here hexec rfl 0 (hb hbytes d34) (by decide) ?_
      exact Steps.refl _)
    exact ⟨s₁, some (.int 0), _, _, _, X0, rfl, rfl, rfl, (fun h => by cases h), ⟨0, rfl, hh0, Or.inr ⟨rfl, fun q => hs q.1⟩⟩, fun fs hl => c3.trans (X0.ireturnOut hexec hret rfl (Or.inr (Or.inl rfl)) (hb hbytes d35) hl)⟩
end LEq
theorem Cod.ty {cd : Int32} {n : Nat} {f : Nat → Int32} {V : Cell} (h : Cod cd n f V) : Typed .byte V := fun i v hv => by
  have hi : i < V.slots.size := (Array.getElem?_eq_some_iff.mp hv).1
  rcases h with ⟨-, k1, k2⟩ | ⟨-, k1, k2, -⟩
  · rw [(k2 i (by omega)).1] at hv; cases hv; exact fits_lo8 _
  · rcases Nat.mod_two_eq_zero_or_one i with e | e
    · obtain ⟨j, rfl⟩ : ∃ j, i = 2 * j := ⟨i / 2, by omega⟩
      rw [(k2 j (by omega)).1] at hv; cases hv; exact fits_lo8 _
    · obtain ⟨j, rfl⟩ : ∃ j, i = 2 * j + 1 := ⟨i / 2, by omega⟩
      rw [(k2 j (by omega)).2] at hv; cases hv; exact fits_lo8 _
/-- the same text -/
def SameT (n : Nat) (f : Nat → Int32) (k : Nat) (g : Nat → Int32) : Prop := n = k ∧ ∀ j, j < n → f j = g j
theorem lo8_inj {x y : Int32} (h0 : ¬ x < 0) (h1 : ¬ 255 < x) (k0 : ¬ y < 0) (k1 : ¬ 255 < y) (h : lo8 x = lo8 y) : x = y := by
  rw [← lo8_mask h0 h1, ← lo8_mask k0 k1, h]
/-- arrays coded by one coder are equal just where the texts are -/
theorem Cod.eqv {cd : Int32} {n k : Nat} {f g : Nat → Int32} {V V' : Cell} (h : Cod cd n f V) (h' : Cod cd k g V') (hf : ∀ j, j < n → ¬ f j < 0 ∧ ¬ 65535 < f j) (hg : ∀ j, j < k → ¬ g j < 0 ∧ ¬ 65535 < g j) : EqC V V' ↔ SameT n f k g := by
  have yvv : ∀ {W : Cell} {i : Nat} {x : Int32}, W.slots[i]? = some (.int x) → yv W i = x := fun q => by unfold yv; rw [q]
  rcases h with ⟨rfl, k1, k2⟩ | ⟨rfl, k1, k2, -⟩
  · rcases h' with ⟨-, m1, m2⟩ | ⟨e, -⟩
    · constructor
      · rintro ⟨e1, e2⟩
        refine ⟨by omega, fun j hj => ?_⟩
        have q := e2 j (by omega)
        rw [yvv (k2 j hj).1, yvv (m2 j (by omega)).1] at q
        exact lo8_inj (hf j hj).1 (k2 j hj).2 (hg j (by omega)).1 (m2 j (by omega)).2 q
      · rintro ⟨rfl, e2⟩
        refine ⟨by omega, fun j hj => ?_⟩
        rw [yvv (k2 j (by omega)).1, yvv (m2 j (by omega)).1, e2 j (by omega)]
    · exact absurd e (by decide)
  · rcases h' with ⟨e, -⟩ | ⟨-, m1, m2, -⟩
    · exact absurd e (by decide)
    · constructor
      · rintro ⟨e1, e2⟩
        refine ⟨by omega, fun j hj => ?_⟩
        have q1 := e2 (2 * j) (by omega)
        have q2 := e2 (2 * j + 1) (by omega)
        rw [yvv (k2 j hj).1, yvv (m2 j (by omega)).1] at q1
        rw [yvv (k2 j hj).2, yvv (m2 j (by omega)).2] at q2
        rw [← pair_says (hf j hj).1 (hf j hj).2, ← pair_says (hg j (by omega)).1 (hg j (by omega)).2, q1, q2]
      · rintro ⟨rfl, e2⟩
        refine ⟨by omega, fun i hi => ?_⟩
        rcases Nat.mod_two_eq_zero_or_one i with e | e
        · obtain ⟨j, rfl⟩ : ∃ j, i = 2 * j := ⟨i / 2, by omega⟩
          rw [yvv (k2 j (by omega)).1, yvv (m2 j (by omega)).1, e2 j (by omega)]
        · obtain ⟨j, rfl⟩ : ∃ j, i = 2 * j + 1 := ⟨i / 2, by omega⟩
          rw [yvv (k2 j (by omega)).2, yvv (m2 j (by omega)).2, e2 j (by omega)]
/-- two codings differ: so do the texts -/
theorem Cod.dif {cd cd' : Int32} {n k : Nat} {f g : Nat → Int32} {V V' : Cell} (h : Cod cd n f V) (h' : Cod cd' k g V') (hne : ¬ cd = cd') : ¬ SameT n f k g := by
  rintro ⟨rfl, e⟩
  rcases h with ⟨rfl, -, k2⟩ | ⟨rfl, -, -, j, hj, hw⟩
  · rcases h' with ⟨rfl, -⟩ | ⟨-, -, -, j, hj, hw⟩
    · exact hne rfl
    · exact (k2 j hj).2 (by rw [e j hj]; exact hw)
  · rcases h' with ⟨-, -, m2⟩ | ⟨rfl, -⟩
    · exact (m2 j hj).2 (by rw [← e j hj]; exact hw)
    · exact hne rfl
/-- an object of exactly C is an instance of C -/
theorem cinst {p : Program} {l : Launch} {e : Env} {R : Room} {s : State} {m : MethodId} {args : Array Value} {below : List Frame} {meth : Method} {c : Code} {T : State} {locs : List Loc} {cells slots : Nat} (X : Stand p l e R s m args below meth c T locs cells slots) (hexec : p.tables.exec = Jvm.exec) {own C : String} {index : Nat} (hown : s.vm.findClass own = some m.cls) (hlink : (Cond.classLink own index C).before args s = true) {a : Addr} (hE : Exact C a T)
    {g : JFrame} (hg : g.method = m) {rest : List Value} (hstack : g.stack = .ref a :: rest) (hdg : decode c.code g.pc = .ok (.instanceof index, 3)) :
    ∃ T', Stand p l e R s m args below meth c T' locs cells slots ∧ T'.heap = T.heap ∧ ∀ target, Steps p.tables e below (T'.setTop { g with pc := g.pc + 3, stack := .int 1 :: rest }) target → Steps p.tables e below (T.setTop g) target := by
  obtain ⟨cB, h1, D, h2, h3, h4⟩ := hE
  have h1' : s.vm.findClass C = some cB := by rw [← X.warmed.alike.findClass]; exact h1
  obtain ⟨vm', X', st⟩ := X.instanceofYes hexec hown hlink h2 h4 h1' (by rw [h3]; exact Jvm.Free.SB.assignable_self _ _) hg hstack hdg
  exact ⟨_, X', rfl, st⟩
theorem cself {p : Program} {l : Launch} {e : Env} {R : Room} {s : State} {m : MethodId} {args : Array Value} {below : List Frame} {meth : Method} {c : Code} {T : State} {locs : List Loc} {cells slots : Nat} (X : Stand p l e R s m args below meth c T locs cells slots) (hexec : p.tables.exec = Jvm.exec) {own C : String} {index : Nat} (hown : s.vm.findClass own = some m.cls) (hlink : (Cond.classLink own index C).before args s = true) {a : Addr} (hE : Exact C a T)
    {g : JFrame} (hg : g.method = m) {rest : List Value} (hstack : g.stack = .ref a :: rest) (hdg : decode c.code g.pc = .ok (.checkcast index, 3)) :
    ∃ T', Stand p l e R s m args below meth c T' locs cells slots ∧ T'.heap = T.heap ∧ ∀ target, Steps p.tables e below (T'.setTop { g with pc := g.pc + 3, stack := .ref a :: rest }) target → Steps p.tables e below (T.setTop g) target := by
  obtain ⟨cB, h1, D, h2, h3, h4⟩ := hE
  have h1' : s.vm.findClass C = some cB := by rw [← X.warmed.alike.findClass]; exact h1
  obtain ⟨vm', X', st⟩ := X.checkcastYes hexec hown hlink h2 h4 h1' (by rw [h3]; exact Jvm.Free.SB.assignable_self _ _) hg hstack hdg
  exact ⟨_, X', rfl, fun t h => st t (by rw [← hstack] at h; exact h)⟩
namespace SEq
def yN : MethodName := ⟨"java/lang/String", "equals", "(Ljava/lang/Object;)Z"⟩
abbrev yB : ByteArray := jdk_42_method_66_code
theorem d0 : decode yB 0 = .ok (.aload_n 0, 1) := by decide +kernel
theorem d1 : decode yB 1 = .ok (.aload_n 1, 1) := by decide +kernel
theorem d2 : decode yB 2 = .ok (.if_acmp (.ne) 5, 3) := by decide +kernel
theorem d5 : decode yB 5 = .ok (.iconst 1, 1) := by decide +kernel
theorem d6 : decode yB 6 = .ok (.ireturn, 1) := by decide +kernel
theorem d7 : decode yB 7 = .ok (.aload_n 1, 1) := by decide +kernel
theorem d8 : decode yB 8 = .ok (.instanceof 10, 3) := by decide +kernel
theorem d11 : decode yB 11 = .ok (.ifCond (.eq) 43, 3) := by decide +kernel
theorem d14 : decode yB 14 = .ok (.aload_n 1, 1) := by decide +kernel
theorem d15 : decode yB 15 = .ok (.checkcast 10, 3) := by decide +kernel
theorem d18 : decode yB 18 = .ok (.astore_n 2, 1) := by decide +kernel
theorem d19 : decode yB 19 = .ok (.getstatic 38, 3) := by decide +kernel
theorem d22 : decode yB 22 = .ok (.ifCond (.eq) 14, 3) := by decide +kernel
theorem d25 : decode yB 25 = .ok (.aload_n 0, 1) := by decide +kernel
theorem d26 : decode yB 26 = .ok (.getfield 15, 3) := by decide +kernel
theorem d29 : decode yB 29 = .ok (.aload_n 2, 1) := by decide +kernel
theorem d30 : decode yB 30 = .ok (.getfield 15, 3) := by decide +kernel
theorem d33 : decode yB 33 = .ok (.if_icmp (.ne) 21, 3) := by decide +kernel
theorem d36 : decode yB 36 = .ok (.aload_n 0, 1) := by decide +kernel
theorem d37 : decode yB 37 = .ok (.getfield 9, 3) := by decide +kernel
theorem d40 : decode yB 40 = .ok (.aload_n 2, 1) := by decide +kernel
theorem d41 : decode yB 41 = .ok (.getfield 9, 3) := by decide +kernel
theorem d44 : decode yB 44 = .ok (.invokestatic 541, 3) := by decide +kernel
theorem d47 : decode yB 47 = .ok (.ifCond (.eq) 7, 3) := by decide +kernel
theorem d50 : decode yB 50 = .ok (.iconst 1, 1) := by decide +kernel
theorem d51 : decode yB 51 = .ok (.goto 4, 3) := by decide +kernel
theorem d54 : decode yB 54 = .ok (.iconst 0, 1) := by decide +kernel
theorem d55 : decode yB 55 = .ok (.ireturn, 1) := by decide +kernel
def site : List Cond := [.classLink "java/lang/String" 10 "java/lang/String", .fieldLink "java/lang/String" 38 "java/lang/String" "COMPACT_STRINGS" "Z", .fieldLink "java/lang/String" 15 "java/lang/String" "coder" "B", .fieldLink "java/lang/String" 9 "java/lang/String" "value" "[B", LEq.tab] ++ staticW "java/lang/String" 541 LEq.yN
def tab : Cond := tabOf yN yB 3 (some .boolean) site
def P (x t : Addr) (V : Cell) (cd : Int32) (n : Nat) (f : Nat → Int32) (y t' : Addr) (V' : Cell) (cd' : Int32) (k : Nat) (g : Nat → Int32) (z : Int32) (args : Array Value) (s : State) : Prop := args = #[.ref x, .ref y] ∧ Txt x t V cd n f s ∧ Txt y t' V' cd' k g s ∧ StaticIs s "java/lang/String" "COMPACT_STRINGS" "Z" (.int z) ∧ ¬ z = 0
/-- equals(Object) of two Strings: whether the texts are the same -/
theorem law (l : Launch) (x t : Addr) (V : Cell) (cd : Int32) (n : Nat) (f : Nat → Int32) (y t' : Addr) (V' : Cell) (cd' : Int32) (k : Nat) (g : Nat → Int32) (z : Int32) : Law l yN 2 1 1 14 yB 3 (some .boolean) site (P x t V cd n f y t' V' cd' k g z) (Says01 (SameT n f k g)) [] 0 0 := by
  refine Law.of_walk (plainFor_of_name (by decide +kernel)) (by decide +kernel) (by decide +kernel) (by decide) (fun _ _ h => by rw [h.1]; rfl) (fun _ U U' hal hh h => ⟨h.1, h.2.1.mv hal hh, h.2.2.1.mv hal hh, h.2.2.2.1.there hal hh, h.2.2.2.2⟩) (fun r U U' V V' h1 hal h2 h => Says01.mv r U U' V V' h1 hal h2 h) ?_
  intro p e s m args below meth c s₁ X0 hexec hbytes hml hret hlk hnm hown hh0 W hP
  obtain ⟨rfl, hx, hy, s1, hz⟩ := hP
  have c1 : Steps p.tables e below (s₁.setTop (entryFrame m #[.ref x, .ref y] 3)) (s₁.setTop (mkF m 2 #[.val (.ref x), .val (.ref y), .unset] [.ref y, .ref x])) := Steps.trans (entry rfl) (by
    show Steps p.tables e below (s₁.setTop (mkF m 0 #[.val (.ref x), .val (.ref y), .unset] [])) _
    refine XS.aloadN X0.here hexec rfl (hb hbytes d0) rfl rfl ?_
    refine XS.aloadN X0.here hexec rfl (hb hbytes d1) rfl rfl ?_
    exact Steps.refl _)
  by_cases hxy : x = y
  · have c2 : Steps p.tables e below (s₁.setTop (entryFrame m #[.ref x, .ref y] 3)) (s₁.setTop (mkF m 6 #[.val (.ref x), .val (.ref y), .unset] [.int 1])) := c1.trans (by
      refine acmpNo X0.here hexec rfl (hb hbytes d2) rfl rfl rfl (by simp [acmp, hxy]) ?_
      refine iconstV X0.here hexec rfl 1 (hb hbytes d5) (by decide) ?_
      exact Steps.refl _)
    subst hxy
    have ec : cd = cd' := by
      obtain ⟨D, fd, a1, a2, a3⟩ := hx.2.2.1
      obtain ⟨D', fd', b1, b2, b3⟩ := hy.2.2.1
      cases a1.symm.trans b1
      obtain ⟨q1, q2, q3, q4⟩ := a2.1
      obtain ⟨r1, r2, r3, r4⟩ := b2.1
      cases q4.symm.trans r4
      cases a3.symm.trans b3; rfl
    have et : t = t' := by
      obtain ⟨D, fd, a1, a2, a3⟩ := hx.2.1
      obtain ⟨D', fd', b1, b2, b3⟩ := hy.2.1
      cases a1.symm.trans b1
      obtain ⟨q1, q2, q3, q4⟩ := a2.1
      obtain ⟨r1, r2, r3, r4⟩ := b2.1
      cases q4.symm.trans r4
      cases a3.symm.trans b3; rfl
    subst ec et
    have ev : V = V' := by cases hx.2.2.2.1.1.symm.trans hy.2.2.2.1.1; rfl
    subst ev
    have hs : SameT n f k g := (Cod.eqv hx.2.2.2.2.1 hy.2.2.2.2.1 hx.2.2.2.2.2 hy.2.2.2.2.2).mp ⟨rfl, fun _ _ => rfl⟩
    exact ⟨s₁, some (.int 1), _, _, _, X0, rfl, rfl, rfl, (fun h => by cases h), ⟨1, rfl, hh0, Or.inl ⟨rfl, hs⟩⟩, fun fs hl => c2.trans (X0.ireturnOut hexec hret rfl (Or.inr (Or.inl rfl)) (hb hbytes d6) hl)⟩
  · have c2 : Steps p.tables e below (s₁.setTop (entryFrame m #[.ref x, .ref y] 3)) (s₁.setTop (mkF m 8 #[.val (.ref x), .val (.ref y), .unset] [.ref y])) := c1.trans (by
      refine acmpYes X0.here hexec rfl (pc0 := 2) rfl (hb hbytes d2) rfl rfl rfl (by simp [acmp, hxy]) (by decide) rfl ?_
      refine XS.aloadN X0.here hexec rfl (hb hbytes d7) rfl rfl ?_
      exact Steps.refl _)
    obtain ⟨T3, X3, q3, st3⟩ := cinst X0 hexec hown (wk W (.classLink "java/lang/String" 10 "java/lang/String")) (hy.mv X0.warmed.alike hh0).1 (g := (mkF m 8 #[.val (.ref x), .val (.ref y), .unset] [.ref y])) rfl (rest := []) rfl (hb hbytes d8)
    have hh3 := q3.trans hh0
    have c4 : Steps p.tables e below (s₁.setTop (entryFrame m #[.ref x, .ref y] 3)) (T3.setTop (mkF m 15 #[.val (.ref x), .val (.ref y), .unset] [.ref y])) := (c2.trans (st3 _ (Steps.refl _))).trans (by
      refine XS.ifNo X3.here hexec rfl (hb hbytes d11) rfl (i0_eq_f (by decide)) ?_
      refine XS.aloadN X3.here hexec rfl (hb hbytes d14) rfl rfl ?_
      exact Steps.refl _)
    obtain ⟨T5, X5, q5, st5⟩ := cself X3 hexec hown (wk W (.classLink "java/lang/String" 10 "java/lang/String")) (hy.mv X3.warmed.alike hh3).1 (g := (mkF m 15 #[.val (.ref x), .val (.ref y), .unset] [.ref y])) rfl (rest := []) rfl (hb hbytes d15)
    have hh5 := q5.trans hh3
    have c6 : Steps p.tables e below (s₁.setTop (entryFrame m #[.ref x, .ref y] 3)) (T5.setTop (mkF m 19 #[.val (.ref x), .val (.ref y), .val (.ref y)] [])) := (c4.trans (st5 _ (Steps.refl _))).trans (by
      refine XS.astoreN X5.here hexec rfl (hb hbytes d18) rfl rfl rfl ?_
      exact Steps.refl _)
    obtain ⟨T7, X7, q7, st7⟩ := X5.sget hexec hown (wk W (.fieldLink "java/lang/String" 38 "java/lang/String" "COMPACT_STRINGS" "Z")) s1 (fun _ _ h => by rw [hh5]; exact h) (g := (mkF m 19 #[.val (.ref x), .val (.ref y), .val (.ref y)] [])) rfl (hb hbytes d19)
    have hh7 := q7.trans hh5
    have c8 : Steps p.tables e below (s₁.setTop (entryFrame m #[.ref x, .ref y] 3)) (T7.setTop (mkF m 26 #[.val (.ref x), .val (.ref y), .val (.ref y)] [.ref x])) := (c6.trans (st7 _ (Steps.refl _))).trans (by
      refine XS.ifNo X7.here hexec rfl (hb hbytes d22) rfl (i0_eq_f hz) ?_
      refine XS.aloadN X7.here hexec rfl (hb hbytes d25) rfl rfl ?_
      exact Steps.refl _)
    obtain ⟨T9, X9, q9, st9⟩ := X7.hget hexec hown (wk W (.fieldLink "java/lang/String" 15 "java/lang/String" "coder" "B")) (hx.mv X7.warmed.alike hh7).2.2.1 (g := (mkF m 26 #[.val (.ref x), .val (.ref y), .val (.ref y)] [.ref x])) rfl (rest := []) rfl (hb hbytes d26)
    have hh9 := q9.trans hh7
    have c10 : Steps p.tables e below (s₁.setTop (entryFrame m #[.ref x, .ref y] 3)) (T9.setTop (mkF m 30 #[.val (.ref x), .val (.ref y), .val (.ref y)] [.ref y, .int cd])) := (c8.trans (st9 _ (Steps.refl _))).trans (by
      refine XS.aloadN X9.here hexec rfl (hb hbytes d29) rfl rfl ?_
      exact Steps.refl _)
    obtain ⟨T11, X11, q11, st11⟩ := X9.hget hexec hown (wk W (.fieldLink "java/lang/String" 15 "java/lang/String" "coder" "B")) (hy.mv X9.warmed.alike hh9).2.2.1 (g := (mkF m 30 #[.val (.ref x), .val (.ref y), .val (.ref y)] [.ref y, .int cd])) rfl (rest := [.int cd]) rfl (hb hbytes d30)
    have hh11 := q11.trans hh9
    have c12 : Steps p.tables e below (s₁.setTop (entryFrame m #[.ref x, .ref y] 3)) (T11.setTop (mkF m 33 #[.val (.ref x), .val (.ref y), .val (.ref y)] [.int cd', .int cd])) := c10.trans (st11 _ (Steps.refl _))
    by_cases hcd : cd = cd'
    · subst hcd
      have c13 : Steps p.tables e below (s₁.setTop (entryFrame m #[.ref x, .ref y] 3)) (T11.setTop (mkF m 37 #[.val (.ref x), .val (.ref y), .val (.ref y)] [.ref x])) := c12.trans (by
        refine XS.icmpNo X11.here hexec rfl (hb hbytes d33) rfl (ii_ne_f rfl) ?_
        refine XS.aloadN X11.here hexec rfl (hb hbytes d36) rfl rfl ?_
        exact Steps.refl _)
      obtain ⟨T14, X14, q14, st14⟩ := X11.hget hexec hown (wk W (.fieldLink "java/lang/String" 9 "java/lang/String" "value" "[B")) (hx.mv X11.warmed.alike hh11).2.1 (g := (mkF m 37 #[.val (.ref x), .val (.ref y), .val (.ref y)] [.ref x])) rfl (rest := []) rfl (hb hbytes d37)
      have hh14 := q14.trans hh11
      have c15 : Steps p.tables e below (s₁.setTop (entryFrame m #[.ref x, .ref y] 3)) (T14.setTop (mkF m 41 #[.val (.ref x), .val (.ref y), .val (.ref y)] [.ref y, .ref t])) := (c13.trans (st14 _ (Steps.refl _))).trans (by
        refine XS.aloadN X14.here hexec rfl (hb hbytes d40) rfl rfl ?_
        exact Steps.refl _)
      obtain ⟨T16, X16, q16, st16⟩ := X14.hget hexec hown (wk W (.fieldLink "java/lang/String" 9 "java/lang/String" "value" "[B")) (hy.mv X14.warmed.alike hh14).2.1 (g := (mkF m 41 #[.val (.ref x), .val (.ref y), .val (.ref y)] [.ref y, .ref t])) rfl (rest := [.ref t]) rfl (hb hbytes d41)
      have hh16 := q16.trans hh14
      have c17 : Steps p.tables e below (s₁.setTop (entryFrame m #[.ref x, .ref y] 3)) (T16.setTop (mkF m 44 #[.val (.ref x), .val (.ref y), .val (.ref y)] [.ref t', .ref t])) := c15.trans (st16 _ (Steps.refl _))
      obtain ⟨v18, T18, X18, E18, g18⟩ := X16.callS hexec (LEq.law l t V t' V') hown (wks W (staticW "java/lang/String" 541 LEq.yN)) (wk W LEq.tab) (W := 0) (Nat.le_of_ble_eq_true rfl) (Nat.le_of_ble_eq_true rfl) (Nat.le_refl _) (Nat.le_refl _) (g := (mkF m 44 #[.val (.ref x), .val (.ref y), .val (.ref y)] [.ref t', .ref t])) rfl (by rw [hml]; rfl) c17 (argsL := [.ref t, .ref t']) (rest := []) rfl rfl (by show 2 * 0 + 0 ≤ _; decide) (hb hbytes d44) (⟨rfl, hx.2.2.2.1.mv X16.warmed.alike hh16, hx.2.2.2.2.1.ty, hy.2.2.2.1.mv X16.warmed.alike hh16, hy.2.2.2.2.1.ty⟩)
      obtain ⟨v, rfl, q18, hv⟩ := E18
      have iff := Cod.eqv hx.2.2.2.2.1 hy.2.2.2.2.1 hx.2.2.2.2.2 hy.2.2.2.2.2
      rcases hv with ⟨rfl, he⟩ | ⟨rfl, he⟩
      · have c19 : Steps p.tables e below (s₁.setTop (entryFrame m #[.ref x, .ref y] 3)) (T18.setTop (mkF m 55 #[.val (.ref x), .val (.ref y), .val (.ref y)] [.int 1])) := Steps.trans g18 (by
          refine XS.ifNo X18.here hexec rfl (hb hbytes d47) rfl (i0_eq_f (by decide)) ?_
          refine iconstV X18.here hexec rfl 1 (hb hbytes d50) (by decide) ?_
          refine XS.goto X18.here hexec rfl (pc0 := 51) rfl (hb hbytes d51) (by decide) rfl ?_
          exact Steps.refl _)
        exact ⟨T18, some (.int 1), _, _, _, X18, rfl, rfl, rfl, (fun h => by cases h), ⟨1, rfl, q18.trans hh16, Or.inl ⟨rfl, iff.mp he⟩⟩, fun fs hl => c19.trans (X18.ireturnOut hexec hret rfl (Or.inr (Or.inl rfl)) (hb hbytes d55) hl)⟩
      · have c19 : Steps p.tables e below (s₁.setTop (entryFrame m #[.ref x, .ref y] 3)) (T18.setTop (mkF m 55 #[.val (.ref x), .val (.ref y), .val (.ref y)] [.int 0])) := Steps.trans g18 (by
          refine XS.ifYes X18.here hexec rfl (pc0 := 47) rfl (hb hbytes d47) rfl (i0_eq_t rfl) (by decide) rfl ?_
          refine iconstV X18.here hexec rfl 0 (hb hbytes d54) (by decide) ?_
          exact Steps.refl _)
        exact ⟨T18, some (.int 0), _, _, _, X18, rfl, rfl, rfl, (fun h => by cases h), ⟨0, rfl, q18.trans hh16, Or.inr ⟨rfl, fun q => he (iff.mpr q)⟩⟩, fun fs hl => c19.trans (X18.ireturnOut hexec hret rfl (Or.inr (Or.inl rfl)) (hb hbytes d55) hl)⟩
    · have c13 : Steps p.tables e below (s₁.setTop (entryFrame m #[.ref x, .ref y] 3)) (T11.setTop (mkF m 55 #[.val (.ref x), .val (.ref y), .val (.ref y)] [.int 0])) := c12.trans (by
        refine XS.icmpYes X11.here hexec rfl (pc0 := 33) rfl (hb hbytes d33) rfl (ii_ne_t hcd) (by decide) rfl ?_
        refine iconstV X11.here hexec rfl 0 (hb hbytes d54) (by decide) ?_
        exact Steps.refl _)
      exact ⟨T11, some (.int 0), _, _, _, X11, rfl, rfl, rfl, (fun h => by cases h), ⟨0, rfl, hh11, Or.inr ⟨rfl, Cod.dif hx.2.2.2.2.1 hy.2.2.2.2.1 hcd⟩⟩, fun fs hl => c13.trans (X11.ireturnOut hexec hret rfl (Or.inr (Or.inl rfl)) (hb hbytes d55) hl)⟩
theorem pays {l : Launch} {R : Room} {p : Program} {e : Env} {below : List Frame} {s : State} {sargs : Array Value} {len W : Nat} (x t : Addr) (V : Cell) (cd : Int32) (n : Nat) (f : Nat → Int32) (y t' : Addr) (V' : Cell) (cd' : Int32) (k : Nat) (g : Nat → Int32) (z : Int32) (htab : tab.before sargs s = true) (hfr : 2 ≤ R.frames) (hlo : W + 28 ≤ R.locals) :
    Back l R p e below s sargs yN len W (fun A₁ a₁ => A₁.cells + 0 ≤ R.cells ∧ A₁.slots + 0 ≤ R.slots ∧ P x t V cd n f y t' V' cd' k g z a₁ A₁.U) (fun A₁ _ v₁ B₁ => Says01 (SameT n f k g) v₁ A₁.U B₁.U ∧ B₁.locs = A₁.locs ++ [] ∧ B₁.cells = A₁.cells + 0 ∧ B₁.slots = A₁.slots + 0) :=
  (law l x t V cd n f y t' V' cd' k g z).pays htab hfr (by omega)
end SEq
end StrChars
namespace StrChars.Road
open Jvm Sem ClassFile Op Lib Jvm.Stand Jvm.Free Jvm.Free.XT
open Jvm.Lib.Cold (StaticIs)
/-- the words of String.equals(Object) -/
abbrev wordsEq : List Jvm.Cond := [.code SEq.yN SEq.yB 3 (some .boolean), .initialized ST, .classLink ST 10 ST, .fieldLink ST 38 ST "COMPACT_STRINGS" "Z", .fieldLink ST 15 ST "coder" "B", .fieldLink ST 9 ST "value" "[B", .methodLink ST 541 LEq.yN, .static LEq.yN, .code LEq.yN LEq.yB 3 (some .boolean), .initialized "java/lang/StringLatin1"]
theorem tabEq_of {a : Array Value} {s : State} (h : ∀ w ∈ wordsEq, w.before a s = true) : SEq.tab.before a s = true := by
  have hl : LEq.tab.before a s = true := unparts (wk h (.code LEq.yN LEq.yB 3 (some .boolean))) (wks h (.initialized LEq.yN.cls :: LEq.site))
  have q := consq hl h
  exact unparts (wk q (.code SEq.yN SEq.yB 3 (some .boolean))) (wks q (.initialized SEq.yN.cls :: SEq.site))
theorem movedEq {Z s : State} {a0 args : Array Value} (hZ : Z.Warmed39 s.vm) (hw : ∀ d ∈ wordsEq, d.before a0 Z = true) : ∀ d ∈ wordsEq, d.before args s = true := fun d hd => by
  have t : ∀ d ∈ wordsEq, (d.onTables && d.keepsFace) = true := by decide +kernel
  exact RoadKit.mv hZ (hw d hd) (t d hd)
/-- the road's facts of a String, as the laws ask it -/
theorem txt_of {Z U : State} {a0 : Array Value} {kI : Nat} (wi : (Jvm.Cond.instantiable ST kI).before a0 Z = true) (al : Z.vm.Alike U.vm) {x t : Addr} {kb : ClassId} {cs : List Int32} {cd N2 : Int32} {vs : List Value} (E : RoadKit.Exa Z U.heap x ST) (V : RoadKit.Fld Z U.heap x ST "value" "[B" (.ref t)) (C : RoadKit.Fld Z U.heap x ST "coder" "B" (.int cd)) (K : RoadKit.Arv Z U.heap t kb .byte N2 vs (.int 0)) (hc : CodA cs cd N2 vs) (hb : ∀ c ∈ cs, ¬ c < 0 ∧ ¬ (65535 : Int32) < c) (l2 : cs.length ≤ 4000) :
    ∃ A, Txt x t A cd cs.length (fun j => cs.getD j 0) U := by
  obtain ⟨A, K1, K2, K3, K4, K5, K6⟩ := K
  have hcod := hc.cod (by omega) K3 K5
  obtain ⟨D, fV, fC, hB, F1, F2, g1, g2, -, -⟩ := strObj wi al E V C
  exact ⟨A, ⟨_, hB.2.2.1, D, hB.1, rfl, by cases q : D.vm <;> first | rfl | exact absurd q (hB.2.1.2 _)⟩, Has.of hB F1 g1, Has.of hB F2 g2, ⟨K1.1, State.isArrayOf_alike al K1.2.1, K1.2.2, by rcases hcod with ⟨-, q, -⟩ | ⟨-, q, -⟩ <;> omega⟩, hcod, fun j hj => by
    have e : cs.getD j 0 = cs[j] := by simp [List.getD_eq_getElem?_getD, hj]
    show ¬ cs.getD j 0 < 0 ∧ ¬ 65535 < cs.getD j 0
    rw [e]; exact hb _ (List.getElem_mem _)⟩
theorem same_list (cs ds : List Int32) : SameT cs.length (fun j => cs.getD j 0) ds.length (fun j => ds.getD j 0) ↔ cs = ds := by
  constructor
  · rintro ⟨e, q⟩
    refine List.ext_getElem e fun j h1 h2 => ?_
    have := q j h1
    simpa [List.getD_eq_getElem?_getD, h1, h2] using this
  · rintro rfl
    exact ⟨rfl, fun _ _ => rfl⟩
/-- **equals(Object) OF TWO SUCH STRINGS**: 1 just where the chars are the same -/
theorem eqW {p : Program} {l : Launch} {e : Env} {R : Room} {s : State} {args : Array Value} {below : List Frame} {len W : Nat} {Z : State} {a0 : Array Value} {h : Heap} (hZ : Z.Warmed39 s.vm) (hw : ∀ d ∈ wordsEq, d.before a0 Z = true) {kI : Nat} (wi : (Jvm.Cond.instantiable ST kI).before a0 Z = true)
    {x t : Addr} {kb : ClassId} {cs : List Int32} {cd N2 : Int32} {vs : List Value} (E : RoadKit.Exa Z h x ST) (V : RoadKit.Fld Z h x ST "value" "[B" (.ref t)) (C : RoadKit.Fld Z h x ST "coder" "B" (.int cd)) (K : RoadKit.Arv Z h t kb .byte N2 vs (.int 0)) (hc : CodA cs cd N2 vs) (hb : ∀ c ∈ cs, ¬ c < 0 ∧ ¬ (65535 : Int32) < c) (l2 : cs.length ≤ 4000)
    {y t' : Addr} {kb' : ClassId} {ds : List Int32} {cd' N2' : Int32} {vs' : List Value} (E' : RoadKit.Exa Z h y ST) (V' : RoadKit.Fld Z h y ST "value" "[B" (.ref t')) (C' : RoadKit.Fld Z h y ST "coder" "B" (.int cd')) (K' : RoadKit.Arv Z h t' kb' .byte N2' vs' (.int 0)) (hc' : CodA ds cd' N2' vs') (hb' : ∀ c ∈ ds, ¬ c < 0 ∧ ¬ (65535 : Int32) < c) (l2' : ds.length ≤ 4000)
    {z : Int32} (S : RoadKit.Sta Z h ST "COMPACT_STRINGS" "Z" (.int z)) (hz : ¬ z = 0) (hfr : 2 ≤ R.frames) (hlo : W + 28 ≤ R.locals) :
    Back l R p e below s args (⟨"java/lang/String", "equals", "(Ljava/lang/Object;)Z"⟩ : MethodName) len W (fun P a => a = #[.ref x, .ref y] ∧ P.U.heap = h ∧ P.cells + 0 ≤ R.cells ∧ P.slots + 0 ≤ R.slots)
      (fun P _ v B => ∃ L, (((v = some (.int 1) ∧ cs = ds) ∨ (v = some (.int 0) ∧ ¬ cs = ds)) ∧ L = [] ∧ B.U.heap = h) ∧ B.locs = P.locs ++ L ∧ B.cells = P.cells + 0 ∧ B.slots = P.slots + 0) := by
  intro m meth c P g ig mk a X hg hsize hdg hW hn hp'
  obtain ⟨rfl, rfl, r1, r2⟩ := hp'
  have al : Z.vm.Alike P.U.vm := hZ.alike.trans X.warmed.alike
  obtain ⟨A, hx⟩ := txt_of wi al E V C K hc hb l2
  obtain ⟨A', hy⟩ := txt_of wi al E' V' C' K' hc' hb' l2'
  obtain ⟨v, B, X', ⟨⟨w, hv, hh, hq⟩, hl, hk, hs⟩, st⟩ := SEq.pays x t A cd cs.length (fun j => cs.getD j 0) y t' A' cd' ds.length (fun j => ds.getD j 0) z (tabEq_of (movedEq hZ hw)) hfr hlo m meth c P g ig mk _ X hg hsize hdg hW hn ⟨r1, r2, rfl, hx, hy, sta_is al S, hz⟩
  refine ⟨v, B, X', ⟨[], ⟨?_, rfl, hh⟩, hl, hk, hs⟩, st⟩
  rcases hq with ⟨rfl, q⟩ | ⟨rfl, q⟩
  · exact Or.inl ⟨hv, (same_list cs ds).mp q⟩
  · exact Or.inr ⟨hv, fun e => q ((same_list cs ds).mpr e)⟩
end StrChars.Road
namespace StrChars.Road
open Jvm Sem ClassFile Op Lib Jvm.Stand Jvm.Free Jvm.Free.XT
open Jvm.Lib.Cold (StaticIs)
/-- what backV says of its String, as the contracts of this text ask it: cs's low bytes, coder 0 -/
theorem codOf {cs : List Int32} {n : Nat} (hn : cs.length = n) (hb : ∀ c ∈ cs, ¬ 255 < c) : CodA cs 0 (Int32.ofNat n) ((cs.map lo8).map Value.int) := Or.inl ⟨rfl, by rw [hn], by simp [List.map_map, Function.comp_def], hb⟩
end StrChars.Road
end Jvm.Pilot.@@N@@
namespace Jvm.Pilot.@@N@@
open Jvm Jvm.ClassFile Sem Op Lib Jvm.Free Jvm.Stand Jvm.LawKit Jvm.RoadKit Bundle Jvm.Pilot.@@N@@.Jvm.D

section OwnKit
variable {G : State → JFrame → Prop} {p : Program} {l : Launch} {e : Env} {R : Room} {s : State} {m : MethodId} {args : Array Value} {below : List Frame} {meth : Method} {c : Code} {Z : State} {n0 : Nat} {own nm : String} {bytes : ByteArray} {maxL : Nat} {ret : Option FieldType} {T : State} {h : Heap} {cells slots : Nat} {a0 : Array Value}
def own_Cl (p : Program) (e : Env) (below : List Frame) (G : State → JFrame → Prop) : Prop :=
  ∀ (T T' : State) (g g' : JFrame), (∀ t, Steps p.tables e below (T'.setTop g') t → Steps p.tables e below (T.setTop g) t) → G T' g' → G T g
def own_Cx (p : Program) (s : State) (m : MethodId) (meth : Method) (c : Code) (Z : State) (own nm : String) (bytes : ByteArray) (maxL : Nat) (ret : Option FieldType) : Prop :=
  p.tables.exec = Jvm.exec ∧ c.code = bytes ∧ Z.Warmed39 s.vm ∧ s.vm.findClass own = some m.cls ∧ c.maxLocals = maxL ∧ meth.name = nm ∧ meth.sig.returnType = ret ∧ meth.locks = false
def own_At (G : State → JFrame → Prop) (p : Program) (l : Launch) (e : Env) (R : Room) (s : State) (m : MethodId) (args : Array Value) (below : List Frame) (meth : Method) (c : Code) (Z : State) (n0 : Nat) (own nm : String) (bytes : ByteArray) (maxL : Nat) (ret : Option FieldType) (T : State) (h : Heap) (cells slots : Nat) : Prop :=
  own_Cl p e below G ∧ own_Cx p s m meth c Z own nm bytes maxL ret ∧ ∃ locs, Stand p l e R s m args below meth c T locs cells slots ∧ Fr n0 locs ∧ T.heap = h ∧ Old Z n0 h
def own_Fin (p : Program) (e : Env) (below : List Frame) (s : State) (Z : State) (n0 : Nat) (Q : Option Value → Heap → Prop) (k n : Nat) (T : State) (g : JFrame) : Prop :=
  ∃ s₂ o, Steps p.tables e below (T.setTop g) s₂ ∧ s₂.status = .running ∧ Ended s₂ below o ∧ ∃ v L, o = .returned v ∧ (Q v s₂.heap ∧ Fr n0 L ∧ Old Z n0 s₂.heap) ∧ FrameEnd s o s₂ L k n
theorem own_Fin_cl (p : Program) (e : Env) (below : List Frame) (s : State) (Z : State) (n0 : Nat) (Q : Option Value → Heap → Prop) (k n : Nat) : own_Cl p e below (own_Fin p e below s Z n0 Q k n) := by
  intro T T' g g' hs ⟨s₂, o, h1, h2⟩
  exact ⟨s₂, o, hs _ h1, h2⟩
/-- the contract of a body -/
def own_Met (l : Launch) (Z : State) (n0 : Nat) (y : MethodName) (bytes : ByteArray) (maxL : Nat) (ret : Option FieldType) (rm : Room) (as' : Array Value) (h0 : Heap) (Q : Option Value → Heap → Prop) : Prop :=
  ∀ ws, MetFree l y (head1 (Jvm.Cond.code y bytes maxL ret :: ws) rm) (fun a U => a = as' ∧ Z.Warmed39 U.vm ∧ U.heap = h0) (fun _ _ _ _ _ => True) (fun _ U o U' => ∃ v L, o = .returned v ∧ (Q v U'.heap ∧ Fr n0 L ∧ Old Z n0 U'.heap) ∧ FrameEnd U o U' L rm.cells rm.slots)
theorem own_enter {y : MethodName} {rm : Room} {as' : Array Value} {h0 : Heap} {Q : Option Value → Heap → Prop} (hpn : plainName y.cls = true) (ho : y.cls = own) (hn : y.name = nm) (hO : Old Z n0 h0)
    (H : ∀ (G : State → JFrame → Prop) (p : Program) (e : Env) (s : State) (m : MethodId) (below : List Frame) (meth : Method) (c : Code) (T : State), G = own_Fin p e below s Z n0 Q rm.cells rm.slots → own_At G p l e rm s m as' below meth c Z n0 own nm bytes maxL ret T h0 0 0 → G T (entryFrame m as' maxL)) :
    own_Met l Z n0 y bytes maxL ret rm as' h0 Q := by
  intro ws
  subst ho hn
  refine MetFree.of_bodySF (plainFor_of_name hpn) hisR ?_
  intro p e s m args below meth c s₁ Bd hml0 hP hK
  obtain ⟨rfl, hZ, hh⟩ := hP
  have e0 : s₁.heap = h0 := by rw [← hh, Bd.state]; rfl
  obtain ⟨s₂, o, h1, h2, h3, h4⟩ := H _ p e s m below meth c s₁ rfl ⟨own_Fin_cl p e below s Z n0 Q rm.cells rm.slots, ⟨Bd.exec, Bd.bytes, hZ, findClass_of_methodNamed Bd.named, hml0, (name_of_methodNamed Bd.named Bd.method).1, Bd.returns, BodyLoose.notSynchronized Bd⟩, [], Stand.of_body Bd, Fr.nil n0, e0, hO⟩
  exact ⟨s₂, o, h1, h2, h3, h4⟩
theorem own_at_heap (X : own_At G p l e R s m args below meth c Z n0 own nm bytes maxL ret T h cells slots) : T.heap = h := by obtain ⟨-, -, _, -, -, e, -⟩ := X; exact e
theorem own_old (X : own_At G p l e R s m args below meth c Z n0 own nm bytes maxL ret T h cells slots) : Old Z n0 h := by obtain ⟨-, -, _, -, -, -, e⟩ := X; exact e
theorem own_sta (X : own_At G p l e R s m args below meth c Z n0 own nm bytes maxL ret T h cells slots) {C n d : String} {v : Value} (S : Sta Z Z.heap C n d v) : Sta Z h C n d v := S.ext (own_old X).2
theorem own_n0 (X : own_At G p l e R s m args below meth c Z n0 own nm bytes maxL ret T h cells slots) : n0 ≤ h.size := by have := own_old X; rw [← this.1]; exact this.2.1
theorem own_mono (X : own_At G p l e R s m args below meth c Z n0 own nm bytes maxL ret T h cells slots) {cells' slots' : Nat} (h1 : cells ≤ cells') (h2 : slots ≤ slots') : own_At G p l e R s m args below meth c Z n0 own nm bytes maxL ret T h cells' slots' := by
  obtain ⟨hG, C, L, X, r⟩ := X
  exact ⟨hG, C, L, { X with same := X.same.mono h1 h2 }, r⟩
theorem own_ret {Q : Option Value → Heap → Prop} {k n : Nat} (X : own_At G p l e R s m args below meth c Z n0 own nm bytes maxL ret T h cells slots) (hGe : G = own_Fin p e below s Z n0 Q k n) {pc : Nat} {Ls : Array Slot} {w : Value} {t : FieldType} {i : Instr} {rest : List Value} (hret : ret = some t) (hn : narrow t w = w)
    (hi : (i = .ireturn ∧ (t = .int ∨ t = .boolean ∨ t = .byte ∨ t = .char ∨ t = .short) ∧ ∃ z, w = .int z) ∨ (i = .lreturn ∧ t = .long ∧ ∃ z, w = .long z) ∨ (i = .dreturn ∧ t = .double ∧ ∃ z, w = .double z) ∨ (i = .freturn ∧ t = .float ∧ ∃ z, w = .float z) ∨ (i = .areturn ∧ t.isReference = true ∧ w.isRef = true))
    (hd : decode bytes pc = .ok (i, 1)) (hk : cells ≤ k) (hs : slots ≤ n) (hQ : Q (some w) h) : G T (mkF m pc Ls (w :: rest)) := by
  obtain ⟨-, ⟨c1, c2, c3, c4, c5, c6, c7, c8⟩, L, X, N, eT, O⟩ := X
  have hr' : meth.sig.returnType = some t := c7.trans hret
  obtain ⟨fs, hr, hrun, hended, hW, hsame⟩ := X.leave (v := some w) (fun h => by rw [hr'] at h; cases h)
  rw [hGe]
  exact ⟨_, _, retOut X c1 hr' hn hi (hb c2 hd) hr, hrun, hended, _, L, rfl, ⟨by show Q _ T.heap; rw [eT]; exact hQ, N, by show Old Z n0 T.heap; rw [eT]; exact O⟩, ⟨_, rfl⟩, hW, hsame.mono hk hs⟩
theorem own_retV {Q : Option Value → Heap → Prop} {k n : Nat} (X : own_At G p l e R s m args below meth c Z n0 own nm bytes maxL ret T h cells slots) (hGe : G = own_Fin p e below s Z n0 Q k n) {pc : Nat} {Ls : Array Slot} (hret : ret = none)
    (hd : decode bytes pc = .ok (.return_, 1)) (hk : cells ≤ k) (hs : slots ≤ n) (hQ : Q none h) : G T (mkF m pc Ls []) := by
  obtain ⟨-, ⟨c1, c2, c3, c4, c5, c6, c7, c8⟩, L, X, N, eT, O⟩ := X
  have hr' : meth.sig.returnType = none := c7.trans hret
  obtain ⟨fs, hr, hrun, hended, hW, hsame⟩ := X.leave (v := none) (fun _ => rfl)
  rw [hGe]
  exact ⟨_, _, X.returnOut c1 hr' (hb c2 hd) hr, hrun, hended, _, L, rfl, ⟨by show Q _ T.heap; rw [eT]; exact hQ, N, by show Old Z n0 T.heap; rw [eT]; exact O⟩, ⟨_, rfl⟩, hW, hsame.mono hk hs⟩
theorem own_ne {a b : Addr} {n m : Nat} (h1 : a < n) (h2 : n ≤ m) (h3 : m ≤ b) : a ≠ b := Nat.ne_of_lt (Nat.lt_of_lt_of_le h1 (Nat.le_trans h2 h3))
theorem own_ifc {P Q : Prop} [Decidable P] [Decidable Q] (h : P ↔ Q) : (if P then (1 : Int32) else 0) = if Q then 1 else 0 := by
  by_cases q : P
  · rw [if_pos q, if_pos (h.mp q)]
  · rw [if_neg q, if_neg (fun z => q (h.mpr z))]
def own_c16 (x : Int32) : Int32 := x.toUInt32.toUInt16.toUInt32.toInt32
def own_b8 (x : Int32) : Int32 := x.toInt8.toInt32
def own_ushr (x k : Int32) : Int32 := (x.toUInt32 >>> (k &&& 31).toUInt32).toInt32

theorem own_aconst_null (X : own_At G p l e R s m args below meth c Z n0 own nm bytes maxL ret T h cells slots) {pc pc' : Nat} {Ls : Array Slot} {st : List Value} (hd : decode bytes pc = .ok (.aconst_null, 1)) (hp : pc' = pc + 1)  (k : G T (mkF m pc' Ls (.null :: st))) : G T (mkF m pc Ls st) := by
  obtain ⟨hG, ⟨c1, c2, -⟩, L, X, -⟩ := X
  subst hp
  exact hG _ _ _ _ (fun t q => XS.aconstNull X.here c1 rfl (hb c2 hd) q) k
theorem own_iconst (X : own_At G p l e R s m args below meth c Z n0 own nm bytes maxL ret T h cells slots) {pc pc' : Nat} {Ls : Array Slot} {st : List Value} {i : Int} {z : Int32} (hd : decode bytes pc = .ok (.iconst i, 1)) (hp : pc' = pc + 1) (hz : Int32.ofInt i = z) (k : G T (mkF m pc' Ls (.int z :: st))) : G T (mkF m pc Ls st) := by
  obtain ⟨hG, ⟨c1, c2, -⟩, L, X, -⟩ := X
  subst hp
  exact hG _ _ _ _ (fun t q => XS.iconst X.here c1 rfl (hb c2 hd) (by rw [hz]; exact q)) k
theorem own_bipush (X : own_At G p l e R s m args below meth c Z n0 own nm bytes maxL ret T h cells slots) {pc pc' : Nat} {Ls : Array Slot} {st : List Value} {i : Int} {z : Int32} (hd : decode bytes pc = .ok (.bipush i, 2)) (hp : pc' = pc + 2) (hz : (Int8.ofInt i).toInt32 = z) (k : G T (mkF m pc' Ls (.int z :: st))) : G T (mkF m pc Ls st) := by
  obtain ⟨hG, ⟨c1, c2, -⟩, L, X, -⟩ := X
  subst hp
  exact hG _ _ _ _ (fun t q => XS.bipush X.here c1 rfl (hb c2 hd) (by rw [hz]; exact q)) k
theorem own_sipush (X : own_At G p l e R s m args below meth c Z n0 own nm bytes maxL ret T h cells slots) {pc pc' : Nat} {Ls : Array Slot} {st : List Value} {i : Int} {z : Int32} (hd : decode bytes pc = .ok (.sipush i, 3)) (hp : pc' = pc + 3) (hz : (Int16.ofInt i).toInt32 = z) (k : G T (mkF m pc' Ls (.int z :: st))) : G T (mkF m pc Ls st) := by
  obtain ⟨hG, ⟨c1, c2, -⟩, L, X, -⟩ := X
  subst hp
  exact hG _ _ _ _ (fun t q => XS.sipush X.here c1 rfl (hb c2 hd) (by rw [hz]; exact q)) k
theorem own_lconst (X : own_At G p l e R s m args below meth c Z n0 own nm bytes maxL ret T h cells slots) {pc pc' : Nat} {Ls : Array Slot} {st : List Value} {i : Fin 2} {z : Int64} (hd : decode bytes pc = .ok (.lconst i, 1)) (hp : pc' = pc + 1) (hz : Int64.ofNat i = z) (k : G T (mkF m pc' Ls (.long z :: st))) : G T (mkF m pc Ls st) := by
  obtain ⟨hG, ⟨c1, c2, -⟩, L, X, -⟩ := X
  subst hp
  exact hG _ _ _ _ (fun t q => XS.lconst X.here c1 rfl (hb c2 hd) (by rw [hz]; exact q)) k
theorem own_iload_n (X : own_At G p l e R s m args below meth c Z n0 own nm bytes maxL ret T h cells slots) {pc pc' : Nat} {Ls : Array Slot} {st : List Value} {i : Fin 4} {v : Int32} (hd : decode bytes pc = .ok (.iload_n i, 1)) (hp : pc' = pc + 1) (hl : Ls[i.val]? = some (.val (.int v))) (k : G T (mkF m pc' Ls (.int v :: st))) : G T (mkF m pc Ls st) := by
  obtain ⟨hG, ⟨c1, c2, -⟩, L, X, -⟩ := X
  subst hp
  exact hG _ _ _ _ (fun t q => XS.iloadN X.here c1 rfl (hb c2 hd) hl q) k
theorem own_iload (X : own_At G p l e R s m args below meth c Z n0 own nm bytes maxL ret T h cells slots) {pc pc' : Nat} {Ls : Array Slot} {st : List Value} {i : Nat} {v : Int32} (hd : decode bytes pc = .ok (.iload i, 2)) (hp : pc' = pc + 2) (hl : Ls[i]? = some (.val (.int v))) (k : G T (mkF m pc' Ls (.int v :: st))) : G T (mkF m pc Ls st) := by
  obtain ⟨hG, ⟨c1, c2, -⟩, L, X, -⟩ := X
  subst hp
  exact hG _ _ _ _ (fun t q => XS.iload X.here c1 rfl (hb c2 hd) hl q) k
theorem own_istore_n (X : own_At G p l e R s m args below meth c Z n0 own nm bytes maxL ret T h cells slots) {pc pc' : Nat} {Ls : Array Slot} {st : List Value} {i : Fin 4} {v : Int32} {Ls' : Array Slot} (hd : decode bytes pc = .ok (.istore_n i, 1)) (hp : pc' = pc + 1) (hl : storeLocals Ls i.val (.int v) = some Ls') (k : G T (mkF m pc' Ls' st)) : G T (mkF m pc Ls (.int v :: st)) := by
  obtain ⟨hG, ⟨c1, c2, -⟩, L, X, -⟩ := X
  subst hp
  exact hG _ _ _ _ (fun t q => XS.istoreN X.here c1 rfl (hb c2 hd) rfl hl q) k
theorem own_istore (X : own_At G p l e R s m args below meth c Z n0 own nm bytes maxL ret T h cells slots) {pc pc' : Nat} {Ls : Array Slot} {st : List Value} {i : Nat} {v : Int32} {Ls' : Array Slot} (hd : decode bytes pc = .ok (.istore i, 2)) (hp : pc' = pc + 2) (hl : storeLocals Ls i (.int v) = some Ls') (k : G T (mkF m pc' Ls' st)) : G T (mkF m pc Ls (.int v :: st)) := by
  obtain ⟨hG, ⟨c1, c2, -⟩, L, X, -⟩ := X
  subst hp
  exact hG _ _ _ _ (fun t q => XS.istore X.here c1 rfl (hb c2 hd) rfl hl q) k
theorem own_lload_n (X : own_At G p l e R s m args below meth c Z n0 own nm bytes maxL ret T h cells slots) {pc pc' : Nat} {Ls : Array Slot} {st : List Value} {i : Fin 4} {v : Int64} (hd : decode bytes pc = .ok (.lload_n i, 1)) (hp : pc' = pc + 1) (hl : Ls[i.val]? = some (.val (.long v))) (k : G T (mkF m pc' Ls (.long v :: st))) : G T (mkF m pc Ls st) := by
  obtain ⟨hG, ⟨c1, c2, -⟩, L, X, -⟩ := X
  subst hp
  exact hG _ _ _ _ (fun t q => XS.lloadN X.here c1 rfl (hb c2 hd) hl q) k
theorem own_lload (X : own_At G p l e R s m args below meth c Z n0 own nm bytes maxL ret T h cells slots) {pc pc' : Nat} {Ls : Array Slot} {st : List Value} {i : Nat} {v : Int64} (hd : decode bytes pc = .ok (.lload i, 2)) (hp : pc' = pc + 2) (hl : Ls[i]? = some (.val (.long v))) (k : G T (mkF m pc' Ls (.long v :: st))) : G T (mkF m pc Ls st) := by
  obtain ⟨hG, ⟨c1, c2, -⟩, L, X, -⟩ := X
  subst hp
  exact hG _ _ _ _ (fun t q => XS.lload X.here c1 rfl (hb c2 hd) hl q) k
theorem own_lstore_n (X : own_At G p l e R s m args below meth c Z n0 own nm bytes maxL ret T h cells slots) {pc pc' : Nat} {Ls : Array Slot} {st : List Value} {i : Fin 4} {v : Int64} {Ls' : Array Slot} (hd : decode bytes pc = .ok (.lstore_n i, 1)) (hp : pc' = pc + 1) (hl : storeLocals Ls i.val (.long v) = some Ls') (k : G T (mkF m pc' Ls' st)) : G T (mkF m pc Ls (.long v :: st)) := by
  obtain ⟨hG, ⟨c1, c2, -⟩, L, X, -⟩ := X
  subst hp
  exact hG _ _ _ _ (fun t q => XS.lstoreN X.here c1 rfl (hb c2 hd) rfl hl q) k
theorem own_lstore (X : own_At G p l e R s m args below meth c Z n0 own nm bytes maxL ret T h cells slots) {pc pc' : Nat} {Ls : Array Slot} {st : List Value} {i : Nat} {v : Int64} {Ls' : Array Slot} (hd : decode bytes pc = .ok (.lstore i, 2)) (hp : pc' = pc + 2) (hl : storeLocals Ls i (.long v) = some Ls') (k : G T (mkF m pc' Ls' st)) : G T (mkF m pc Ls (.long v :: st)) := by
  obtain ⟨hG, ⟨c1, c2, -⟩, L, X, -⟩ := X
  subst hp
  exact hG _ _ _ _ (fun t q => XS.lstore X.here c1 rfl (hb c2 hd) rfl hl q) k
theorem own_aload_n (X : own_At G p l e R s m args below meth c Z n0 own nm bytes maxL ret T h cells slots) {pc pc' : Nat} {Ls : Array Slot} {st : List Value} {i : Fin 4} {v : Value} (hd : decode bytes pc = .ok (.aload_n i, 1)) (hp : pc' = pc + 1) (hl : Ls[i.val]? = some (.val v)) (hv : v.isRef = true) (k : G T (mkF m pc' Ls (v :: st))) : G T (mkF m pc Ls st) := by
  obtain ⟨hG, ⟨c1, c2, -⟩, L, X, -⟩ := X
  subst hp
  exact hG _ _ _ _ (fun t q => XS.aloadN X.here c1 rfl (hb c2 hd) hl hv q) k
theorem own_aload (X : own_At G p l e R s m args below meth c Z n0 own nm bytes maxL ret T h cells slots) {pc pc' : Nat} {Ls : Array Slot} {st : List Value} {i : Nat} {v : Value} (hd : decode bytes pc = .ok (.aload i, 2)) (hp : pc' = pc + 2) (hl : Ls[i]? = some (.val v)) (hv : v.isRef = true) (k : G T (mkF m pc' Ls (v :: st))) : G T (mkF m pc Ls st) := by
  obtain ⟨hG, ⟨c1, c2, -⟩, L, X, -⟩ := X
  subst hp
  exact hG _ _ _ _ (fun t q => XS.aload X.here c1 rfl (hb c2 hd) hl hv q) k
theorem own_astore_n (X : own_At G p l e R s m args below meth c Z n0 own nm bytes maxL ret T h cells slots) {pc pc' : Nat} {Ls : Array Slot} {st : List Value} {i : Fin 4} {v : Value} {Ls' : Array Slot} (hd : decode bytes pc = .ok (.astore_n i, 1)) (hp : pc' = pc + 1) (hv : v.isRef = true) (hl : storeLocals Ls i.val v = some Ls') (k : G T (mkF m pc' Ls' st)) : G T (mkF m pc Ls (v :: st)) := by
  obtain ⟨hG, ⟨c1, c2, -⟩, L, X, -⟩ := X
  subst hp
  exact hG _ _ _ _ (fun t q => XS.astoreN X.here c1 rfl (hb c2 hd) rfl hv hl q) k
theorem own_astore (X : own_At G p l e R s m args below meth c Z n0 own nm bytes maxL ret T h cells slots) {pc pc' : Nat} {Ls : Array Slot} {st : List Value} {i : Nat} {v : Value} {Ls' : Array Slot} (hd : decode bytes pc = .ok (.astore i, 2)) (hp : pc' = pc + 2) (hv : v.isRef = true) (hl : storeLocals Ls i v = some Ls') (k : G T (mkF m pc' Ls' st)) : G T (mkF m pc Ls (v :: st)) := by
  obtain ⟨hG, ⟨c1, c2, -⟩, L, X, -⟩ := X
  subst hp
  exact hG _ _ _ _ (fun t q => XS.astore X.here c1 rfl (hb c2 hd) rfl hv hl q) k
theorem own_iinc (X : own_At G p l e R s m args below meth c Z n0 own nm bytes maxL ret T h cells slots) {pc pc' : Nat} {Ls : Array Slot} {st : List Value} {i : Nat} {cst : Int} {v z r : Int32} {Ls' : Array Slot} (hd : decode bytes pc = .ok (.iinc i cst, 3)) (hp : pc' = pc + 3) (hl : Ls[i]? = some (.val (.int v))) (hz : Int32.ofInt cst = z) (hr : v + z = r) (hs : storeLocals Ls i (.int r) = some Ls') (k : G T (mkF m pc' Ls' st)) : G T (mkF m pc Ls st) := by
  obtain ⟨hG, ⟨c1, c2, -⟩, L, X, -⟩ := X
  subst hp
  exact hG _ _ _ _ (fun t q => XS.iinc X.here c1 rfl (hb c2 hd) hl (by rw [hz, hr]; exact hs) q) k
theorem own_xpop2 {locs : List Loc} {target : State} (X : Stand p l e R s m args below meth c T locs cells slots) (hx : p.tables.exec = Jvm.exec) {pc : Nat} {Ls : Array Slot} {x : Int64} {rest : List Value} (hd : decode c.code pc = .ok (.pop2, 1)) (hr : Steps p.tables e below (T.setTop (mkF m (pc + 1) Ls rest)) target) : Steps p.tables e below (T.setTop (mkF m pc Ls (.long x :: rest))) target := by
  jvm_step X.here [X.here.top, hx, hd, pop2.sem, Value.category]
  exact hr
theorem own_iadd (X : own_At G p l e R s m args below meth c Z n0 own nm bytes maxL ret T h cells slots) {pc pc' : Nat} {Ls : Array Slot} {st : List Value} {x y r : Int32} (hd : decode bytes pc = .ok (.iadd, 1)) (hp : pc' = pc + 1) (hr : x + y = r) (k : G T (mkF m pc' Ls (.int r :: st))) : G T (mkF m pc Ls (.int y :: .int x :: st)) := by
  obtain ⟨hG, ⟨c1, c2, -⟩, L, X, -⟩ := X
  subst hp
  exact hG _ _ _ _ (fun t q => XS.iadd X.here c1 rfl (hb c2 hd) rfl (by subst hr; exact q)) k
theorem own_isub (X : own_At G p l e R s m args below meth c Z n0 own nm bytes maxL ret T h cells slots) {pc pc' : Nat} {Ls : Array Slot} {st : List Value} {x y r : Int32} (hd : decode bytes pc = .ok (.isub, 1)) (hp : pc' = pc + 1) (hr : x - y = r) (k : G T (mkF m pc' Ls (.int r :: st))) : G T (mkF m pc Ls (.int y :: .int x :: st)) := by
  obtain ⟨hG, ⟨c1, c2, -⟩, L, X, -⟩ := X
  subst hp
  exact hG _ _ _ _ (fun t q => XS.isub X.here c1 rfl (hb c2 hd) rfl (by subst hr; exact q)) k
theorem own_imul (X : own_At G p l e R s m args below meth c Z n0 own nm bytes maxL ret T h cells slots) {pc pc' : Nat} {Ls : Array Slot} {st : List Value} {x y r : Int32} (hd : decode bytes pc = .ok (.imul, 1)) (hp : pc' = pc + 1) (hr : x * y = r) (k : G T (mkF m pc' Ls (.int r :: st))) : G T (mkF m pc Ls (.int y :: .int x :: st)) := by
  obtain ⟨hG, ⟨c1, c2, -⟩, L, X, -⟩ := X
  subst hp
  exact hG _ _ _ _ (fun t q => XS.imul X.here c1 rfl (hb c2 hd) rfl (by subst hr; exact q)) k
theorem own_iand (X : own_At G p l e R s m args below meth c Z n0 own nm bytes maxL ret T h cells slots) {pc pc' : Nat} {Ls : Array Slot} {st : List Value} {x y r : Int32} (hd : decode bytes pc = .ok (.iand, 1)) (hp : pc' = pc + 1) (hr : x &&& y = r) (k : G T (mkF m pc' Ls (.int r :: st))) : G T (mkF m pc Ls (.int y :: .int x :: st)) := by
  obtain ⟨hG, ⟨c1, c2, -⟩, L, X, -⟩ := X
  subst hp
  exact hG _ _ _ _ (fun t q => XS.iand X.here c1 rfl (hb c2 hd) rfl (by subst hr; exact q)) k
theorem own_ior (X : own_At G p l e R s m args below meth c Z n0 own nm bytes maxL ret T h cells slots) {pc pc' : Nat} {Ls : Array Slot} {st : List Value} {x y r : Int32} (hd : decode bytes pc = .ok (.ior, 1)) (hp : pc' = pc + 1) (hr : x ||| y = r) (k : G T (mkF m pc' Ls (.int r :: st))) : G T (mkF m pc Ls (.int y :: .int x :: st)) := by
  obtain ⟨hG, ⟨c1, c2, -⟩, L, X, -⟩ := X
  subst hp
  exact hG _ _ _ _ (fun t q => XS.ior X.here c1 rfl (hb c2 hd) rfl (by subst hr; exact q)) k
theorem own_ixor (X : own_At G p l e R s m args below meth c Z n0 own nm bytes maxL ret T h cells slots) {pc pc' : Nat} {Ls : Array Slot} {st : List Value} {x y r : Int32} (hd : decode bytes pc = .ok (.ixor, 1)) (hp : pc' = pc + 1) (hr : x ^^^ y = r) (k : G T (mkF m pc' Ls (.int r :: st))) : G T (mkF m pc Ls (.int y :: .int x :: st)) := by
  obtain ⟨hG, ⟨c1, c2, -⟩, L, X, -⟩ := X
  subst hp
  exact hG _ _ _ _ (fun t q => XS.ixor X.here c1 rfl (hb c2 hd) rfl (by subst hr; exact q)) k
theorem own_ishl (X : own_At G p l e R s m args below meth c Z n0 own nm bytes maxL ret T h cells slots) {pc pc' : Nat} {Ls : Array Slot} {st : List Value} {x y r : Int32} (hd : decode bytes pc = .ok (.ishl, 1)) (hp : pc' = pc + 1) (hr : x <<< (y &&& 31) = r) (k : G T (mkF m pc' Ls (.int r :: st))) : G T (mkF m pc Ls (.int y :: .int x :: st)) := by
  obtain ⟨hG, ⟨c1, c2, -⟩, L, X, -⟩ := X
  subst hp
  exact hG _ _ _ _ (fun t q => XS.ishl X.here c1 rfl (hb c2 hd) rfl (by subst hr; exact q)) k
theorem own_ishr (X : own_At G p l e R s m args below meth c Z n0 own nm bytes maxL ret T h cells slots) {pc pc' : Nat} {Ls : Array Slot} {st : List Value} {x y r : Int32} (hd : decode bytes pc = .ok (.ishr, 1)) (hp : pc' = pc + 1) (hr : x >>> (y &&& 31) = r) (k : G T (mkF m pc' Ls (.int r :: st))) : G T (mkF m pc Ls (.int y :: .int x :: st)) := by
  obtain ⟨hG, ⟨c1, c2, -⟩, L, X, -⟩ := X
  subst hp
  exact hG _ _ _ _ (fun t q => XS.ishr X.here c1 rfl (hb c2 hd) rfl (by subst hr; exact q)) k
theorem own_iushr (X : own_At G p l e R s m args below meth c Z n0 own nm bytes maxL ret T h cells slots) {pc pc' : Nat} {Ls : Array Slot} {st : List Value} {x y r : Int32} (hd : decode bytes pc = .ok (.iushr, 1)) (hp : pc' = pc + 1) (hr : own_ushr x y = r) (k : G T (mkF m pc' Ls (.int r :: st))) : G T (mkF m pc Ls (.int y :: .int x :: st)) := by
  obtain ⟨hG, ⟨c1, c2, -⟩, L, X, -⟩ := X
  subst hp
  exact hG _ _ _ _ (fun t q => XS.iushr X.here c1 rfl (hb c2 hd) rfl (by subst hr; exact q)) k
theorem own_ladd (X : own_At G p l e R s m args below meth c Z n0 own nm bytes maxL ret T h cells slots) {pc pc' : Nat} {Ls : Array Slot} {st : List Value} {x y r : Int64} (hd : decode bytes pc = .ok (.ladd, 1)) (hp : pc' = pc + 1) (hr : x + y = r) (k : G T (mkF m pc' Ls (.long r :: st))) : G T (mkF m pc Ls (.long y :: .long x :: st)) := by
  obtain ⟨hG, ⟨c1, c2, -⟩, L, X, -⟩ := X
  subst hp
  exact hG _ _ _ _ (fun t q => XS.ladd X.here c1 rfl (hb c2 hd) rfl (by subst hr; exact q)) k
theorem own_lsub (X : own_At G p l e R s m args below meth c Z n0 own nm bytes maxL ret T h cells slots) {pc pc' : Nat} {Ls : Array Slot} {st : List Value} {x y r : Int64} (hd : decode bytes pc = .ok (.lsub, 1)) (hp : pc' = pc + 1) (hr : x - y = r) (k : G T (mkF m pc' Ls (.long r :: st))) : G T (mkF m pc Ls (.long y :: .long x :: st)) := by
  obtain ⟨hG, ⟨c1, c2, -⟩, L, X, -⟩ := X
  subst hp
  exact hG _ _ _ _ (fun t q => XS.lsub X.here c1 rfl (hb c2 hd) rfl (by subst hr; exact q)) k
theorem own_lmul (X : own_At G p l e R s m args below meth c Z n0 own nm bytes maxL ret T h cells slots) {pc pc' : Nat} {Ls : Array Slot} {st : List Value} {x y r : Int64} (hd : decode bytes pc = .ok (.lmul, 1)) (hp : pc' = pc + 1) (hr : x * y = r) (k : G T (mkF m pc' Ls (.long r :: st))) : G T (mkF m pc Ls (.long y :: .long x :: st)) := by
  obtain ⟨hG, ⟨c1, c2, -⟩, L, X, -⟩ := X
  subst hp
  exact hG _ _ _ _ (fun t q => XS.lmul X.here c1 rfl (hb c2 hd) rfl (by subst hr; exact q)) k
theorem own_land (X : own_At G p l e R s m args below meth c Z n0 own nm bytes maxL ret T h cells slots) {pc pc' : Nat} {Ls : Array Slot} {st : List Value} {x y r : Int64} (hd : decode bytes pc = .ok (.land, 1)) (hp : pc' = pc + 1) (hr : x &&& y = r) (k : G T (mkF m pc' Ls (.long r :: st))) : G T (mkF m pc Ls (.long y :: .long x :: st)) := by
  obtain ⟨hG, ⟨c1, c2, -⟩, L, X, -⟩ := X
  subst hp
  exact hG _ _ _ _ (fun t q => XS.land X.here c1 rfl (hb c2 hd) rfl (by subst hr; exact q)) k
theorem own_lor (X : own_At G p l e R s m args below meth c Z n0 own nm bytes maxL ret T h cells slots) {pc pc' : Nat} {Ls : Array Slot} {st : List Value} {x y r : Int64} (hd : decode bytes pc = .ok (.lor, 1)) (hp : pc' = pc + 1) (hr : x ||| y = r) (k : G T (mkF m pc' Ls (.long r :: st))) : G T (mkF m pc Ls (.long y :: .long x :: st)) := by
  obtain ⟨hG, ⟨c1, c2, -⟩, L, X, -⟩ := X
  subst hp
  exact hG _ _ _ _ (fun t q => XS.lor X.here c1 rfl (hb c2 hd) rfl (by subst hr; exact q)) k
theorem own_lxor (X : own_At G p l e R s m args below meth c Z n0 own nm bytes maxL ret T h cells slots) {pc pc' : Nat} {Ls : Array Slot} {st : List Value} {x y r : Int64} (hd : decode bytes pc = .ok (.lxor, 1)) (hp : pc' = pc + 1) (hr : x ^^^ y = r) (k : G T (mkF m pc' Ls (.long r :: st))) : G T (mkF m pc Ls (.long y :: .long x :: st)) := by
  obtain ⟨hG, ⟨c1, c2, -⟩, L, X, -⟩ := X
  subst hp
  exact hG _ _ _ _ (fun t q => XS.lxor X.here c1 rfl (hb c2 hd) rfl (by subst hr; exact q)) k
theorem own_lshl (X : own_At G p l e R s m args below meth c Z n0 own nm bytes maxL ret T h cells slots) {pc pc' : Nat} {Ls : Array Slot} {st : List Value} {x r : Int64} {y : Int32} (hd : decode bytes pc = .ok (.lshl, 1)) (hp : pc' = pc + 1) (hr : x <<< (y &&& 0x3f).toInt64 = r) (k : G T (mkF m pc' Ls (.long r :: st))) : G T (mkF m pc Ls (.int y :: .long x :: st)) := by
  obtain ⟨hG, ⟨c1, c2, -⟩, L, X, -⟩ := X
  subst hp
  exact hG _ _ _ _ (fun t q => XS.lshl X.here c1 rfl (hb c2 hd) rfl (by subst hr; exact q)) k
theorem own_lshr (X : own_At G p l e R s m args below meth c Z n0 own nm bytes maxL ret T h cells slots) {pc pc' : Nat} {Ls : Array Slot} {st : List Value} {x r : Int64} {y : Int32} (hd : decode bytes pc = .ok (.lshr, 1)) (hp : pc' = pc + 1) (hr : x >>> (y &&& 0x3f).toInt64 = r) (k : G T (mkF m pc' Ls (.long r :: st))) : G T (mkF m pc Ls (.int y :: .long x :: st)) := by
  obtain ⟨hG, ⟨c1, c2, -⟩, L, X, -⟩ := X
  subst hp
  exact hG _ _ _ _ (fun t q => XS.lshr X.here c1 rfl (hb c2 hd) rfl (by subst hr; exact q)) k
theorem own_idiv (X : own_At G p l e R s m args below meth c Z n0 own nm bytes maxL ret T h cells slots) {pc pc' : Nat} {Ls : Array Slot} {st : List Value} {x y : Int32} (hd : decode bytes pc = .ok (.idiv, 1)) (hp : pc' = pc + 1) (hy : y ≠ 0) (k : G T (mkF m pc' Ls (.int (x / y) :: st))) : G T (mkF m pc Ls (.int y :: .int x :: st)) := by
  obtain ⟨hG, ⟨c1, c2, -⟩, L, X, -⟩ := X
  subst hp
  exact hG _ _ _ _ (fun t q => XS.idiv X.here c1 rfl (hb c2 hd) rfl hy q) k
theorem own_irem (X : own_At G p l e R s m args below meth c Z n0 own nm bytes maxL ret T h cells slots) {pc pc' : Nat} {Ls : Array Slot} {st : List Value} {x y : Int32} (hd : decode bytes pc = .ok (.irem, 1)) (hp : pc' = pc + 1) (hy : y ≠ 0) (k : G T (mkF m pc' Ls (.int (x % y) :: st))) : G T (mkF m pc Ls (.int y :: .int x :: st)) := by
  obtain ⟨hG, ⟨c1, c2, -⟩, L, X, -⟩ := X
  subst hp
  exact hG _ _ _ _ (fun t q => iremM X c1 rfl (hb c2 hd) rfl hy q) k
theorem own_ldiv (X : own_At G p l e R s m args below meth c Z n0 own nm bytes maxL ret T h cells slots) {pc pc' : Nat} {Ls : Array Slot} {st : List Value} {x y : Int64} (hd : decode bytes pc = .ok (.ldiv, 1)) (hp : pc' = pc + 1) (hy : y ≠ 0) (k : G T (mkF m pc' Ls (.long (x / y) :: st))) : G T (mkF m pc Ls (.long y :: .long x :: st)) := by
  obtain ⟨hG, ⟨c1, c2, -⟩, L, X, -⟩ := X
  subst hp
  exact hG _ _ _ _ (fun t q => XS.ldiv X.here c1 rfl (hb c2 hd) rfl hy q) k
theorem own_lrem (X : own_At G p l e R s m args below meth c Z n0 own nm bytes maxL ret T h cells slots) {pc pc' : Nat} {Ls : Array Slot} {st : List Value} {x y : Int64} (hd : decode bytes pc = .ok (.lrem, 1)) (hp : pc' = pc + 1) (hy : y ≠ 0) (k : G T (mkF m pc' Ls (.long (x % y) :: st))) : G T (mkF m pc Ls (.long y :: .long x :: st)) := by
  obtain ⟨hG, ⟨c1, c2, -⟩, L, X, -⟩ := X
  subst hp
  exact hG _ _ _ _ (fun t q => XS.lrem X.here c1 rfl (hb c2 hd) rfl hy (by rw [lrem_mod]; exact q)) k
theorem own_ineg (X : own_At G p l e R s m args below meth c Z n0 own nm bytes maxL ret T h cells slots) {pc pc' : Nat} {Ls : Array Slot} {st : List Value} {x : Int32} (hd : decode bytes pc = .ok (.ineg, 1)) (hp : pc' = pc + 1)  (k : G T (mkF m pc' Ls (.int (-x) :: st))) : G T (mkF m pc Ls (.int x :: st)) := by
  obtain ⟨hG, ⟨c1, c2, -⟩, L, X, -⟩ := X
  subst hp
  exact hG _ _ _ _ (fun t q => XS.ineg X.here c1 rfl (hb c2 hd) rfl q) k
theorem own_i2c (X : own_At G p l e R s m args below meth c Z n0 own nm bytes maxL ret T h cells slots) {pc pc' : Nat} {Ls : Array Slot} {st : List Value} {x : Int32} (hd : decode bytes pc = .ok (.i2c, 1)) (hp : pc' = pc + 1)  (k : G T (mkF m pc' Ls (.int (own_c16 x) :: st))) : G T (mkF m pc Ls (.int x :: st)) := by
  obtain ⟨hG, ⟨c1, c2, -⟩, L, X, -⟩ := X
  subst hp
  exact hG _ _ _ _ (fun t q => XS.i2c X.here c1 rfl (hb c2 hd) rfl q) k
theorem own_i2b (X : own_At G p l e R s m args below meth c Z n0 own nm bytes maxL ret T h cells slots) {pc pc' : Nat} {Ls : Array Slot} {st : List Value} {x : Int32} (hd : decode bytes pc = .ok (.i2b, 1)) (hp : pc' = pc + 1)  (k : G T (mkF m pc' Ls (.int (own_b8 x) :: st))) : G T (mkF m pc Ls (.int x :: st)) := by
  obtain ⟨hG, ⟨c1, c2, -⟩, L, X, -⟩ := X
  subst hp
  exact hG _ _ _ _ (fun t q => XS.i2b X.here c1 rfl (hb c2 hd) rfl q) k
theorem own_i2l (X : own_At G p l e R s m args below meth c Z n0 own nm bytes maxL ret T h cells slots) {pc pc' : Nat} {Ls : Array Slot} {st : List Value} {x : Int32} {r : Int64} (hd : decode bytes pc = .ok (.i2l, 1)) (hp : pc' = pc + 1) (hr : x.toInt64 = r) (k : G T (mkF m pc' Ls (.long r :: st))) : G T (mkF m pc Ls (.int x :: st)) := by
  obtain ⟨hG, ⟨c1, c2, -⟩, L, X, -⟩ := X
  subst hp
  exact hG _ _ _ _ (fun t q => XS.i2l X.here c1 rfl (hb c2 hd) rfl (by subst hr; exact q)) k
theorem own_l2i (X : own_At G p l e R s m args below meth c Z n0 own nm bytes maxL ret T h cells slots) {pc pc' : Nat} {Ls : Array Slot} {st : List Value} {x : Int64} {r : Int32} (hd : decode bytes pc = .ok (.l2i, 1)) (hp : pc' = pc + 1) (hr : x.toInt32 = r) (k : G T (mkF m pc' Ls (.int r :: st))) : G T (mkF m pc Ls (.long x :: st)) := by
  obtain ⟨hG, ⟨c1, c2, -⟩, L, X, -⟩ := X
  subst hp
  exact hG _ _ _ _ (fun t q => XS.l2i X.here c1 rfl (hb c2 hd) rfl (by subst hr; exact q)) k
theorem own_pop2L (X : own_At G p l e R s m args below meth c Z n0 own nm bytes maxL ret T h cells slots) {pc pc' : Nat} {Ls : Array Slot} {st : List Value} {x : Int64} (hd : decode bytes pc = .ok (.pop2, 1)) (hp : pc' = pc + 1)  (k : G T (mkF m pc' Ls st)) : G T (mkF m pc Ls (.long x :: st)) := by
  obtain ⟨hG, ⟨c1, c2, -⟩, L, X, -⟩ := X
  subst hp
  exact hG _ _ _ _ (fun t q => own_xpop2 X c1 (hb c2 hd) q) k
theorem own_lcmp (X : own_At G p l e R s m args below meth c Z n0 own nm bytes maxL ret T h cells slots) {pc pc' : Nat} {Ls : Array Slot} {st : List Value} {x y : Int64} (hd : decode bytes pc = .ok (.lcmp, 1)) (hp : pc' = pc + 1)  (k : G T (mkF m pc' Ls (.int (lcmpW x y) :: st))) : G T (mkF m pc Ls (.long y :: .long x :: st)) := by
  obtain ⟨hG, ⟨c1, c2, -⟩, L, X, -⟩ := X
  subst hp
  exact hG _ _ _ _ (fun t q => XS.lcmp X.here c1 rfl (hb c2 hd) rfl q) k
theorem own_dup (X : own_At G p l e R s m args below meth c Z n0 own nm bytes maxL ret T h cells slots) {pc pc' : Nat} {Ls : Array Slot} {st : List Value} {x : Value} (hd : decode bytes pc = .ok (.dup, 1)) (hp : pc' = pc + 1) (hc : x.category = 1) (k : G T (mkF m pc' Ls (x :: x :: st))) : G T (mkF m pc Ls (x :: st)) := by
  obtain ⟨hG, ⟨c1, c2, -⟩, L, X, -⟩ := X
  subst hp
  exact hG _ _ _ _ (fun t q => XS.dup X.here c1 rfl (hb c2 hd) rfl hc q) k
theorem own_pop (X : own_At G p l e R s m args below meth c Z n0 own nm bytes maxL ret T h cells slots) {pc pc' : Nat} {Ls : Array Slot} {st : List Value} {x : Value} (hd : decode bytes pc = .ok (.pop, 1)) (hp : pc' = pc + 1) (hc : x.category = 1) (k : G T (mkF m pc' Ls st)) : G T (mkF m pc Ls (x :: st)) := by
  obtain ⟨hG, ⟨c1, c2, -⟩, L, X, -⟩ := X
  subst hp
  exact hG _ _ _ _ (fun t q => XS.pop X.here c1 rfl (hb c2 hd) rfl hc q) k
theorem own_dup_x1 (X : own_At G p l e R s m args below meth c Z n0 own nm bytes maxL ret T h cells slots) {pc pc' : Nat} {Ls : Array Slot} {st : List Value} {x y : Value} (hd : decode bytes pc = .ok (.dup_x1, 1)) (hp : pc' = pc + 1) (hc : x.category = 1) (hc2 : y.category = 1) (k : G T (mkF m pc' Ls (x :: y :: x :: st))) : G T (mkF m pc Ls (x :: y :: st)) := by
  obtain ⟨hG, ⟨c1, c2, -⟩, L, X, -⟩ := X
  subst hp
  exact hG _ _ _ _ (fun t q => XS.dupX1 X.here c1 rfl (hb c2 hd) rfl hc hc2 q) k
theorem own_goto (X : own_At G p l e R s m args below meth c Z n0 own nm bytes maxL ret T h cells slots) {pc pc' : Nat} {Ls : Array Slot} {st : List Value} {o : Int}  (hd : decode bytes pc = .ok (.goto o, 3))  (ho : 0 ≤ (pc : Int) + o) (hp : ((pc : Int) + o).toNat = pc') (k : G T (mkF m pc' Ls st)) : G T (mkF m pc Ls st) := by
  obtain ⟨hG, ⟨c1, c2, -⟩, L, X, -⟩ := X
  exact hG _ _ _ _ (fun t q => XS.goto X.here c1 rfl rfl (hb c2 hd) ho hp q) k
theorem own_ifY (X : own_At G p l e R s m args below meth c Z n0 own nm bytes maxL ret T h cells slots) {pc pc' : Nat} {Ls : Array Slot} {st : List Value} {o : Int} {cd : ClassFile.Cond} {x : Int32} (hd : decode bytes pc = .ok (.ifCond cd o, 3)) (hc : if_icmp.holds cd x 0 = true) (ho : 0 ≤ (pc : Int) + o) (hp : ((pc : Int) + o).toNat = pc') (k : G T (mkF m pc' Ls st)) : G T (mkF m pc Ls (.int x :: st)) := by
  obtain ⟨hG, ⟨c1, c2, -⟩, L, X, -⟩ := X
  exact hG _ _ _ _ (fun t q => XS.ifYes X.here c1 rfl rfl (hb c2 hd) rfl ((if0 _ _).trans hc) ho hp q) k
theorem own_ifN (X : own_At G p l e R s m args below meth c Z n0 own nm bytes maxL ret T h cells slots) {pc pc' : Nat} {Ls : Array Slot} {st : List Value} {o : Int} {cd : ClassFile.Cond} {x : Int32} (hd : decode bytes pc = .ok (.ifCond cd o, 3)) (hp : pc' = pc + 3) (hc : if_icmp.holds cd x 0 = false) (k : G T (mkF m pc' Ls st)) : G T (mkF m pc Ls (.int x :: st)) := by
  obtain ⟨hG, ⟨c1, c2, -⟩, L, X, -⟩ := X
  subst hp
  exact hG _ _ _ _ (fun t q => XS.ifNo X.here c1 rfl (hb c2 hd) rfl ((if0 _ _).trans hc) q) k
theorem own_icmpY (X : own_At G p l e R s m args below meth c Z n0 own nm bytes maxL ret T h cells slots) {pc pc' : Nat} {Ls : Array Slot} {st : List Value} {o : Int} {cd : ClassFile.Cond} {x y : Int32} (hd : decode bytes pc = .ok (.if_icmp cd o, 3)) (hc : if_icmp.holds cd x y = true) (ho : 0 ≤ (pc : Int) + o) (hp : ((pc : Int) + o).toNat = pc') (k : G T (mkF m pc' Ls st)) : G T (mkF m pc Ls (.int y :: .int x :: st)) := by
  obtain ⟨hG, ⟨c1, c2, -⟩, L, X, -⟩ := X
  exact hG _ _ _ _ (fun t q => XS.icmpYes X.here c1 rfl rfl (hb c2 hd) rfl hc ho hp q) k
theorem own_icmpN (X : own_At G p l e R s m args below meth c Z n0 own nm bytes maxL ret T h cells slots) {pc pc' : Nat} {Ls : Array Slot} {st : List Value} {o : Int} {cd : ClassFile.Cond} {x y : Int32} (hd : decode bytes pc = .ok (.if_icmp cd o, 3)) (hp : pc' = pc + 3) (hc : if_icmp.holds cd x y = false) (k : G T (mkF m pc' Ls st)) : G T (mkF m pc Ls (.int y :: .int x :: st)) := by
  obtain ⟨hG, ⟨c1, c2, -⟩, L, X, -⟩ := X
  subst hp
  exact hG _ _ _ _ (fun t q => XS.icmpNo X.here c1 rfl (hb c2 hd) rfl hc q) k
theorem own_ifnullY (X : own_At G p l e R s m args below meth c Z n0 own nm bytes maxL ret T h cells slots) {pc pc' : Nat} {Ls : Array Slot} {st : List Value} {o : Int}  (hd : decode bytes pc = .ok (.ifnull o, 3))  (ho : 0 ≤ (pc : Int) + o) (hp : ((pc : Int) + o).toNat = pc') (k : G T (mkF m pc' Ls st)) : G T (mkF m pc Ls (.null :: st)) := by
  obtain ⟨hG, ⟨c1, c2, -⟩, L, X, -⟩ := X
  exact hG _ _ _ _ (fun t q => XS.ifnullYes X.here c1 rfl rfl (hb c2 hd) rfl ho hp q) k
theorem own_ifnullN (X : own_At G p l e R s m args below meth c Z n0 own nm bytes maxL ret T h cells slots) {pc pc' : Nat} {Ls : Array Slot} {st : List Value} {o : Int} {b : Addr} (hd : decode bytes pc = .ok (.ifnull o, 3)) (hp : pc' = pc + 3)  (k : G T (mkF m pc' Ls st)) : G T (mkF m pc Ls (.ref b :: st)) := by
  obtain ⟨hG, ⟨c1, c2, -⟩, L, X, -⟩ := X
  subst hp
  exact hG _ _ _ _ (fun t q => XS.ifnullNo X.here c1 rfl (hb c2 hd) rfl q) k
theorem own_ifnonnullY (X : own_At G p l e R s m args below meth c Z n0 own nm bytes maxL ret T h cells slots) {pc pc' : Nat} {Ls : Array Slot} {st : List Value} {o : Int} {b : Addr} (hd : decode bytes pc = .ok (.ifnonnull o, 3))  (ho : 0 ≤ (pc : Int) + o) (hp : ((pc : Int) + o).toNat = pc') (k : G T (mkF m pc' Ls st)) : G T (mkF m pc Ls (.ref b :: st)) := by
  obtain ⟨hG, ⟨c1, c2, -⟩, L, X, -⟩ := X
  exact hG _ _ _ _ (fun t q => XS.ifnonnullYes X.here c1 rfl rfl (hb c2 hd) rfl ho hp q) k
theorem own_ifnonnullN (X : own_At G p l e R s m args below meth c Z n0 own nm bytes maxL ret T h cells slots) {pc pc' : Nat} {Ls : Array Slot} {st : List Value} {o : Int}  (hd : decode bytes pc = .ok (.ifnonnull o, 3)) (hp : pc' = pc + 3)  (k : G T (mkF m pc' Ls st)) : G T (mkF m pc Ls (.null :: st)) := by
  obtain ⟨hG, ⟨c1, c2, -⟩, L, X, -⟩ := X
  subst hp
  exact hG _ _ _ _ (fun t q => XS.ifnonnullNo X.here c1 rfl (hb c2 hd) rfl q) k
theorem own_acmp (X : own_At G p l e R s m args below meth c Z n0 own nm bytes maxL ret T h cells slots) {pc pc' : Nat} {Ls : Array Slot} {st : List Value} {o : Int} {cd : ACond} {x y : Value} {same : Bool} (hd : decode bytes pc = .ok (.if_acmp cd o, 3)) (h1 : x.isRef = true) (h2 : y.isRef = true) (hq : decide (x = y) = same) (ho : 0 ≤ (pc : Int) + o) (hp : pc' = if acV cd same = true then ((pc : Int) + o).toNat else pc + 3) (k : G T (mkF m pc' Ls st)) : G T (mkF m pc Ls (y :: x :: st)) := by
  obtain ⟨hG, ⟨c1, c2, -⟩, L, X, -⟩ := X
  exact hG _ _ _ _ (fun t q => Jvm.RoadKit.acmp (g := mkF m pc Ls (y :: x :: st)) X c1 rfl h1 h2 rfl (hb c2 hd) rfl hq ho hp q) k
theorem own_lcY {cd : ClassFile.Cond} {x y : Int64} {P : Prop} [Decidable P] {b : Bool} (h : if_icmp.holds cd (lcmpW x y) 0 = decide P) (q : decide P = b) : if_icmp.holds cd (lcmpW x y) 0 = b := h.trans q
theorem own_lc_eq {x y : Int64} (q : x = y) : if_icmp.holds .eq (lcmpW x y) 0 = true ∧ if_icmp.holds .ne (lcmpW x y) 0 = false := teq ((lw_eq x y).mpr q)
theorem own_lc_ne {x y : Int64} (q : ¬ x = y) : if_icmp.holds .eq (lcmpW x y) 0 = false ∧ if_icmp.holds .ne (lcmpW x y) 0 = true := feq (mt (lw_eq x y).mp q)
theorem own_lc_lt {x y : Int64} (q : x < y) : if_icmp.holds .lt (lcmpW x y) 0 = true ∧ if_icmp.holds .ge (lcmpW x y) 0 = false := by have := tlt ((lw_lt x y).mpr q); exact ⟨this.1, this.2.1⟩
theorem own_lc_nlt {x y : Int64} (q : ¬ x < y) : if_icmp.holds .lt (lcmpW x y) 0 = false ∧ if_icmp.holds .ge (lcmpW x y) 0 = true := by have := flt (mt (lw_lt x y).mp q); exact ⟨this.1, this.2.1⟩
theorem own_lc_gt {x y : Int64} (q : y < x) : if_icmp.holds .gt (lcmpW x y) 0 = true ∧ if_icmp.holds .le (lcmpW x y) 0 = false := by have := tlt ((lw_gt x y).mpr q); exact ⟨this.2.2.1, this.2.2.2⟩
theorem own_lc_ngt {x y : Int64} (q : ¬ y < x) : if_icmp.holds .gt (lcmpW x y) 0 = false ∧ if_icmp.holds .le (lcmpW x y) 0 = true := by have := flt (mt (lw_gt x y).mp q); exact ⟨this.2.2.1, this.2.2.2⟩
theorem own_ldc2 (X : own_At G p l e R s m args below meth c Z n0 own nm bytes maxL ret T h cells slots) {pc pc' : Nat} {Ls : Array Slot} {st : List Value} {i : Nat} {v : Int64} (w : (Cond.constantLong own i v).before a0 Z = true) (hd : decode bytes pc = .ok (.ldc2_w i, 3)) (hp : pc' = pc + 3) (k : G T (mkF m pc' Ls (.long v :: st))) : G T (mkF m pc Ls st) := by
  obtain ⟨hG, ⟨c1, c2, hZ, hown, -⟩, L, X, -⟩ := X
  subst hp
  exact hG _ _ _ _ (X.ldc2Long c1 hown (mvT hZ w) (g := mkF m pc Ls st) rfl (hb c2 hd)) k
theorem own_ldcI (X : own_At G p l e R s m args below meth c Z n0 own nm bytes maxL ret T h cells slots) {pc pc' : Nat} {Ls : Array Slot} {st : List Value} {i : Nat} {v : Int32} (w : (Cond.constant own i v).before a0 Z = true) (hd : decode bytes pc = .ok (.ldc i, 2)) (hp : pc' = pc + 2) (k : G T (mkF m pc' Ls (.int v :: st))) : G T (mkF m pc Ls st) := by
  obtain ⟨hG, ⟨c1, c2, hZ, hown, -⟩, L, X, -⟩ := X
  subst hp
  exact hG _ _ _ _ (X.ldcInt c1 hown (mvT hZ w) (g := mkF m pc Ls st) rfl (hb c2 hd)) k
theorem own_ldcS (X : own_At G p l e R s m args below meth c Z n0 own nm bytes maxL ret T h cells slots) {pc pc' : Nat} {Ls : Array Slot} {st : List Value} {i : Nat} {text : String} {a : Addr} (w : (Cond.stringRef own i text).before a0 Z = true) (F : Lit Z own i a) (hd : decode bytes pc = .ok (.ldc i, 2)) (hp : pc' = pc + 2) (k : G T (mkF m pc' Ls (.ref a :: st))) : G T (mkF m pc Ls st) := by
  obtain ⟨hG, ⟨c1, c2, hZ, hown, -⟩, L, X, -⟩ := X
  subst hp
  exact hG _ _ _ _ (ldcR X c1 hZ hown w F (g := mkF m pc Ls st) rfl (hb c2 hd)) k
theorem own_get (X : own_At G p l e R s m args below meth c Z n0 own nm bytes maxL ret T h cells slots) {pc pc' : Nat} {Ls : Array Slot} {st : List Value} {i : Nat} {R0 O n d host : String} {a : Addr} {v : Value} (w : (Cond.fieldLink own i R0 n d).before a0 Z = true ∨ (Cond.fieldLinkNest own i R0 n d host).before a0 Z = true) (via : Via Z R0 O n d) (F : Fld Z h a O n d v) (hd : decode bytes pc = .ok (.getfield i, 3)) (hp : pc' = pc + 3)
    (k : ∀ T', own_At G p l e R s m args below meth c Z n0 own nm bytes maxL ret T' h cells slots → G T' (mkF m pc' Ls (v :: st))) : G T (mkF m pc Ls (.ref a :: st)) := by
  obtain ⟨hG, ⟨c1, c2, hZ, hown, c5⟩, L, X, N, eT, O⟩ := X
  subst hp
  obtain ⟨T', X', e', st'⟩ := getF X c1 hZ hown w via eT F (g := mkF m pc Ls (.ref a :: st)) rfl rfl (hb c2 hd)
  exact hG _ _ _ _ st' (k _ ⟨hG, ⟨c1, c2, hZ, hown, c5⟩, L, X', N, e', O⟩)
theorem own_getS (X : own_At G p l e R s m args below meth c Z n0 own nm bytes maxL ret T h cells slots) {pc pc' : Nat} {Ls : Array Slot} {st : List Value} {i : Nat} {R0 O n d : String} {v : Value} (w : (Cond.fieldLink own i R0 n d).before a0 Z = true) (via : Via Z R0 O n d) (F : Sta Z h O n d v) (hd : decode bytes pc = .ok (.getstatic i, 3)) (hp : pc' = pc + 3)
    (k : ∀ T', own_At G p l e R s m args below meth c Z n0 own nm bytes maxL ret T' h cells slots → G T' (mkF m pc' Ls (v :: st))) : G T (mkF m pc Ls st) := by
  obtain ⟨hG, ⟨c1, c2, hZ, hown, c5⟩, L, X, N, eT, O⟩ := X
  subst hp
  obtain ⟨T', X', e', st'⟩ := getS (host := "") X c1 hZ hown w via eT F (g := mkF m pc Ls st) rfl (hb c2 hd)
  exact hG _ _ _ _ st' (k _ ⟨hG, ⟨c1, c2, hZ, hown, c5⟩, L, X', N, e', O⟩)
theorem own_put (X : own_At G p l e R s m args below meth c Z n0 own nm bytes maxL ret T h cells slots) {pc pc' : Nat} {Ls : Array Slot} {st : List Value} {i kk : Nat} {R0 O n d host C : String} {a : Addr} {v old : Value} {ty : FieldType} (w : (Cond.fieldLink own i R0 n d).before a0 Z = true ∨ (Cond.fieldLinkNest own i R0 n d host).before a0 Z = true) (via : Via Z R0 O n d) (F : Fld Z h a O n d old) (E : Exa Z h a C)
    (hL : (Cond.lays C O n d).before a0 Z = true ∨ ((Cond.laysFinal C O n d).before a0 Z = true ∧ own = O ∧ nm = "<init>")) (wi : (Cond.instantiable C kk).before a0 Z = true) (hty : parseFieldDescriptor d = some ty) (hn : narrow ty v = v) (hf : fits ty v = true) (ha : n0 ≤ a) (hd : decode bytes pc = .ok (.putfield i, 3)) (hp : pc' = pc + 3)
    (k : ∀ T' h', own_At G p l e R s m args below meth c Z n0 own nm bytes maxL ret T' h' cells slots → Wr h h' a (Jvm.RoadKit.slotOf Z O n d) v → Keep h h' [a] → G T' (mkF m pc' Ls st)) : G T (mkF m pc Ls (v :: .ref a :: st)) := by
  obtain ⟨hG, ⟨c1, c2, hZ, hown, c5, c6, c7⟩, L, X, N, eT, O⟩ := X
  subst hp
  obtain ⟨T', h', X', e', W', st'⟩ := putF X c1 hZ hown w via eT F E (hL.imp id fun q => ⟨q.1, q.2.1, c6.trans q.2.2⟩) wi hty hn hf (g := mkF m pc Ls (v :: .ref a :: st)) rfl rfl (hb c2 hd)
  exact hG _ _ _ _ st' (k _ _ ⟨hG, ⟨c1, c2, hZ, hown, c5, c6, c7⟩, _, X', Fr.snoc X' N ha, e', O.wr W' ha⟩ W' (Keep.of_wr W'))
theorem own_new (X : own_At G p l e R s m args below meth c Z n0 own nm bytes maxL ret T h cells slots) {pc pc' cells' slots' : Nat} {Ls : Array Slot} {st : List Value} {i n : Nat} {C : String} (w : (Cond.classLink own i C).before a0 Z = true) (wi : (Cond.instantiable C n).before a0 Z = true) (wz : (Cond.initialized C).before a0 Z = true) (hd : decode bytes pc = .ok (.new i, 3)) (hp : pc' = pc + 3) (ec : cells' = cells + 1) (es : slots' = slots + n) (hc : cells' ≤ R.cells) (hl : slots' ≤ R.slots)
    (k : ∀ T' h' a, a = h.size → own_At G p l e R s m args below meth c Z n0 own nm bytes maxL ret T' h' cells' slots' → Keep h h' [] → Exa Z h' a C → (∀ {O nm d : String} {ty : FieldType}, Laid Z a0 C O nm d → parseFieldDescriptor d = some ty → Fld Z h' a O nm d (defaultValue ty)) → (∃ cell : Cell, h'[a]? = some cell ∧ cell.vm = .none ∧ cell.monitor = {}) → G T' (mkF m pc' Ls (.ref a :: st))) : G T (mkF m pc Ls st) := by
  obtain ⟨hG, ⟨c1, c2, hZ, hown, c5⟩, L, X, N, eT, O⟩ := X
  subst hp ec es
  obtain ⟨T', h', X', e', E', A', D', U', st'⟩ := newO X c1 hZ hown w wi wz eT (g := mkF m pc Ls st) rfl (hb c2 hd) hc hl
  exact hG _ _ _ _ st' (k _ _ _ rfl ⟨hG, ⟨c1, c2, hZ, hown, c5⟩, _, X', N, e', O.ext E'⟩ ((Keep.refl _ _).ext E') A' D' U')
theorem own_initO (X : own_At G p l e R s m args below meth c Z n0 own nm bytes maxL ret T h cells slots) {pc pc' : Nat} {Ls : Array Slot} {st : List Value} {i : Nat} {a : Addr} {W : Nat} (w1 : (Cond.methodLink own i Lib.objectInit).before a0 Z = true) (w2 : (Cond.instanceMethod Lib.objectInit).before a0 Z = true) (w3 : (Cond.code Lib.objectInit ⟨#[0xb1]⟩ 1 none).before a0 Z = true) (hsz : Ls.size = maxL) (hd : decode bytes pc = .ok (.invokespecial i, 3)) (hp : pc' = pc + 3)
    (hf : 1 ≤ R.frames) (hW : (st.map fun v => v.category).sum = W) (hl : W + 12 ≤ R.locals) (k : ∀ T', own_At G p l e R s m args below meth c Z n0 own nm bytes maxL ret T' h cells slots → G T' (mkF m pc' Ls st)) : G T (mkF m pc Ls (.ref a :: st)) := by
  obtain ⟨hG, ⟨c1, c2, hZ, hown, c5, c6⟩, L, X, N, eT, O⟩ := X
  subst hp
  obtain ⟨T', X', e', st'⟩ := initO X c1 hZ hown w1 w2 w3 eT (g := mkF m pc Ls (.ref a :: st)) rfl (hsz.trans c5.symm) rfl (hb c2 hd) hf (W := W) (by show 2 * 0 + _ ≤ _; rw [hW]; omega) hl
  exact hG _ _ _ _ st' (k _ ⟨hG, ⟨c1, c2, hZ, hown, c5, c6⟩, L, X', N, e', O⟩)
def own_Arr (Z : State) (h : Heap) (a : Addr) (k : ClassId) (ty : FieldType) (vs : List Value) : Prop := ∃ c : Cell, Arr Z h a c ty ∧ c.cls = k ∧ c.slots.toList = vs ∧ vs.length < 2 ^ 31 ∧ ∀ v ∈ vs, fits ty v = true
theorem own_Arr.lt {a : Addr} {k : ClassId} {ty : FieldType} {vs : List Value} (F : own_Arr Z h a k ty vs) : a < h.size := by obtain ⟨c, A, -⟩ := F; exact A.lt
theorem own_Arr.keep {h' : Heap} {a : Addr} {k : ClassId} {ty : FieldType} {vs : List Value} {ws : List Addr} (F : own_Arr Z h a k ty vs) (K : Keep h h' ws) (q : a ∉ ws) : own_Arr Z h' a k ty vs := by
  obtain ⟨c, A, r⟩ := F; exact ⟨c, ⟨K.2.1 a c A.1 q, A.2⟩, r⟩
theorem own_Arr.arv {a : Addr} {k : ClassId} {ty : FieldType} {vs : List Value} {d : Value} {N : Int32} (F : own_Arr Z h a k ty vs) (hN : N = Int32.ofNat vs.length) : Arv Z h a k ty N vs d := by
  obtain ⟨c, A, r1, r2, r3, r4⟩ := F
  have q : N.toInt = vs.length := by rw [hN]; exact len_toInt r3
  have hs : c.slots.size = vs.length := by rw [← r2]; simp
  refine ⟨c, A, r1, by rw [hs]; simp only [Int32.toNatClampNeg, q]; omega, by rw [Int32.lt_iff_toInt_lt, q]; simp, fun i hi => ?_, fun i hi => ?_⟩
  · rw [← Array.getElem?_toList, r2, List.getElem?_eq_getElem (by omega)]; simp [List.getD, List.getElem?_eq_getElem (show i < vs.length by omega)]
  · have hi' : i < vs.length := by omega
    simp only [List.getD, List.getElem?_eq_getElem hi', Option.getD_some]; exact r4 _ (List.getElem_mem hi')
theorem own_Arr.of_arv {a : Addr} {k : ClassId} {ty : FieldType} {vs : List Value} {d : Value} {N : Int32} (F : Arv Z h a k ty N vs d) (hN : N.toNatClampNeg = vs.length) : own_Arr Z h a k ty vs := by
  obtain ⟨c, A, r1, r2, r3, r4, r5⟩ := F
  have hs : c.slots.size = vs.length := by omega
  have e : c.slots.toList = vs := by
    apply List.ext_getElem?
    intro i
    by_cases hi : i < vs.length
    · rw [Array.getElem?_toList, r4 i (by omega)]; simp [List.getD, List.getElem?_eq_getElem hi]
    · rw [List.getElem?_eq_none (by simpa using (by omega : c.slots.size ≤ i)), List.getElem?_eq_none (by omega)]
  refine ⟨c, A, r1, e, by rw [← hN]; exact (back32 r3).2, fun v hv => ?_⟩
  obtain ⟨i, hi, rfl⟩ := List.getElem_of_mem hv
  have := r5 i (by omega)
  simpa [List.getD, List.getElem?_eq_getElem hi] using this
theorem own_idx {n i : Nat} (hi : i < n) (hn : n < 2 ^ 31) {j : Int32} (hj : j.toInt = i) : ¬ (j < 0 ∨ n ≤ j.toNatClampNeg) ∧ j.toNatClampNeg = i := by
  have e : j.toNatClampNeg = i := by simp only [Int32.toNatClampNeg, hj]; omega
  refine ⟨?_, e⟩
  rw [e, Int32.lt_iff_toInt_lt, hj]; simp; omega
theorem own_ld {a : Addr} {k : ClassId} {ty : FieldType} {vs : List Value} {j : Int32} {i : Nat} {v : Value} (F : own_Arr Z h a k ty vs) (hj : j.toInt = i) (hv : vs[i]? = some v) : ∃ c : Cell, Arr Z h a c ty ∧ ¬ (j < 0 ∨ c.slots.size ≤ j.toNatClampNeg) ∧ c.slots[j.toNatClampNeg]? = some v := by
  obtain ⟨c, A, r1, r2, r3, r4⟩ := F
  have hi : i < vs.length := (List.getElem?_eq_some_iff.mp hv).1
  have hs : c.slots.size = vs.length := by rw [← r2]; simp
  obtain ⟨q1, q2⟩ := own_idx hi r3 hj
  exact ⟨c, A, by rw [hs]; exact q1, by rw [q2, ← Array.getElem?_toList, r2]; exact hv⟩
theorem own_iaload (X : own_At G p l e R s m args below meth c Z n0 own nm bytes maxL ret T h cells slots) {pc pc' : Nat} {Ls : Array Slot} {st : List Value} {a : Addr} {kc : ClassId} {vs : List Value} {j : Int32} {i : Nat} {v : Value} (F : own_Arr Z h a kc .int vs) (hj : j.toInt = i) (hv : vs[i]? = some v) (hd : decode bytes pc = .ok (.iaload, 1)) (hp : pc' = pc + 1) (k : G T (mkF m pc' Ls (v :: st))) : G T (mkF m pc Ls (.int j :: .ref a :: st)) := by
  obtain ⟨hG, ⟨c1, c2, hZ, -⟩, L, X, N, eT, O⟩ := X
  subst hp
  obtain ⟨cl, A, q1, q2⟩ := own_ld F hj hv
  exact hG _ _ _ _ (fun t q => X.iaload c1 (by rw [eT]; exact A.1) (State.isArrayOf_alike hZ.alike A.2.1) A.2.2 q1 q2 (g := mkF m pc Ls (.int j :: .ref a :: st)) rfl rfl (hb c2 hd) _ q) k
theorem own_laload (X : own_At G p l e R s m args below meth c Z n0 own nm bytes maxL ret T h cells slots) {pc pc' : Nat} {Ls : Array Slot} {st : List Value} {a : Addr} {kc : ClassId} {vs : List Value} {j : Int32} {i : Nat} {v : Value} (F : own_Arr Z h a kc .long vs) (hj : j.toInt = i) (hv : vs[i]? = some v) (hd : decode bytes pc = .ok (.laload, 1)) (hp : pc' = pc + 1) (k : G T (mkF m pc' Ls (v :: st))) : G T (mkF m pc Ls (.int j :: .ref a :: st)) := by
  obtain ⟨hG, ⟨c1, c2, hZ, -⟩, L, X, N, eT, O⟩ := X
  subst hp
  obtain ⟨cl, A, q1, q2⟩ := own_ld F hj hv
  exact hG _ _ _ _ (fun t q => X.laload c1 (by rw [eT]; exact A.1) (State.isArrayOf_alike hZ.alike A.2.1) A.2.2 q1 q2 (g := mkF m pc Ls (.int j :: .ref a :: st)) rfl rfl (hb c2 hd) _ q) k
theorem own_caload (X : own_At G p l e R s m args below meth c Z n0 own nm bytes maxL ret T h cells slots) {pc pc' : Nat} {Ls : Array Slot} {st : List Value} {a : Addr} {kc : ClassId} {vs : List Value} {j : Int32} {i : Nat} {v : Value} (F : own_Arr Z h a kc .char vs) (hj : j.toInt = i) (hv : vs[i]? = some v) (hd : decode bytes pc = .ok (.caload, 1)) (hp : pc' = pc + 1) (k : G T (mkF m pc' Ls (v :: st))) : G T (mkF m pc Ls (.int j :: .ref a :: st)) := by
  obtain ⟨hG, ⟨c1, c2, hZ, -⟩, L, X, N, eT, O⟩ := X
  subst hp
  obtain ⟨cl, A, q1, q2⟩ := own_ld F hj hv
  exact hG _ _ _ _ (fun t q => X.caload c1 (by rw [eT]; exact A.1) (State.isArrayOf_alike hZ.alike A.2.1) A.2.2 q1 q2 (g := mkF m pc Ls (.int j :: .ref a :: st)) rfl rfl (hb c2 hd) _ q) k
theorem own_baload (X : own_At G p l e R s m args below meth c Z n0 own nm bytes maxL ret T h cells slots) {pc pc' : Nat} {Ls : Array Slot} {st : List Value} {a : Addr} {kc : ClassId} {vs : List Value} {j : Int32} {i : Nat} {v : Value} (F : own_Arr Z h a kc .byte vs) (hj : j.toInt = i) (hv : vs[i]? = some v) (hd : decode bytes pc = .ok (.baload, 1)) (hp : pc' = pc + 1) (k : G T (mkF m pc' Ls (v :: st))) : G T (mkF m pc Ls (.int j :: .ref a :: st)) := by
  obtain ⟨hG, ⟨c1, c2, hZ, -⟩, L, X, N, eT, O⟩ := X
  subst hp
  obtain ⟨cl, A, q1, q2⟩ := own_ld F hj hv
  exact hG _ _ _ _ (fun t q => X.baloadBytes c1 (by rw [eT]; exact A.1) (State.isArrayOf_alike hZ.alike A.2.1) A.2.2 q1 q2 (g := mkF m pc Ls (.int j :: .ref a :: st)) rfl rfl (hb c2 hd) _ q) k
theorem own_aaload (X : own_At G p l e R s m args below meth c Z n0 own nm bytes maxL ret T h cells slots) {pc pc' : Nat} {Ls : Array Slot} {st : List Value} {ty : FieldType} {a : Addr} {kc : ClassId} {vs : List Value} {j : Int32} {i : Nat} {v : Value} (F : own_Arr Z h a kc ty vs) (hty : ty.isReference = true) (hj : j.toInt = i) (hv : vs[i]? = some v) (hd : decode bytes pc = .ok (.aaload, 1)) (hp : pc' = pc + 1) (k : G T (mkF m pc' Ls (v :: st))) : G T (mkF m pc Ls (.int j :: .ref a :: st)) := by
  obtain ⟨hG, ⟨c1, c2, hZ, -⟩, L, X, N, eT, O⟩ := X
  subst hp
  obtain ⟨cl, A, q1, q2⟩ := own_ld F hj hv
  exact hG _ _ _ _ (fun t q => X.aaload c1 (by rw [eT]; exact A.1) (State.isArrayOf_alike hZ.alike A.2.1) hty A.2.2 q1 q2 (g := mkF m pc Ls (.int j :: .ref a :: st)) rfl rfl (hb c2 hd) _ q) k
theorem own_arraylength (X : own_At G p l e R s m args below meth c Z n0 own nm bytes maxL ret T h cells slots) {pc pc' : Nat} {Ls : Array Slot} {st : List Value} {ty : FieldType} {a : Addr} {kc : ClassId} {vs : List Value} {z : Int32} (F : own_Arr Z h a kc ty vs) (hz : Int32.ofNat vs.length = z) (hd : decode bytes pc = .ok (.arraylength, 1)) (hp : pc' = pc + 1) (k : G T (mkF m pc' Ls (.int z :: st))) : G T (mkF m pc Ls (.ref a :: st)) := by
  obtain ⟨hG, ⟨c1, c2, hZ, -⟩, L, X, N, eT, O⟩ := X
  subst hp
  obtain ⟨cl, A, r1, r2, r3, r4⟩ := F
  have hs : cl.slots.size = vs.length := by rw [← r2]; simp
  exact hG _ _ _ _ (fun t q => X.arraylength c1 (by rw [eT]; exact A.1) (State.isArrayOf_alike hZ.alike A.2.1) (g := mkF m pc Ls (.ref a :: st)) rfl rfl (hb c2 hd) _ (by rw [hs, show vs.length.toInt32 = z from hz]; exact q)) k
theorem own_Arr.set {h' : Heap} {a : Addr} {k : ClassId} {ty : FieldType} {vs : List Value} {i : Nat} {v : Value} (F : own_Arr Z h a k ty vs) (W : Wr h h' a i v) (hv : fits ty v = true) : own_Arr Z h' a k ty (vs.set i v) := by
  obtain ⟨c, A, r1, r2, r3, r4⟩ := F
  refine ⟨_, A.same W, r1, ?_, by simpa using r3, fun x hx => ?_⟩
  · simp [Cell.setSlot, r2]
  · rcases List.mem_or_eq_of_mem_set hx with q | q
    · exact r4 _ q
    · rw [q]; exact hv
theorem own_newA (cA : ClassId) (ty : FieldType) (n : Int32) : (newA cA ty n).slots.toList = List.replicate n.toNatClampNeg (defaultValue ty) := by simp [newA]
theorem own_defit (aty : ArrayType) : fits (newarray.typeOf aty) (defaultValue (newarray.typeOf aty)) = true := by cases aty <;> rfl
theorem own_newarray (X : own_At G p l e R s m args below meth c Z n0 own nm bytes maxL ret T h cells slots) {pc pc' cells' slots' : Nat} {Ls : Array Slot} {st : List Value} {aty : ArrayType} {ty : FieldType} {z : Int32} {n : Nat} {dv : Value} (w : (Cond.arrayClass ty).before a0 Z = true) (ht : newarray.typeOf aty = ty) (hdv : defaultValue ty = dv) (hz : z.toInt = n) (hn : n ≤ 60000000) (hd : decode bytes pc = .ok (.newarray aty, 2)) (hp : pc' = pc + 2) (ec : cells' = cells + 1) {cap : Nat} (hcap : n ≤ cap) (hbig : cap ≤ 60000000) (es : slots' = slots + cap) (hc : cells' ≤ R.cells) (hl : slots' ≤ R.slots)
    (k : ∀ T' h' a kc, a = h.size → own_At G p l e R s m args below meth c Z n0 own nm bytes maxL ret T' h' cells' slots' → Keep h h' [] → own_Arr Z h' a kc ty (List.replicate n dv) → G T' (mkF m pc' Ls (.ref a :: st))) : G T (mkF m pc Ls (.int z :: st)) := by
  obtain ⟨hG, ⟨c1, c2, hZ, c5⟩, L, X, N, eT, O⟩ := X
  subst hp ec es ht hdv
  have hz0 : ¬ z < 0 := by rw [Int32.lt_iff_toInt_lt, hz]; simp
  have hzn : z.toNatClampNeg = n := by simp only [Int32.toNatClampNeg, hz]; omega
  obtain ⟨T', h', cA, X', e', E', A', st'⟩ := newP X c1 hZ w eT (g := mkF m pc Ls (.int z :: st)) rfl (hb c2 hd) rfl hz0 (cap := cap) (by omega) (by omega) hc hl
  refine hG _ _ _ _ st' (k _ _ _ cA rfl ⟨hG, ⟨c1, c2, hZ, c5⟩, _, X', N, e', O.ext E'⟩ ((Keep.refl _ _).ext E') ⟨_, A', rfl, by rw [own_newA, hzn], by simp; omega, fun v hv => ?_⟩)
  rw [List.eq_of_mem_replicate hv]; exact own_defit aty
theorem own_iastore (X : own_At G p l e R s m args below meth c Z n0 own nm bytes maxL ret T h cells slots) {pc pc' : Nat} {Ls : Array Slot} {st : List Value} {a : Addr} {kc : ClassId} {vs : List Value} {j : Int32} {i : Nat} {x : Int32} (F : own_Arr Z h a kc .int vs) (hj : j.toInt = i) (hi : i < vs.length) (ha : n0 ≤ a) (hd : decode bytes pc = .ok (.iastore, 1)) (hp : pc' = pc + 1)
    (k : ∀ T' h', own_At G p l e R s m args below meth c Z n0 own nm bytes maxL ret T' h' cells slots → Keep h h' [a] → own_Arr Z h' a kc .int (vs.set i (.int x)) → G T' (mkF m pc' Ls st)) : G T (mkF m pc Ls (.int x :: .int j :: .ref a :: st)) := by
  obtain ⟨hG, ⟨c1, c2, hZ, c5⟩, L, X, N, eT, O⟩ := X
  subst hp 
  have F0 := F
  obtain ⟨cl, A, r1, r2, r3, r4⟩ := F
  have hs : cl.slots.size = vs.length := by rw [← r2]; simp
  obtain ⟨q1, q2⟩ := own_idx hi r3 hj
  obtain ⟨T', h', X', e', W', st'⟩ := stI X c1 hZ eT A (j := j) (by rw [hs]; exact q1) (g := mkF m pc Ls (.int x :: .int j :: .ref a :: st)) rfl rfl (hb c2 hd)
  have K' := Keep.of_wr W'
  have O' := O.wr W' ha
  rw [q2] at W'
  exact hG _ _ _ _ st' (k _ _ ⟨hG, ⟨c1, c2, hZ, c5⟩, _, X', Fr.snoc X' N ha, e', O'⟩ K' (F0.set W' (rfl)))
theorem own_lastore (X : own_At G p l e R s m args below meth c Z n0 own nm bytes maxL ret T h cells slots) {pc pc' : Nat} {Ls : Array Slot} {st : List Value} {a : Addr} {kc : ClassId} {vs : List Value} {j : Int32} {i : Nat} {x : Int64} (F : own_Arr Z h a kc .long vs) (hj : j.toInt = i) (hi : i < vs.length) (ha : n0 ≤ a) (hd : decode bytes pc = .ok (.lastore, 1)) (hp : pc' = pc + 1)
    (k : ∀ T' h', own_At G p l e R s m args below meth c Z n0 own nm bytes maxL ret T' h' cells slots → Keep h h' [a] → own_Arr Z h' a kc .long (vs.set i (.long x)) → G T' (mkF m pc' Ls st)) : G T (mkF m pc Ls (.long x :: .int j :: .ref a :: st)) := by
  obtain ⟨hG, ⟨c1, c2, hZ, c5⟩, L, X, N, eT, O⟩ := X
  subst hp 
  have F0 := F
  obtain ⟨cl, A, r1, r2, r3, r4⟩ := F
  have hs : cl.slots.size = vs.length := by rw [← r2]; simp
  obtain ⟨q1, q2⟩ := own_idx hi r3 hj
  obtain ⟨T', h', X', e', W', st'⟩ := stJ X c1 hZ eT A (j := j) (by rw [hs]; exact q1) (g := mkF m pc Ls (.long x :: .int j :: .ref a :: st)) rfl rfl (hb c2 hd)
  have K' := Keep.of_wr W'
  have O' := O.wr W' ha
  rw [q2] at W'
  exact hG _ _ _ _ st' (k _ _ ⟨hG, ⟨c1, c2, hZ, c5⟩, _, X', Fr.snoc X' N ha, e', O'⟩ K' (F0.set W' (rfl)))
theorem own_castore (X : own_At G p l e R s m args below meth c Z n0 own nm bytes maxL ret T h cells slots) {pc pc' : Nat} {Ls : Array Slot} {st : List Value} {a : Addr} {kc : ClassId} {vs : List Value} {j : Int32} {i : Nat} {x y : Int32} (F : own_Arr Z h a kc .char vs) (hj : j.toInt = i) (hi : i < vs.length) (hy : nar .char x = y) (ha : n0 ≤ a) (hd : decode bytes pc = .ok (.castore, 1)) (hp : pc' = pc + 1)
    (k : ∀ T' h', own_At G p l e R s m args below meth c Z n0 own nm bytes maxL ret T' h' cells slots → Keep h h' [a] → own_Arr Z h' a kc .char (vs.set i (.int y)) → G T' (mkF m pc' Ls st)) : G T (mkF m pc Ls (.int x :: .int j :: .ref a :: st)) := by
  obtain ⟨hG, ⟨c1, c2, hZ, c5⟩, L, X, N, eT, O⟩ := X
  subst hp hy
  have F0 := F
  obtain ⟨cl, A, r1, r2, r3, r4⟩ := F
  have hs : cl.slots.size = vs.length := by rw [← r2]; simp
  obtain ⟨q1, q2⟩ := own_idx hi r3 hj
  obtain ⟨T', h', X', e', W', st'⟩ := stC X c1 hZ eT A (j := j) (by rw [hs]; exact q1) (g := mkF m pc Ls (.int x :: .int j :: .ref a :: st)) rfl rfl (hb c2 hd)
  have K' := Keep.of_wr W'
  have O' := O.wr W' ha
  rw [q2] at W'
  exact hG _ _ _ _ st' (k _ _ ⟨hG, ⟨c1, c2, hZ, c5⟩, _, X', Fr.snoc X' N ha, e', O'⟩ K' (F0.set W' (fits_nar_char _)))
theorem own_bastore (X : own_At G p l e R s m args below meth c Z n0 own nm bytes maxL ret T h cells slots) {pc pc' : Nat} {Ls : Array Slot} {st : List Value} {a : Addr} {kc : ClassId} {vs : List Value} {j : Int32} {i : Nat} {x y : Int32} (F : own_Arr Z h a kc .byte vs) (hj : j.toInt = i) (hi : i < vs.length) (hy : nar .byte x = y) (ha : n0 ≤ a) (hd : decode bytes pc = .ok (.bastore, 1)) (hp : pc' = pc + 1)
    (k : ∀ T' h', own_At G p l e R s m args below meth c Z n0 own nm bytes maxL ret T' h' cells slots → Keep h h' [a] → own_Arr Z h' a kc .byte (vs.set i (.int y)) → G T' (mkF m pc' Ls st)) : G T (mkF m pc Ls (.int x :: .int j :: .ref a :: st)) := by
  obtain ⟨hG, ⟨c1, c2, hZ, c5⟩, L, X, N, eT, O⟩ := X
  subst hp hy
  have F0 := F
  obtain ⟨cl, A, r1, r2, r3, r4⟩ := F
  have hs : cl.slots.size = vs.length := by rw [← r2]; simp
  obtain ⟨q1, q2⟩ := own_idx hi r3 hj
  obtain ⟨T', h', X', e', W', st'⟩ := stB X c1 hZ eT A (j := j) (by rw [hs]; exact q1) (g := mkF m pc Ls (.int x :: .int j :: .ref a :: st)) rfl rfl (hb c2 hd)
  have K' := Keep.of_wr W'
  have O' := O.wr W' ha
  rw [q2] at W'
  exact hG _ _ _ _ st' (k _ _ ⟨hG, ⟨c1, c2, hZ, c5⟩, _, X', Fr.snoc X' N ha, e', O'⟩ K' (F0.set W' (fits_nar_byte _)))
theorem own_back {y : MethodName} {bytes' : ByteArray} {maxL' : Nat} {ret' : Option FieldType} {rm : Room} {as' : Array Value} {Q : Option Value → Heap → Prop} {len W : Nat} (hM : own_Met l Z n0 y bytes' maxL' ret' rm as' h Q) (hZ : Z.Warmed39 s.vm) (wc : (Jvm.Cond.code y bytes' maxL' ret').before a0 Z = true) (wz : (Jvm.Cond.initialized y.cls).before a0 Z = true) (hf : rm.frames + 1 ≤ R.frames) (hl : W + (maxL' + 11) + rm.locals ≤ R.locals) :
    Back l R p e below s args y len W (fun A a => a = as' ∧ A.U.heap = h ∧ A.cells + rm.cells ≤ R.cells ∧ A.slots + rm.slots ≤ R.slots) (fun A _ v B => ∃ L, (Q v B.U.heap ∧ Fr n0 L ∧ Old Z n0 B.U.heap) ∧ B.locs = A.locs ++ L ∧ B.cells = A.cells + rm.cells ∧ B.slots = A.slots + rm.slots) :=
  backOf (Q := fun v h' L => Q v h' ∧ Fr n0 L ∧ Old Z n0 h') (hM []) hZ wc wz hf hl
theorem own_callS (X : own_At G p l e R s m args below meth c Z n0 own nm bytes maxL ret T h cells slots) {pc pc' cells' slots' : Nat} {Ls : Array Slot} {st argsL rest : List Value} {i kc ks W : Nat} {as' : Array Value} {QQ : Option Value → Heap → List Loc → Prop} {Q : Option Value → Heap → Prop} {y : MethodName} {bytes' : ByteArray} {maxL' : Nat} {ret' : Option FieldType} (w1 : (Cond.methodLink own i y).before a0 Z = true) (w2 : (Cond.static y).before a0 Z = true) (w3 : (Cond.initialized y.cls).before a0 Z = true) (w4 : (Cond.code y bytes' maxL' ret').before a0 Z = true) (hy : y.cls ≠ "java/lang/invoke/MethodHandle" ∧ y.cls ≠ "java/lang/invoke/VarHandle") (B : ∀ (hZ : Z.Warmed39 s.vm), Back l R p e below s args y 3 W (fun A a => a = as' ∧ A.U.heap = h ∧ A.cells + kc ≤ R.cells ∧ A.slots + ks ≤ R.slots) (fun A _ v B => ∃ L, QQ v B.U.heap L ∧ B.locs = A.locs ++ L ∧ B.cells = A.cells + kc ∧ B.slots = A.slots + ks)) (hQ : ∀ v h' L, QQ v h' L → Q v h' ∧ Fr n0 L ∧ Old Z n0 h') (hsz : Ls.size = maxL) (hlen : ∀ sig, parseMethodDescriptor y.desc = some sig → argsL.length = sig.parameters.length) (hs : st = argsL.reverse ++ rest) (hW : (rest.map fun v => v.category).sum = W) (hd : decode bytes pc = .ok (.invokestatic i, 3)) (hp : pc' = pc + 3) (ha : argsL.toArray = as') (ec : cells' = cells + kc) (es : slots' = slots + ks) (hc : cells' ≤ R.cells) (hl : slots' ≤ R.slots)
    (k : ∀ v T' h', own_At G p l e R s m args below meth c Z n0 own nm bytes maxL ret T' h' cells' slots' → Q v h' → G T' (mkF m pc' Ls (v.toList ++ rest))) : G T (mkF m pc Ls st) := by
  obtain ⟨hG, ⟨c1, c2, hZ, hown, c5, c6⟩, L, X, N, eT, O⟩ := X
  subst hp ec es ha hs
  obtain ⟨v, vm₁, ⟨T', L', k', n'⟩, -, X', ⟨Lc, hq, l', y', z'⟩, st'⟩ := Jvm.LawKit.callS X c1 hown (mvT hZ w1) (mvT hZ w2) (mvT hZ w3) (mvT hZ w4) hy (B hZ) (g := mkF m pc Ls (argsL.reverse ++ rest)) rfl (hsz.trans c5.symm) hlen rfl (by show 2 * 0 + _ ≤ _; rw [hW]; omega) (hb c2 hd) (fun _ _ => ⟨rfl, eT, hc, hl⟩)
  dsimp only [Pt.U, Pt.locs, Pt.cells, Pt.slots] at X' l' y' z' st' hq
  subst l' y' z'
  obtain ⟨q1, q2, q3⟩ := hQ _ _ _ hq
  exact hG _ _ _ _ st' (k _ _ _ ⟨hG, ⟨c1, c2, hZ, hown, c5, c6⟩, _, X', Fr.app N q2, rfl, q3⟩ q1)
theorem own_callI (X : own_At G p l e R s m args below meth c Z n0 own nm bytes maxL ret T h cells slots) {pc pc' cells' slots' : Nat} {Ls : Array Slot} {st argsL rest : List Value} {i kc ks W : Nat} {as' : Array Value} {QQ : Option Value → Heap → List Loc → Prop} {Q : Option Value → Heap → Prop} {y : MethodName} {bytes' : ByteArray} {maxL' : Nat} {a : Addr} (w1 : (Cond.methodLink own i y).before a0 Z = true) (w2 : (Cond.instanceMethod y).before a0 Z = true) (w4 : (Cond.code y bytes' maxL' none).before a0 Z = true) (hy0 : y.name = "<init>") (hy : y.cls ≠ "java/lang/invoke/MethodHandle" ∧ y.cls ≠ "java/lang/invoke/VarHandle") (B : ∀ (hZ : Z.Warmed39 s.vm), Back l R p e below s args y 3 W (fun A a => a = as' ∧ A.U.heap = h ∧ A.cells + kc ≤ R.cells ∧ A.slots + ks ≤ R.slots) (fun A _ v B => ∃ L, QQ v B.U.heap L ∧ B.locs = A.locs ++ L ∧ B.cells = A.cells + kc ∧ B.slots = A.slots + ks)) (hQ : ∀ v h' L, QQ v h' L → Q v h' ∧ Fr n0 L ∧ Old Z n0 h') (hsz : Ls.size = maxL) (hlen : ∀ sig, parseMethodDescriptor y.desc = some sig → argsL.length = sig.parameters.length) (hs : st = argsL.reverse ++ Value.ref a :: rest) (hW : (rest.map fun v => v.category).sum = W) (hd : decode bytes pc = .ok (.invokespecial i, 3)) (hp : pc' = pc + 3) (ha : (Value.ref a :: argsL).toArray = as') (ec : cells' = cells + kc) (es : slots' = slots + ks) (hc : cells' ≤ R.cells) (hl : slots' ≤ R.slots)
    (k : ∀ v T' h', own_At G p l e R s m args below meth c Z n0 own nm bytes maxL ret T' h' cells' slots' → Q v h' → G T' (mkF m pc' Ls (v.toList ++ rest))) : G T (mkF m pc Ls st) := by
  obtain ⟨hG, ⟨c1, c2, hZ, hown, c5, c6⟩, L, X, N, eT, O⟩ := X
  subst hp ec es ha hs
  obtain ⟨v, vm₁, ⟨T', L', k', n'⟩, -, X', ⟨Lc, hq, l', y', z'⟩, st'⟩ := Jvm.LawKit.callI X c1 hown hy0 (mvT hZ w1) (mvT hZ w2) (mvT hZ w4) hy (B hZ) (g := mkF m pc Ls (argsL.reverse ++ Value.ref a :: rest)) rfl (hsz.trans c5.symm) hlen rfl (by show 2 * 0 + _ ≤ _; rw [hW]; omega) (hb c2 hd) (fun _ _ => ⟨rfl, eT, hc, hl⟩)
  dsimp only [Pt.U, Pt.locs, Pt.cells, Pt.slots] at X' l' y' z' st' hq
  subst l' y' z'
  obtain ⟨q1, q2, q3⟩ := hQ _ _ _ hq
  exact hG _ _ _ _ st' (k _ _ _ ⟨hG, ⟨c1, c2, hZ, hown, c5, c6⟩, _, X', Fr.app N q2, rfl, q3⟩ q1)
theorem own_callV (X : own_At G p l e R s m args below meth c Z n0 own nm bytes maxL ret T h cells slots) {pc pc' cells' slots' : Nat} {Ls : Array Slot} {st argsL rest : List Value} {i kc ks W : Nat} {as' : Array Value} {QQ : Option Value → Heap → List Loc → Prop} {Q : Option Value → Heap → Prop} {y z : MethodName} {C : String} {a : Addr} (w1 : (Cond.methodLink own i y).before a0 Z = true) (w2 : (Cond.declares y).before a0 Z = true) (nf : ∀ s' : State, Z.Warmed39 s'.vm → NotFace s' y) (w3 : (Cond.selects C y z).before a0 Z = true) (w4 : (Cond.instanceMethod z).before a0 Z = true) (hy : y.cls ≠ "java/lang/invoke/MethodHandle" ∧ y.cls ≠ "java/lang/invoke/VarHandle") (E : Exa Z h a C) (B : ∀ (hZ : Z.Warmed39 s.vm), Back l R p e below s args z 3 W (fun A a => a = as' ∧ A.U.heap = h ∧ A.cells + kc ≤ R.cells ∧ A.slots + ks ≤ R.slots) (fun A _ v B => ∃ L, QQ v B.U.heap L ∧ B.locs = A.locs ++ L ∧ B.cells = A.cells + kc ∧ B.slots = A.slots + ks)) (hQ : ∀ v h' L, QQ v h' L → Q v h' ∧ Fr n0 L ∧ Old Z n0 h') (hsz : Ls.size = maxL) (hlen : ∀ sig, parseMethodDescriptor y.desc = some sig → argsL.length = sig.parameters.length) (hs : st = argsL.reverse ++ Value.ref a :: rest) (hW : (rest.map fun v => v.category).sum = W) (hd : decode bytes pc = .ok (.invokevirtual i, 3)) (hp : pc' = pc + 3) (ha : (Value.ref a :: argsL).toArray = as') (ec : cells' = cells + kc) (es : slots' = slots + ks) (hc : cells' ≤ R.cells) (hl : slots' ≤ R.slots)
    (k : ∀ v T' h', own_At G p l e R s m args below meth c Z n0 own nm bytes maxL ret T' h' cells' slots' → Q v h' → G T' (mkF m pc' Ls (v.toList ++ rest))) : G T (mkF m pc Ls st) := by
  obtain ⟨hG, ⟨c1, c2, hZ, hown, c5, c6⟩, L, X, N, eT, O⟩ := X
  subst hp ec es ha hs
  obtain ⟨v, vm₁, ⟨T', L', k', n'⟩, -, X', ⟨Lc, hq, l', y', z'⟩, st'⟩ := (have ⟨_, _, q1, _, q3⟩ := isOf hZ eT E; X.virtualBack c1 hown (mvT hZ w1) (mvT hZ w2) (nf s hZ) (mvT hZ w3) (mvT hZ w4) hy (B hZ) q1 q3 (g := mkF m pc Ls (argsL.reverse ++ Value.ref a :: rest)) rfl (hsz.trans c5.symm) (Steps.refl _) hlen rfl (by show 2 * 0 + _ ≤ _; rw [hW]; omega) (hb c2 hd) (fun _ _ => ⟨rfl, eT, hc, hl⟩))
  dsimp only [Pt.U, Pt.locs, Pt.cells, Pt.slots] at X' l' y' z' st' hq
  subst l' y' z'
  obtain ⟨q1, q2, q3⟩ := hQ _ _ _ hq
  exact hG _ _ _ _ (fun t q => st'.trans q) (k _ _ _ ⟨hG, ⟨c1, c2, hZ, hown, c5, c6⟩, _, X', Fr.app N q2, rfl, q3⟩ q1)
theorem own_callF (X : own_At G p l e R s m args below meth c Z n0 own nm bytes maxL ret T h cells slots) {pc pc' cells' slots' : Nat} {Ls : Array Slot} {st argsL rest : List Value} {i kc ks W : Nat} {as' : Array Value} {QQ : Option Value → Heap → List Loc → Prop} {Q : Option Value → Heap → Prop} {y z : MethodName} {C : String} {a : Addr} {cnt : Nat} (w1 : (Cond.methodLink own i y).before a0 Z = true) (w2 : (Cond.declares y).before a0 Z = true) (wf : ∀ (s' : State) (a' : Array Value), Z.Warmed39 s'.vm → (Cond.interfaceMethod y.cls y.cls y.name y.desc).before a' s' = true) (w3 : (Cond.selects C y z).before a0 Z = true) (w4 : (Cond.instanceMethod z).before a0 Z = true) (w5 : (Cond.publicMethod z).before a0 Z = true) (w6 : (Cond.unhidden C y.name y.desc).before a0 Z = true) (w7 : (Cond.castable C y.cls).before a0 Z = true) (hy : y.cls ≠ "java/lang/invoke/MethodHandle" ∧ y.cls ≠ "java/lang/invoke/VarHandle") (E : Exa Z h a C) (B : ∀ (hZ : Z.Warmed39 s.vm), Back l R p e below s args z 5 W (fun A a => a = as' ∧ A.U.heap = h ∧ A.cells + kc ≤ R.cells ∧ A.slots + ks ≤ R.slots) (fun A _ v B => ∃ L, QQ v B.U.heap L ∧ B.locs = A.locs ++ L ∧ B.cells = A.cells + kc ∧ B.slots = A.slots + ks)) (hQ : ∀ v h' L, QQ v h' L → Q v h' ∧ Fr n0 L ∧ Old Z n0 h') (hsz : Ls.size = maxL) (hlen : ∀ sig, parseMethodDescriptor y.desc = some sig → argsL.length = sig.parameters.length) (hs : st = argsL.reverse ++ Value.ref a :: rest) (hW : (rest.map fun v => v.category).sum = W) (hd : decode bytes pc = .ok (.invokeinterface i cnt, 5)) (hp : pc' = pc + 5) (ha : (Value.ref a :: argsL).toArray = as') (ec : cells' = cells + kc) (es : slots' = slots + ks) (hc : cells' ≤ R.cells) (hl : slots' ≤ R.slots)
    (k : ∀ v T' h', own_At G p l e R s m args below meth c Z n0 own nm bytes maxL ret T' h' cells' slots' → Q v h' → G T' (mkF m pc' Ls (v.toList ++ rest))) : G T (mkF m pc Ls st) := by
  obtain ⟨hG, ⟨c1, c2, hZ, hown, c5, c6⟩, L, X, N, eT, O⟩ := X
  subst hp ec es ha hs
  obtain ⟨v, vm₁, ⟨T', L', k', n'⟩, -, X', ⟨Lc, hq, l', y', z'⟩, st'⟩ := (have ⟨_, _, q1, q2, q3⟩ := isOf hZ eT E; X.interfaceBack c1 hown (mvT hZ w1) (mvT hZ w2) (wf s args hZ) (mvT hZ w3) (mvT hZ w4) (mvT hZ w5) (mvT hZ w6) (mvT hZ w7) hy (B hZ) q1 q2 q3 (g := mkF m pc Ls (argsL.reverse ++ Value.ref a :: rest)) rfl (hsz.trans c5.symm) (Steps.refl _) hlen rfl (by show 2 * 0 + _ ≤ _; rw [hW]; omega) (hb c2 hd) (fun _ _ => ⟨rfl, eT, hc, hl⟩))
  dsimp only [Pt.U, Pt.locs, Pt.cells, Pt.slots] at X' l' y' z' st' hq
  subst l' y' z'
  obtain ⟨q1, q2, q3⟩ := hQ _ _ _ hq
  exact hG _ _ _ _ (fun t q => st'.trans q) (k _ _ _ ⟨hG, ⟨c1, c2, hZ, hown, c5, c6⟩, _, X', Fr.app N q2, rfl, q3⟩ q1)
theorem own_callSM (X : own_At G p l e R s m args below meth c Z n0 own nm bytes maxL ret T h cells slots) {pc pc' cells' slots' : Nat} {Ls : Array Slot} {st argsL rest : List Value} {i W : Nat} {as' : Array Value} {Q : Option Value → Heap → Prop} {rm : Room} {y : MethodName} {bytes' : ByteArray} {maxL' : Nat} {ret' : Option FieldType} (w1 : (Cond.methodLink own i y).before a0 Z = true) (w2 : (Cond.static y).before a0 Z = true) (hy : y.cls ≠ "java/lang/invoke/MethodHandle" ∧ y.cls ≠ "java/lang/invoke/VarHandle") (M : own_Met l Z n0 y bytes' maxL' ret' rm as' h Q) (wc : (Jvm.Cond.code y bytes' maxL' ret').before a0 Z = true) (wz : (Jvm.Cond.initialized y.cls).before a0 Z = true) (hf : rm.frames + 1 ≤ R.frames) (hlo : W + (maxL' + 11) + rm.locals ≤ R.locals) (hsz : Ls.size = maxL) (hlen : ∀ sig, parseMethodDescriptor y.desc = some sig → argsL.length = sig.parameters.length) (hs : st = argsL.reverse ++ rest) (hW : (rest.map fun v => v.category).sum = W) (hd : decode bytes pc = .ok (.invokestatic i, 3)) (hp : pc' = pc + 3) (ha : argsL.toArray = as') (ec : cells' = cells + rm.cells) (es : slots' = slots + rm.slots) (hc : cells' ≤ R.cells) (hl : slots' ≤ R.slots)
    (k : ∀ v T' h', own_At G p l e R s m args below meth c Z n0 own nm bytes maxL ret T' h' cells' slots' → Q v h' → G T' (mkF m pc' Ls (v.toList ++ rest))) : G T (mkF m pc Ls st) :=
  own_callS (QQ := fun v h' L => Q v h' ∧ Fr n0 L ∧ Old Z n0 h') (kc := rm.cells) (ks := rm.slots) X w1 w2 wz wc hy (fun hZ => own_back M hZ wc wz hf hlo) (fun _ _ _ q => q) hsz hlen hs hW hd hp ha ec es hc hl k
theorem own_callIM (X : own_At G p l e R s m args below meth c Z n0 own nm bytes maxL ret T h cells slots) {pc pc' cells' slots' : Nat} {Ls : Array Slot} {st argsL rest : List Value} {i W : Nat} {as' : Array Value} {Q : Option Value → Heap → Prop} {rm : Room} {y : MethodName} {bytes' : ByteArray} {maxL' : Nat} {a : Addr} (w1 : (Cond.methodLink own i y).before a0 Z = true) (w2 : (Cond.instanceMethod y).before a0 Z = true) (hy0 : y.name = "<init>") (hy : y.cls ≠ "java/lang/invoke/MethodHandle" ∧ y.cls ≠ "java/lang/invoke/VarHandle") (M : own_Met l Z n0 y bytes' maxL' none rm as' h Q) (wc : (Jvm.Cond.code y bytes' maxL' none).before a0 Z = true) (wz : (Jvm.Cond.initialized y.cls).before a0 Z = true) (hf : rm.frames + 1 ≤ R.frames) (hlo : W + (maxL' + 11) + rm.locals ≤ R.locals) (hsz : Ls.size = maxL) (hlen : ∀ sig, parseMethodDescriptor y.desc = some sig → argsL.length = sig.parameters.length) (hs : st = argsL.reverse ++ Value.ref a :: rest) (hW : (rest.map fun v => v.category).sum = W) (hd : decode bytes pc = .ok (.invokespecial i, 3)) (hp : pc' = pc + 3) (ha : (Value.ref a :: argsL).toArray = as') (ec : cells' = cells + rm.cells) (es : slots' = slots + rm.slots) (hc : cells' ≤ R.cells) (hl : slots' ≤ R.slots)
    (k : ∀ v T' h', own_At G p l e R s m args below meth c Z n0 own nm bytes maxL ret T' h' cells' slots' → Q v h' → G T' (mkF m pc' Ls (v.toList ++ rest))) : G T (mkF m pc Ls st) :=
  own_callI (QQ := fun v h' L => Q v h' ∧ Fr n0 L ∧ Old Z n0 h') (kc := rm.cells) (ks := rm.slots) X w1 w2 wc hy0 hy (fun hZ => own_back M hZ wc wz hf hlo) (fun _ _ _ q => q) hsz hlen hs hW hd hp ha ec es hc hl k
theorem own_callVM (X : own_At G p l e R s m args below meth c Z n0 own nm bytes maxL ret T h cells slots) {pc pc' cells' slots' : Nat} {Ls : Array Slot} {st argsL rest : List Value} {i W : Nat} {as' : Array Value} {Q : Option Value → Heap → Prop} {rm : Room} {y z : MethodName} {C : String} {a : Addr} {bytes' : ByteArray} {maxL' : Nat} {ret' : Option FieldType} (w1 : (Cond.methodLink own i y).before a0 Z = true) (w2 : (Cond.declares y).before a0 Z = true) (nf : ∀ s' : State, Z.Warmed39 s'.vm → NotFace s' y) (w3 : (Cond.selects C y z).before a0 Z = true) (w4 : (Cond.instanceMethod z).before a0 Z = true) (hy : y.cls ≠ "java/lang/invoke/MethodHandle" ∧ y.cls ≠ "java/lang/invoke/VarHandle") (E : Exa Z h a C) (M : own_Met l Z n0 z bytes' maxL' ret' rm as' h Q) (wc : (Jvm.Cond.code z bytes' maxL' ret').before a0 Z = true) (wz : (Jvm.Cond.initialized z.cls).before a0 Z = true) (hf : rm.frames + 1 ≤ R.frames) (hlo : W + (maxL' + 11) + rm.locals ≤ R.locals) (hsz : Ls.size = maxL) (hlen : ∀ sig, parseMethodDescriptor y.desc = some sig → argsL.length = sig.parameters.length) (hs : st = argsL.reverse ++ Value.ref a :: rest) (hW : (rest.map fun v => v.category).sum = W) (hd : decode bytes pc = .ok (.invokevirtual i, 3)) (hp : pc' = pc + 3) (ha : (Value.ref a :: argsL).toArray = as') (ec : cells' = cells + rm.cells) (es : slots' = slots + rm.slots) (hc : cells' ≤ R.cells) (hl : slots' ≤ R.slots)
    (k : ∀ v T' h', own_At G p l e R s m args below meth c Z n0 own nm bytes maxL ret T' h' cells' slots' → Q v h' → G T' (mkF m pc' Ls (v.toList ++ rest))) : G T (mkF m pc Ls st) :=
  own_callV (QQ := fun v h' L => Q v h' ∧ Fr n0 L ∧ Old Z n0 h') (kc := rm.cells) (ks := rm.slots) X w1 w2 nf w3 w4 hy E (fun hZ => own_back M hZ wc wz hf hlo) (fun _ _ _ q => q) hsz hlen hs hW hd hp ha ec es hc hl k
theorem own_callFM (X : own_At G p l e R s m args below meth c Z n0 own nm bytes maxL ret T h cells slots) {pc pc' cells' slots' : Nat} {Ls : Array Slot} {st argsL rest : List Value} {i W : Nat} {as' : Array Value} {Q : Option Value → Heap → Prop} {rm : Room} {y z : MethodName} {C : String} {a : Addr} {cnt : Nat} {bytes' : ByteArray} {maxL' : Nat} {ret' : Option FieldType} (w1 : (Cond.methodLink own i y).before a0 Z = true) (w2 : (Cond.declares y).before a0 Z = true) (wf : ∀ (s' : State) (a' : Array Value), Z.Warmed39 s'.vm → (Cond.interfaceMethod y.cls y.cls y.name y.desc).before a' s' = true) (w3 : (Cond.selects C y z).before a0 Z = true) (w4 : (Cond.instanceMethod z).before a0 Z = true) (w5 : (Cond.publicMethod z).before a0 Z = true) (w6 : (Cond.unhidden C y.name y.desc).before a0 Z = true) (w7 : (Cond.castable C y.cls).before a0 Z = true) (hy : y.cls ≠ "java/lang/invoke/MethodHandle" ∧ y.cls ≠ "java/lang/invoke/VarHandle") (E : Exa Z h a C) (M : own_Met l Z n0 z bytes' maxL' ret' rm as' h Q) (wc : (Jvm.Cond.code z bytes' maxL' ret').before a0 Z = true) (wz : (Jvm.Cond.initialized z.cls).before a0 Z = true) (hf : rm.frames + 1 ≤ R.frames) (hlo : W + (maxL' + 11) + rm.locals ≤ R.locals) (hsz : Ls.size = maxL) (hlen : ∀ sig, parseMethodDescriptor y.desc = some sig → argsL.length = sig.parameters.length) (hs : st = argsL.reverse ++ Value.ref a :: rest) (hW : (rest.map fun v => v.category).sum = W) (hd : decode bytes pc = .ok (.invokeinterface i cnt, 5)) (hp : pc' = pc + 5) (ha : (Value.ref a :: argsL).toArray = as') (ec : cells' = cells + rm.cells) (es : slots' = slots + rm.slots) (hc : cells' ≤ R.cells) (hl : slots' ≤ R.slots)
    (k : ∀ v T' h', own_At G p l e R s m args below meth c Z n0 own nm bytes maxL ret T' h' cells' slots' → Q v h' → G T' (mkF m pc' Ls (v.toList ++ rest))) : G T (mkF m pc Ls st) :=
  own_callF (QQ := fun v h' L => Q v h' ∧ Fr n0 L ∧ Old Z n0 h') (kc := rm.cells) (ks := rm.slots) X w1 w2 wf w3 w4 w5 w6 w7 hy E (fun hZ => own_back M hZ wc wz hf hlo) (fun _ _ _ q => q) hsz hlen hs hW hd hp ha ec es hc hl k
theorem own_instY (X : own_At G p l e R s m args below meth c Z n0 own nm bytes maxL ret T h cells slots) {pc pc' : Nat} {Ls : Array Slot} {st : List Value} {i : Nat} {K : String} {a : Addr} (w : (Cond.classLink own i K).before a0 Z = true) (F : Ins Z h a K true) (hd : decode bytes pc = .ok (.instanceof i, 3)) (hp : pc' = pc + 3)
    (k : ∀ T', own_At G p l e R s m args below meth c Z n0 own nm bytes maxL ret T' h cells slots → G T' (mkF m pc' Ls (.int 1 :: st))) : G T (mkF m pc Ls (.ref a :: st)) := by
  obtain ⟨hG, ⟨c1, c2, hZ, hown, c5⟩, L, X, N, eT, O⟩ := X
  subst hp
  obtain ⟨T', X', e', st'⟩ := instY X c1 hZ hown w eT F (g := mkF m pc Ls (.ref a :: st)) rfl rfl (hb c2 hd)
  exact hG _ _ _ _ st' (k _ ⟨hG, ⟨c1, c2, hZ, hown, c5⟩, L, X', N, e', O⟩)
theorem own_castY (X : own_At G p l e R s m args below meth c Z n0 own nm bytes maxL ret T h cells slots) {pc pc' : Nat} {Ls : Array Slot} {st : List Value} {i : Nat} {K : String} {a : Addr} (w : (Cond.classLink own i K).before a0 Z = true) (F : Ins Z h a K true) (hd : decode bytes pc = .ok (.checkcast i, 3)) (hp : pc' = pc + 3)
    (k : ∀ T', own_At G p l e R s m args below meth c Z n0 own nm bytes maxL ret T' h cells slots → G T' (mkF m pc' Ls (.ref a :: st))) : G T (mkF m pc Ls (.ref a :: st)) := by
  obtain ⟨hG, ⟨c1, c2, hZ, hown, c5⟩, L, X, N, eT, O⟩ := X
  subst hp
  obtain ⟨T', X', e', st'⟩ := castY X c1 hZ hown w eT F (g := mkF m pc Ls (.ref a :: st)) rfl rfl (hb c2 hd)
  exact hG _ _ _ _ st' (k _ ⟨hG, ⟨c1, c2, hZ, hown, c5⟩, L, X', N, e', O⟩)
theorem own_instN (X : own_At G p l e R s m args below meth c Z n0 own nm bytes maxL ret T h cells slots) {pc pc' : Nat} {Ls : Array Slot} {st : List Value} {i : Nat} {K C : String} {a : Addr} (w : (Cond.classLink own i K).before a0 Z = true) (E : Exa Z h a C) (F : ∃ c t, Z.vm.findClass C = some c ∧ Z.vm.findClass K = some t ∧ Z.vm.assignable c t = false) (hd : decode bytes pc = .ok (.instanceof i, 3)) (hp : pc' = pc + 3)
    (k : ∀ T', own_At G p l e R s m args below meth c Z n0 own nm bytes maxL ret T' h cells slots → G T' (mkF m pc' Ls (.int 0 :: st))) : G T (mkF m pc Ls (.ref a :: st)) := by
  obtain ⟨hG, ⟨c1, c2, hZ, hown, c5⟩, L, X, N, eT, O⟩ := X
  subst hp
  obtain ⟨T', X', e', st'⟩ := instNo X c1 hZ hown w eT E F (g := mkF m pc Ls (.ref a :: st)) rfl rfl (hb c2 hd)
  exact hG _ _ _ _ st' (k _ ⟨hG, ⟨c1, c2, hZ, hown, c5⟩, L, X', N, e', O⟩)
theorem own_instNull (X : own_At G p l e R s m args below meth c Z n0 own nm bytes maxL ret T h cells slots) {pc pc' : Nat} {Ls : Array Slot} {st : List Value} {i : Nat} (hd : decode bytes pc = .ok (.instanceof i, 3)) (hp : pc' = pc + 3)
    (k : G T (mkF m pc' Ls (.int 0 :: st))) : G T (mkF m pc Ls (.null :: st)) := by
  obtain ⟨hG, ⟨c1, c2, hZ, hown, c5⟩, L, X, N, eT, O⟩ := X
  subst hp
  exact hG _ _ _ _ (X.instanceofNull c1 (g := mkF m pc Ls (.null :: st)) rfl rfl (hb c2 hd)) k
theorem own_castNull (X : own_At G p l e R s m args below meth c Z n0 own nm bytes maxL ret T h cells slots) {pc pc' : Nat} {Ls : Array Slot} {st : List Value} {i : Nat} (hd : decode bytes pc = .ok (.checkcast i, 3)) (hp : pc' = pc + 3)
    (k : G T (mkF m pc' Ls (.null :: st))) : G T (mkF m pc Ls (.null :: st)) := by
  obtain ⟨hG, ⟨c1, c2, hZ, hown, c5⟩, L, X, N, eT, O⟩ := X
  subst hp
  exact hG _ _ _ _ (X.checkcastNull c1 (g := mkF m pc Ls (.null :: st)) rfl rfl (hb c2 hd)) k
/-- an object of C, whose superclass S has none, is no K -/
theorem own_no {C S K : String} {n : Nat} (w : (Cond.superclass C S).before a0 Z = true) (wS : (Cond.noSuperclass S).before a0 Z = true) (wi : (Cond.instantiable K n).before a0 Z = true) (hn : C ≠ K) (hS : S ≠ K) : ∃ c t, Z.vm.findClass C = some c ∧ Z.vm.findClass K = some t ∧ Z.vm.assignable c t = false := by
  obtain ⟨t, k', g0, g2, g5, g7, -⟩ := Cond.instantiable_spec wi
  obtain ⟨c, h0⟩ := found_sup w
  obtain ⟨q, k, kp, h1, h2, h3, h4, h5, -, h7⟩ := Cond.superclass_spec h0 w
  obtain ⟨cS, kS, s1, s2, s3, -, -⟩ := Cond.noSuperclass_spec wS
  cases h1.symm.trans s1
  have ne := ids_ne h0 g0 hn
  have neS := ids_ne s1 g0 hS
  have n3 : ∀ fuel, Z.vm.isSubclassAux fuel c t = false := by
    intro fuel
    cases fuel with
    | zero => rfl
    | succ f =>
      cases f with
      | zero => simp [Vm.isSubclassAux, ne, h2, h4]
      | succ f => simp [Vm.isSubclassAux, ne, neS, h2, h4, s2, s3]
  have g7' : k'.isInterface = false := by
    cases hq : k'.isInterface with
    | false => rfl
    | true => rw [hq] at g7; cases g7
  refine ⟨c, t, h0, g0, ?_⟩
  show Z.vm.assignableAux (255 + 1) c t = false
  simp [Vm.assignableAux, ne, h2, g2, h5, g5, g7', Vm.isSubclass, n3]
end OwnKit

section OwnStr
variable {G : State → JFrame → Prop} {p : Program} {l : Launch} {e : Env} {R : Room} {s : State} {m : MethodId} {args : Array Value} {below : List Frame} {meth : Method} {c : Code} {Z : State} {n0 : Nat} {own nm : String} {bytes : ByteArray} {maxL : Nat} {ret : Option FieldType} {T : State} {h : Heap} {cells slots : Nat} {a0 : Array Value}
theorem own_a0 {P : Int32 → Prop} : ∀ x ∈ ([] : List Int32), P x := fun _ q => nomatch q
theorem own_aS {P : Int32 → Prop} {y : Int32} {L : List Int32} (q : P y) (r : ∀ x ∈ L, P x) : ∀ x ∈ y :: L, P x := fun x z => (List.mem_cons.mp z).elim (fun u => u ▸ q) (r x)
def own_CS (Z : State) : Prop := ∃ z : Int32, Sta Z Z.heap "java/lang/String" "COMPACT_STRINGS" "Z" (.int z) ∧ ¬ z = 0
def own_Str (Z : State) (h : Heap) (x t : Addr) (cs : List Int32) : Prop := Exa Z h x "java/lang/String" ∧ Fld Z h x "java/lang/String" "value" "[B" (.ref t) ∧ ∃ (kb : ClassId) (N2 : Int32) (vs : List Value) (cd : Int32), Fld Z h x "java/lang/String" "coder" "B" (.int cd) ∧ Arv Z h t kb .byte N2 vs (.int 0) ∧ StrChars.Road.CodA cs cd N2 vs ∧ (∀ c ∈ cs, ¬ c < 0 ∧ ¬ (65535 : Int32) < c) ∧ cs.length ≤ 4000
theorem own_Str.lt {x t : Addr} {cs : List Int32} (S : own_Str Z h x t cs) : x < h.size := S.1.lt
theorem own_Str.ltt {x t : Addr} {cs : List Int32} (S : own_Str Z h x t cs) : t < h.size := by obtain ⟨-, -, _, _, _, _, -, A, -⟩ := S; exact A.lt
theorem own_Str.keep {h' : Heap} {x t : Addr} {cs : List Int32} {ws : List Addr} (S : own_Str Z h x t cs) (K : Keep h h' ws) (q1 : x ∉ ws) (q2 : t ∉ ws) : own_Str Z h' x t cs := by
  obtain ⟨s1, s2, kb, N2, vs, cd, s3, s4, s5⟩ := S
  exact ⟨s1.keep K, s2.keep K q1, kb, N2, vs, cd, s3.keep K q1, s4.keep K q2, s5⟩
theorem own_nar255 (x : Int32) : nar .char (own_c16 (x &&& 255)) = x &&& 255 := by
  show (own_c16 (x &&& 255)).toUInt32.toUInt16.toUInt32.toInt32 = _
  unfold own_c16; rw [i2c_mask, i2c_mask]
theorem own_255 (x : Int32) : ¬ (x &&& 255) < 0 ∧ ¬ (255 : Int32) < (x &&& 255) := by
  have q := c_and x 255 (by decide)
  have e : (255 : Int32).toInt = 255 := by decide
  rw [Int32.lt_iff_toInt_lt, Int32.lt_iff_toInt_lt]
  rw [e] at q ⊢
  have e0 : (0 : Int32).toInt = 0 := by decide
  rw [e0]; omega
theorem own_up {cs : List Int32} (h : ∀ c ∈ cs, ¬ c < 0 ∧ ¬ (255 : Int32) < c) : ∀ c ∈ cs, ¬ c < 0 ∧ ¬ (65535 : Int32) < c := by
  intro c hc
  refine ⟨(h c hc).1, fun q => (h c hc).2 ?_⟩
  rw [Int32.lt_iff_toInt_lt] at q ⊢
  have e1 : (65535 : Int32).toInt = 65535 := by decide
  have e2 : (255 : Int32).toInt = 255 := by decide
  omega
theorem own_strinit (X : own_At G p l e R s m args below meth c Z n0 own nm bytes maxL ret T h cells slots) {pc pc' cells' slots' : Nat} {Ls : Array Slot} {rest : List Value} {i W n : Nat} {x b : Addr} {kC : ClassId} {cs : List Int32} {v0 c0 : Value} {bytes' : ByteArray} {maxL' : Nat} (hws : ∀ d ∈ StrChars.Road.words, d.before a0 Z = true) (CS : own_CS Z)
    (w1 : (Cond.methodLink own i ⟨"java/lang/String", "<init>", "([C)V"⟩).before a0 Z = true) (w2 : (Cond.instanceMethod ⟨"java/lang/String", "<init>", "([C)V"⟩).before a0 Z = true) (w4 : (Cond.code ⟨"java/lang/String", "<init>", "([C)V"⟩ bytes' maxL' none).before a0 Z = true) (wi : (Cond.instantiable "java/lang/String" 4).before a0 Z = true)
    (E : Exa Z h x "java/lang/String") (V : Fld Z h x "java/lang/String" "value" "[B" v0) (C : Fld Z h x "java/lang/String" "coder" "B" c0) (K : own_Arr Z h b kC .char (cs.map Value.int)) (hx : n0 ≤ x) (hn : cs.length = n) (l0 : 0 < n) (l2 : n ≤ 4000) (hp : ∀ c ∈ cs, ¬ c < 0 ∧ ¬ (255 : Int32) < c) (hfr : 4 ≤ R.frames) (hlo : W + 65 ≤ R.locals)
    (hlen : ∀ sig, parseMethodDescriptor "([C)V" = some sig → 1 = sig.parameters.length) (hsz : Ls.size = maxL) (hW : (rest.map fun v => v.category).sum = W) (hd : decode bytes pc = .ok (.invokespecial i, 3)) (hpc : pc' = pc + 3) (ec : cells' = cells + 1) (es : slots' = slots + n) (hc : cells' ≤ R.cells) (hl : slots' ≤ R.slots)
    (k : ∀ T' h' t, own_At G p l e R s m args below meth c Z n0 own nm bytes maxL ret T' h' cells' slots' → Keep h h' [x] → h.size ≤ t → own_Str Z h' x t cs → G T' (mkF m pc' Ls rest)) : G T (mkF m pc Ls (.ref b :: .ref x :: rest)) := by
  obtain ⟨z, S, hz⟩ := CS
  have hO := own_old X
  have hS := own_sta X S
  have h0 := own_n0 X
  refine own_callI (y := ⟨"java/lang/String", "<init>", "([C)V"⟩) (argsL := [.ref b]) (rest := rest) (a := x) (as' := #[.ref x, .ref b]) (kc := 1) (ks := n) (W := W) (Q := fun v h' => v = none ∧ Keep h h' [x] ∧ ∃ t, h.size ≤ t ∧ own_Str Z h' x t cs) X w1 w2 w4 rfl (by decide)
    (fun hZ => StrChars.Road.backV (W := W) hZ hws (kI := 4) wi (cs := cs) (bs := cs.map (fun c => c.toInt8.toInt32)) (n := n) hx h0 E V C (K.arv (d := .int 0) (N := Int32.ofNat n) (by rw [List.length_map, hn])) hS hz hn rfl l0 l2 hp rfl hfr hlo)
    (fun v h' L q => ?_) hsz hlen rfl hW hd hpc rfl ec es hc hl (fun v T' h' X' q => ?_)
  · obtain ⟨q1, q2, q3, q4, q5, t, kb, q6, q7, q8, q9, q10⟩ := q
    exact ⟨⟨q1, q3, t, q7, q4, q9, kb, _, _, 0, q5, q10, StrChars.Road.codOf hn (fun c hc => (hp c hc).2), own_up hp, by omega⟩, q2, hO.keep q3 (allS hx all0)⟩
  · obtain ⟨rfl, q1, t, q2, q3⟩ := q
    exact k T' h' t X' q1 q2 q3
end OwnStr
section OwnStr2
variable {G : State → JFrame → Prop} {p : Program} {l : Launch} {e : Env} {R : Room} {s : State} {m : MethodId} {args : Array Value} {below : List Frame} {meth : Method} {c : Code} {Z : State} {n0 : Nat} {own nm : String} {bytes : ByteArray} {maxL : Nat} {ret : Option FieldType} {T : State} {h : Heap} {cells slots : Nat} {a0 : Array Value}
def own_SF (Z : State) : Prop := ∃ v : Value, Sta Z Z.heap "jdk/internal/util/Preconditions" "SIOOBE_FORMATTER" "Ljava/util/function/BiFunction;" v ∧ v.isRef = true
theorem own_streq (X : own_At G p l e R s m args below meth c Z n0 own nm bytes maxL ret T h cells slots) {pc pc' : Nat} {Ls : Array Slot} {rest : List Value} {i W : Nat} {x t : Addr} {cs : List Int32} {y t' : Addr} {ds : List Int32} (hws : ∀ d ∈ StrChars.Road.wordsEq, d.before a0 Z = true) (CS : own_CS Z) 
    (w1 : (Cond.methodLink own i ⟨"java/lang/String", "equals", "(Ljava/lang/Object;)Z"⟩).before a0 Z = true) (w2 : (Cond.declares ⟨"java/lang/String", "equals", "(Ljava/lang/Object;)Z"⟩).before a0 Z = true) (w3 : (Cond.selects "java/lang/String" ⟨"java/lang/String", "equals", "(Ljava/lang/Object;)Z"⟩ ⟨"java/lang/String", "equals", "(Ljava/lang/Object;)Z"⟩).before a0 Z = true) (w4 : (Cond.instanceMethod ⟨"java/lang/String", "equals", "(Ljava/lang/Object;)Z"⟩).before a0 Z = true) (wi : (Cond.instantiable "java/lang/String" 4).before a0 Z = true)
    (S1 : own_Str Z h x t cs) (S2 : own_Str Z h y t' ds) (hfr : 2 ≤ R.frames) (hlo : W + 28 ≤ R.locals)
    (hlen : ∀ sig, parseMethodDescriptor "(Ljava/lang/Object;)Z" = some sig → 1 = sig.parameters.length) (hsz : Ls.size = maxL) (hW : (rest.map fun v => v.category).sum = W) (hd : decode bytes pc = .ok (.invokevirtual i, 3)) (hpc : pc' = pc + 3) (hc : cells ≤ R.cells) (hl : slots ≤ R.slots)
    (k : ∀ T', own_At G p l e R s m args below meth c Z n0 own nm bytes maxL ret T' h cells slots → G T' (mkF m pc' Ls ((.int (if cs = ds then 1 else 0)) :: rest))) : G T (mkF m pc Ls (.ref y :: .ref x :: rest)) := by
  obtain ⟨z, S, hz⟩ := CS
  have hO := own_old X
  have hS := own_sta X S
  obtain ⟨s1, s2, kb, N2, vs, cd, s3, s4, s5, s6, s7⟩ := S1
  obtain ⟨r1, r2, kb', N2', vs', cd', r3, r4, r5, r6, r7⟩ := S2
  refine own_callV (y := ⟨"java/lang/String", "equals", "(Ljava/lang/Object;)Z"⟩) (z := ⟨"java/lang/String", "equals", "(Ljava/lang/Object;)Z"⟩) (argsL := [.ref y]) (rest := rest) (a := x) (as' := #[.ref x, .ref y]) (kc := 0) (ks := 0) (W := W) (QQ := fun v h' L => ((v = some (.int 1) ∧ cs = ds) ∨ (v = some (.int 0) ∧ ¬ cs = ds)) ∧ L = [] ∧ h' = h) (Q := fun v h' => v = some (.int (if cs = ds then 1 else 0)) ∧ h = h') (cells' := cells) (slots' := slots) X w1 w2 (fun s' hZ' => notFace_of_selects (args := #[]) (mvT hZ' w3)) w3 w4 (by decide) s1
    (fun hZ => StrChars.Road.eqW (W := W) hZ hws (kI := 4) wi s1 s2 s3 s4 s5 s6 s7 r1 r2 r3 r4 r5 r6 r7 hS hz hfr hlo)
    (fun v h' L q => ?_) hsz hlen rfl hW hd hpc rfl rfl rfl hc hl (fun v T' h' X' q => ?_)
  · obtain ⟨q1, rfl, q3⟩ := q
    rcases q1 with ⟨q1, e⟩ | ⟨q1, e⟩
    · exact ⟨⟨by rw [q1, if_pos e], q3.symm⟩, Fr.nil n0, q3 ▸ hO⟩
    · exact ⟨⟨by rw [q1, if_neg e], q3.symm⟩, Fr.nil n0, q3 ▸ hO⟩
  · obtain ⟨rfl, rfl⟩ := q
    exact k T' X'
end OwnStr2
set_option maxRecDepth 65536 in
theorem own_in_words : ∀ d ∈ StrChars.Road.words, d ∈ tables_1 := by decide +kernel
set_option maxRecDepth 65536 in
theorem own_in_wordsEq : ∀ d ∈ StrChars.Road.wordsEq, d ∈ tables_1 := by decide +kernel
theorem dd_prog_23_method_1_0 : decode prog_23_method_1_code 0 = .ok (.aload_n 0, 1) := by decide +kernel
theorem dd_prog_23_method_1_1 : decode prog_23_method_1_code 1 = .ok (.invokespecial 1, 3) := by decide +kernel
theorem dd_prog_23_method_1_4 : decode prog_23_method_1_code 4 = .ok (.aload_n 0, 1) := by decide +kernel
theorem dd_prog_23_method_1_5 : decode prog_23_method_1_code 5 = .ok (.iload_n 1, 1) := by decide +kernel
theorem dd_prog_23_method_1_6 : decode prog_23_method_1_code 6 = .ok (.putfield 7, 3) := by decide +kernel
theorem dd_prog_23_method_1_9 : decode prog_23_method_1_code 9 = .ok (.aload_n 0, 1) := by decide +kernel
theorem dd_prog_23_method_1_10 : decode prog_23_method_1_code 10 = .ok (.aload_n 2, 1) := by decide +kernel
theorem dd_prog_23_method_1_11 : decode prog_23_method_1_code 11 = .ok (.putfield 13, 3) := by decide +kernel
theorem dd_prog_23_method_1_14 : decode prog_23_method_1_code 14 = .ok (.aload_n 0, 1) := by decide +kernel
theorem dd_prog_23_method_1_15 : decode prog_23_method_1_code 15 = .ok (.lload_n 3, 1) := by decide +kernel
theorem dd_prog_23_method_1_16 : decode prog_23_method_1_code 16 = .ok (.putfield 17, 3) := by decide +kernel
theorem dd_prog_23_method_1_19 : decode prog_23_method_1_code 19 = .ok (.return_, 1) := by decide +kernel
theorem pn_0 : plainName "com/example/darja/darja/Standing" = true := by first | (simp [plainName, overriddenIn]; done) | decide +kernel
theorem ef_own_init (m : MethodId) (x0 : Addr) (x1 : Int32) (x2 : Addr) (x3 : Int64) : entryFrame m #[(.ref x0), (.int x1), (.ref x2), (.long x3)] 5 = mkF m 0 #[.val (.ref x0), .val (.int x1), .val (.ref x2), .val (.long x3), .second] [] := by first | (simp [entryFrame, mkF, argsToLocals, Value.category]; done) | rfl
set_option maxRecDepth 65536 in
set_option maxHeartbeats 40000000 in
theorem own_init (l : Launch) (Z : State) (a0 : Array Value) (hw : ∀ d ∈ tables_1, d.before a0 Z = true) (n0 : Nat) (a : Addr) (r : Int32) (mb : Addr) (tt : Int64) (h0 : Heap) (O0 : Old Z n0 h0) (n_a : n0 ≤ a) (E0 : Exa Z h0 a "com/example/darja/darja/Standing") (F1 : Fld Z h0 a "com/example/darja/darja/Standing" "rank" "I" (.int 0)) (F2 : Fld Z h0 a "com/example/darja/darja/Standing" "member" "Ljava/lang/String;" .null) (F3 : Fld Z h0 a "com/example/darja/darja/Standing" "total" "J" (.long 0)) :
    own_Met l Z n0 (⟨"com/example/darja/darja/Standing", "<init>", "(ILjava/lang/String;J)V"⟩ : MethodName) prog_23_method_1_code 5 none ({ frames := 1, cells := 0, slots := 0, locals := 12 } : Room) #[(.ref a), (.int r), (.ref mb), (.long tt)] h0 (fun v h => v = none ∧ Keep h0 h [a] ∧ Exa Z h a "com/example/darja/darja/Standing" ∧ Fld Z h a "com/example/darja/darja/Standing" "rank" "I" (.int r) ∧ Fld Z h a "com/example/darja/darja/Standing" "member" "Ljava/lang/String;" (.ref mb) ∧ Fld Z h a "com/example/darja/darja/Standing" "total" "J" (.long tt)) := by
  refine own_enter (own := "com/example/darja/darja/Standing") (nm := "<init>") pn_0 rfl rfl O0 ?_
  have W : ∀ (k : Nat) {d : Jvm.Cond}, tables_1[k]? = some d → d.before a0 Z = true := fun k d q => hw d (List.mem_of_getElem? q)
  intro G p e s m below meth c T0 hGe X0
  rw [ef_own_init m a r mb tt]
  refine own_aload_n (pc' := 1) X0 dd_prog_23_method_1_0 rfl rfl rfl ?_
  refine own_initO (pc' := 4) (W := 0) X0 (W 36 rfl) (W 12 rfl) (W 13 rfl) rfl dd_prog_23_method_1_1 rfl (by decide) rfl (by decide) ?_
  intro T1 X1
  refine own_aload_n (pc' := 5) X1 dd_prog_23_method_1_4 rfl rfl rfl ?_
  refine own_iload_n (pc' := 6) X1 dd_prog_23_method_1_5 rfl rfl ?_
  refine own_put (pc' := 9) X1 (host := "") (Or.inl (W 37 rfl)) Via.refl F1 E0 (Or.inr ⟨(W 38 rfl), rfl, rfl⟩) (W 31 rfl) (ty := .int) (by decide) rfl rfl n_a dd_prog_23_method_1_6 rfl ?_
  intro T2 h2 X2 W2 K2
  have f2_ := F1.same W2
  refine own_aload_n (pc' := 10) X2 dd_prog_23_method_1_9 rfl rfl rfl ?_
  refine own_aload_n (pc' := 11) X2 dd_prog_23_method_1_10 rfl rfl rfl ?_
  have f3 := (F2.other W2 (Or.inr (slot_ne (Or.inr (W 40 rfl)) (Or.inr (W 38 rfl)) (by decide) (t := (.object "java/lang/String")) (t' := .int) (by decide) (by decide))))
  have f4 := (E0.keep K2)
  refine own_put (pc' := 14) X2 (host := "") (Or.inl (W 39 rfl)) Via.refl f3 f4 (Or.inr ⟨(W 40 rfl), rfl, rfl⟩) (W 31 rfl) (ty := (.object "java/lang/String")) (by decide) rfl rfl n_a dd_prog_23_method_1_11 rfl ?_
  intro T5 h5 X5 W5 K5
  have f5_ := f3.same W5
  refine own_aload_n (pc' := 15) X5 dd_prog_23_method_1_14 rfl rfl rfl ?_
  refine own_lload_n (pc' := 16) X5 dd_prog_23_method_1_15 rfl rfl ?_
  have f6 := ((F3.other W2 (Or.inr (slot_ne (Or.inr (W 42 rfl)) (Or.inr (W 38 rfl)) (by decide) (t := .long) (t' := .int) (by decide) (by decide)))).other W5 (Or.inr (slot_ne (Or.inr (W 42 rfl)) (Or.inr (W 40 rfl)) (by decide) (t := .long) (t' := (.object "java/lang/String")) (by decide) (by decide))))
  have f7 := (f4.keep K5)
  refine own_put (pc' := 19) X5 (host := "") (Or.inl (W 41 rfl)) Via.refl f6 f7 (Or.inr ⟨(W 42 rfl), rfl, rfl⟩) (W 31 rfl) (ty := .long) (by decide) rfl rfl n_a dd_prog_23_method_1_16 rfl ?_
  intro T8 h8 X8 W8 K8
  have f8_ := f6.same W8
  have f9 := ((f2_.other W5 (Or.inr (slot_ne (Or.inr (W 38 rfl)) (Or.inr (W 40 rfl)) (by decide) (t := .int) (t' := (.object "java/lang/String")) (by decide) (by decide)))).other W8 (Or.inr (slot_ne (Or.inr (W 38 rfl)) (Or.inr (W 42 rfl)) (by decide) (t := .int) (t' := .long) (by decide) (by decide))))
  have f10 := (f5_.other W8 (Or.inr (slot_ne (Or.inr (W 40 rfl)) (Or.inr (W 42 rfl)) (by decide) (t := (.object "java/lang/String")) (t' := .long) (by decide) (by decide))))
  have f11 := (f7.keep K8)
  exact own_retV X8 hGe rfl dd_prog_23_method_1_19 (by decide) (by decide) ⟨rfl, ((((Keep.refl h0 [a]).trans K2 (allS (Or.inl (List.mem_of_getElem? (i := 0) rfl)) all0)).trans K5 (allS (Or.inl (List.mem_of_getElem? (i := 0) rfl)) all0)).trans K8 (allS (Or.inl (List.mem_of_getElem? (i := 0) rfl)) all0)), f11, f9, f10, f8_⟩
theorem dd_prog_23_method_5_0 : decode prog_23_method_5_code 0 = .ok (.aload_n 1, 1) := by decide +kernel
theorem dd_prog_23_method_5_1 : decode prog_23_method_5_code 1 = .ok (.instanceof 8, 3) := by decide +kernel
theorem dd_prog_23_method_5_4 : decode prog_23_method_5_code 4 = .ok (.ifCond .eq 49, 3) := by decide +kernel
theorem dd_prog_23_method_5_53 : decode prog_23_method_5_code 53 = .ok (.iconst 0, 1) := by decide +kernel
theorem dd_prog_23_method_5_54 : decode prog_23_method_5_code 54 = .ok (.ireturn, 1) := by decide +kernel
theorem ef_own_eqn (m : MethodId) (x0 : Addr) : entryFrame m #[(.ref x0), .null] 3 = mkF m 0 #[.val (.ref x0), .val .null, .unset] [] := by first | (simp [entryFrame, mkF, argsToLocals, Value.category]; done) | rfl
set_option maxRecDepth 65536 in
set_option maxHeartbeats 40000000 in
theorem own_eqn (l : Launch) (Z : State) (a0 : Array Value) (hw : ∀ d ∈ tables_1, d.before a0 Z = true) (n0 : Nat) (a : Addr)  (h0 : Heap) (O0 : Old Z n0 h0)  :
    own_Met l Z n0 (⟨"com/example/darja/darja/Standing", "equals", "(Ljava/lang/Object;)Z"⟩ : MethodName) prog_23_method_5_code 3 (some .boolean) ({ frames := 0, cells := 0, slots := 0, locals := 0 } : Room) #[(.ref a), .null] h0 (fun v h => v = some (.int 0) ∧ h0 = h) := by
  refine own_enter (own := "com/example/darja/darja/Standing") (nm := "equals") pn_0 rfl rfl O0 ?_
  have W : ∀ (k : Nat) {d : Jvm.Cond}, tables_1[k]? = some d → d.before a0 Z = true := fun k d q => hw d (List.mem_of_getElem? q)
  intro G p e s m below meth c T0 hGe X0
  rw [ef_own_eqn m a]
  refine own_aload_n (pc' := 1) X0 dd_prog_23_method_5_0 rfl rfl rfl ?_
  refine own_instNull (pc' := 4) X0 dd_prog_23_method_5_1 rfl ?_
  refine own_ifY (pc' := 53) X0 dd_prog_23_method_5_4 ((teq rfl).1) (by decide) (by decide) ?_
  refine own_iconst (pc' := 54) X0 dd_prog_23_method_5_53 rfl (z := (0 : Int32)) (by decide) ?_
  exact own_ret X0 hGe (t := .boolean) rfl rfl (Or.inl ⟨rfl, by simp, _, rfl⟩) dd_prog_23_method_5_54 (by decide) (by decide) ⟨rfl, rfl⟩
theorem ef_own_eqx (m : MethodId) (x0 : Addr) (x1 : Addr) : entryFrame m #[(.ref x0), (.ref x1)] 3 = mkF m 0 #[.val (.ref x0), .val (.ref x1), .unset] [] := by first | (simp [entryFrame, mkF, argsToLocals, Value.category]; done) | rfl
set_option maxRecDepth 65536 in
set_option maxHeartbeats 40000000 in
theorem own_eqx (l : Launch) (Z : State) (a0 : Array Value) (hw : ∀ d ∈ tables_1, d.before a0 Z = true) (n0 : Nat) (a : Addr) (b : Addr) (h0 : Heap) (O0 : Old Z n0 h0) (E0 : Exa Z h0 b "java/lang/String") :
    own_Met l Z n0 (⟨"com/example/darja/darja/Standing", "equals", "(Ljava/lang/Object;)Z"⟩ : MethodName) prog_23_method_5_code 3 (some .boolean) ({ frames := 0, cells := 0, slots := 0, locals := 0 } : Room) #[(.ref a), (.ref b)] h0 (fun v h => v = some (.int 0) ∧ h0 = h) := by
  refine own_enter (own := "com/example/darja/darja/Standing") (nm := "equals") pn_0 rfl rfl O0 ?_
  have W : ∀ (k : Nat) {d : Jvm.Cond}, tables_1[k]? = some d → d.before a0 Z = true := fun k d q => hw d (List.mem_of_getElem? q)
  intro G p e s m below meth c T0 hGe X0
  rw [ef_own_eqx m a b]
  refine own_aload_n (pc' := 1) X0 dd_prog_23_method_5_0 rfl rfl rfl ?_
  refine own_instN (pc' := 4) X0 (W 48 rfl) E0 (own_no (W 60 rfl) (W 61 rfl) (W 31 rfl) (by decide) (by decide)) dd_prog_23_method_5_1 rfl ?_
  intro T1 X1
  refine own_ifY (pc' := 53) X1 dd_prog_23_method_5_4 ((teq rfl).1) (by decide) (by decide) ?_
  refine own_iconst (pc' := 54) X1 dd_prog_23_method_5_53 rfl (z := (0 : Int32)) (by decide) ?_
  exact own_ret X1 hGe (t := .boolean) rfl rfl (Or.inl ⟨rfl, by simp, _, rfl⟩) dd_prog_23_method_5_54 (by decide) (by decide) ⟨rfl, rfl⟩
theorem dd_prog_23_method_5_7 : decode prog_23_method_5_code 7 = .ok (.aload_n 1, 1) := by decide +kernel
theorem dd_prog_23_method_5_8 : decode prog_23_method_5_code 8 = .ok (.checkcast 8, 3) := by decide +kernel
theorem dd_prog_23_method_5_11 : decode prog_23_method_5_code 11 = .ok (.astore_n 2, 1) := by decide +kernel
theorem dd_prog_23_method_5_12 : decode prog_23_method_5_code 12 = .ok (.aload_n 0, 1) := by decide +kernel
theorem dd_prog_23_method_5_13 : decode prog_23_method_5_code 13 = .ok (.getfield 7, 3) := by decide +kernel
theorem dd_prog_23_method_5_16 : decode prog_23_method_5_code 16 = .ok (.aload_n 2, 1) := by decide +kernel
theorem dd_prog_23_method_5_17 : decode prog_23_method_5_code 17 = .ok (.getfield 7, 3) := by decide +kernel
theorem dd_prog_23_method_5_20 : decode prog_23_method_5_code 20 = .ok (.if_icmp .ne 33, 3) := by decide +kernel
theorem dd_prog_23_method_5_23 : decode prog_23_method_5_code 23 = .ok (.aload_n 0, 1) := by decide +kernel
theorem dd_prog_23_method_5_24 : decode prog_23_method_5_code 24 = .ok (.getfield 13, 3) := by decide +kernel
theorem dd_prog_23_method_5_27 : decode prog_23_method_5_code 27 = .ok (.aload_n 2, 1) := by decide +kernel
theorem dd_prog_23_method_5_28 : decode prog_23_method_5_code 28 = .ok (.getfield 13, 3) := by decide +kernel
theorem dd_prog_23_method_5_31 : decode prog_23_method_5_code 31 = .ok (.invokevirtual 21, 3) := by decide +kernel
theorem pd_0 : parseMethodDescriptor "(Ljava/lang/Object;)Z" = some ⟨[(.object "java/lang/Object")], some .boolean⟩ := by decide +kernel
theorem dd_prog_23_method_5_34 : decode prog_23_method_5_code 34 = .ok (.ifCond .eq 19, 3) := by decide +kernel
theorem dd_prog_23_method_5_37 : decode prog_23_method_5_code 37 = .ok (.aload_n 0, 1) := by decide +kernel
theorem dd_prog_23_method_5_38 : decode prog_23_method_5_code 38 = .ok (.getfield 17, 3) := by decide +kernel
theorem dd_prog_23_method_5_41 : decode prog_23_method_5_code 41 = .ok (.aload_n 2, 1) := by decide +kernel
theorem dd_prog_23_method_5_42 : decode prog_23_method_5_code 42 = .ok (.getfield 17, 3) := by decide +kernel
theorem dd_prog_23_method_5_45 : decode prog_23_method_5_code 45 = .ok (.lcmp, 1) := by decide +kernel
theorem dd_prog_23_method_5_46 : decode prog_23_method_5_code 46 = .ok (.ifCond .ne 7, 3) := by decide +kernel
theorem dd_prog_23_method_5_49 : decode prog_23_method_5_code 49 = .ok (.iconst 1, 1) := by decide +kernel
theorem dd_prog_23_method_5_50 : decode prog_23_method_5_code 50 = .ok (.goto 4, 3) := by decide +kernel
theorem ef_own_eqs (m : MethodId) (x0 : Addr) (x1 : Addr) : entryFrame m #[(.ref x0), (.ref x1)] 3 = mkF m 0 #[.val (.ref x0), .val (.ref x1), .unset] [] := by first | (simp [entryFrame, mkF, argsToLocals, Value.category]; done) | rfl
set_option maxRecDepth 65536 in
set_option maxHeartbeats 40000000 in
theorem own_eqs (l : Launch) (Z : State) (a0 : Array Value) (hw : ∀ d ∈ tables_1, d.before a0 Z = true) (n0 : Nat) (a : Addr) (b : Addr) (r r' : Int32) (mA tA mB tB : Addr) (u u' : Int64) (cs ds : List Int32) (h0 : Heap) (O0 : Old Z n0 h0) (E0 : Exa Z h0 b "com/example/darja/darja/Standing") (A1 : Fld Z h0 a "com/example/darja/darja/Standing" "rank" "I" (.int r)) (A2 : Fld Z h0 a "com/example/darja/darja/Standing" "member" "Ljava/lang/String;" (.ref mA)) (A3 : Fld Z h0 a "com/example/darja/darja/Standing" "total" "J" (.long u)) (B1 : Fld Z h0 b "com/example/darja/darja/Standing" "rank" "I" (.int r')) (B2 : Fld Z h0 b "com/example/darja/darja/Standing" "member" "Ljava/lang/String;" (.ref mB)) (B3 : Fld Z h0 b "com/example/darja/darja/Standing" "total" "J" (.long u')) (S1 : own_Str Z h0 mA tA cs) (S2 : own_Str Z h0 mB tB ds) (CS : own_CS Z) :
    own_Met l Z n0 (⟨"com/example/darja/darja/Standing", "equals", "(Ljava/lang/Object;)Z"⟩ : MethodName) prog_23_method_5_code 3 (some .boolean) ({ frames := 2, cells := 0, slots := 0, locals := 28 } : Room) #[(.ref a), (.ref b)] h0 (fun v h => v = some (.int (if r = r' ∧ cs = ds ∧ u = u' then 1 else 0)) ∧ h0 = h) := by
  refine own_enter (own := "com/example/darja/darja/Standing") (nm := "equals") pn_0 rfl rfl O0 ?_
  have W : ∀ (k : Nat) {d : Jvm.Cond}, tables_1[k]? = some d → d.before a0 Z = true := fun k d q => hw d (List.mem_of_getElem? q)
  intro G p e s m below meth c T0 hGe X0
  rw [ef_own_eqs m a b]
  refine own_aload_n (pc' := 1) X0 dd_prog_23_method_5_0 rfl rfl rfl ?_
  refine own_instY (pc' := 4) X0 (W 48 rfl) (Ins.self E0) dd_prog_23_method_5_1 rfl ?_
  intro T1 X1
  refine own_ifN (pc' := 7) X1 dd_prog_23_method_5_4 rfl ((feq (by decide)).1) ?_
  refine own_aload_n (pc' := 8) X1 dd_prog_23_method_5_7 rfl rfl rfl ?_
  refine own_castY (pc' := 11) X1 (W 48 rfl) (Ins.self E0) dd_prog_23_method_5_8 rfl ?_
  intro T2 X2
  refine own_astore_n (pc' := 12) X2 dd_prog_23_method_5_11 rfl rfl (Ls' := #[.val (.ref a), .val (.ref b), .val (.ref b)]) rfl ?_
  refine own_aload_n (pc' := 13) X2 dd_prog_23_method_5_12 rfl rfl rfl ?_
  refine own_get (pc' := 16) X2 (host := "") (Or.inl (W 37 rfl)) Via.refl A1 dd_prog_23_method_5_13 rfl ?_
  intro T3 X3
  refine own_aload_n (pc' := 17) X3 dd_prog_23_method_5_16 rfl rfl rfl ?_
  refine own_get (pc' := 20) X3 (host := "") (Or.inl (W 37 rfl)) Via.refl B1 dd_prog_23_method_5_17 rfl ?_
  intro T4 X4
  by_cases hr : r = r'
  · refine own_icmpN (pc' := 23) X4 dd_prog_23_method_5_20 rfl ((teq hr).2) ?_
    refine own_aload_n (pc' := 24) X4 dd_prog_23_method_5_23 rfl rfl rfl ?_
    refine own_get (pc' := 27) X4 (host := "") (Or.inl (W 39 rfl)) Via.refl A2 dd_prog_23_method_5_24 rfl ?_
    intro T5 X5
    refine own_aload_n (pc' := 28) X5 dd_prog_23_method_5_27 rfl rfl rfl ?_
    refine own_get (pc' := 31) X5 (host := "") (Or.inl (W 39 rfl)) Via.refl B2 dd_prog_23_method_5_28 rfl ?_
    intro T6 X6
    refine own_streq (pc' := 34) (W := 0) X6 (fun d hd => hw d (own_in_wordsEq d hd)) CS (W 50 rfl) (W 51 rfl) (W 53 rfl) (W 52 rfl) (W 2 rfl) S1 S2 (by decide) (by decide) (lenOf (L := [.ref mB]) pd_0 rfl) rfl rfl dd_prog_23_method_5_31 rfl (by decide) (by decide) ?_
    intro T7 X7
    by_cases hc : cs = ds
    · rw [if_pos hc]
      refine own_ifN (pc' := 37) X7 dd_prog_23_method_5_34 rfl ((feq (by decide)).1) ?_
      refine own_aload_n (pc' := 38) X7 dd_prog_23_method_5_37 rfl rfl rfl ?_
      refine own_get (pc' := 41) X7 (host := "") (Or.inl (W 41 rfl)) Via.refl A3 dd_prog_23_method_5_38 rfl ?_
      intro T8 X8
      refine own_aload_n (pc' := 42) X8 dd_prog_23_method_5_41 rfl rfl rfl ?_
      refine own_get (pc' := 45) X8 (host := "") (Or.inl (W 41 rfl)) Via.refl B3 dd_prog_23_method_5_42 rfl ?_
      intro T9 X9
      refine own_lcmp (pc' := 46) X9 dd_prog_23_method_5_45 rfl ?_
      by_cases hu : u = u'
      · refine own_ifN (pc' := 49) X9 dd_prog_23_method_5_46 rfl ((own_lc_eq hu).2) ?_
        refine own_iconst (pc' := 50) X9 dd_prog_23_method_5_49 rfl (z := (1 : Int32)) (by decide) ?_
        refine own_goto (pc' := 54) X9 dd_prog_23_method_5_50 (by decide) (by decide) ?_
        exact own_ret X9 hGe (t := .boolean) rfl rfl (Or.inl ⟨rfl, by simp, _, rfl⟩) dd_prog_23_method_5_54 (by decide) (by decide) ⟨by rw [if_pos ⟨hr, hc, hu⟩], rfl⟩
      · refine own_ifY (pc' := 53) X9 dd_prog_23_method_5_46 ((own_lc_ne hu).2) (by decide) (by decide) ?_
        refine own_iconst (pc' := 54) X9 dd_prog_23_method_5_53 rfl (z := (0 : Int32)) (by decide) ?_
        exact own_ret X9 hGe (t := .boolean) rfl rfl (Or.inl ⟨rfl, by simp, _, rfl⟩) dd_prog_23_method_5_54 (by decide) (by decide) ⟨by rw [if_neg (fun q => hu q.2.2)], rfl⟩
    · rw [if_neg hc]
      refine own_ifY (pc' := 53) X7 dd_prog_23_method_5_34 ((teq rfl).1) (by decide) (by decide) ?_
      refine own_iconst (pc' := 54) X7 dd_prog_23_method_5_53 rfl (z := (0 : Int32)) (by decide) ?_
      exact own_ret X7 hGe (t := .boolean) rfl rfl (Or.inl ⟨rfl, by simp, _, rfl⟩) dd_prog_23_method_5_54 (by decide) (by decide) ⟨by rw [if_neg (fun q => hc q.2.1)], rfl⟩
  · refine own_icmpY (pc' := 53) X4 dd_prog_23_method_5_20 ((feq hr).2) (by decide) (by decide) ?_
    refine own_iconst (pc' := 54) X4 dd_prog_23_method_5_53 rfl (z := (0 : Int32)) (by decide) ?_
    exact own_ret X4 hGe (t := .boolean) rfl rfl (Or.inl ⟨rfl, by simp, _, rfl⟩) dd_prog_23_method_5_54 (by decide) (by decide) ⟨by rw [if_neg (fun q => hr q.1)], rfl⟩
theorem own_c255 (x : Int32) : ¬ own_c16 (x &&& 255) < 0 ∧ ¬ (255 : Int32) < own_c16 (x &&& 255) := by
  unfold own_c16; rw [i2c_mask]; exact own_255 x
theorem own_i2c_mask (x : Int32) : own_c16 (x &&& 255) = x &&& 255 := by unfold own_c16; exact i2c_mask x
theorem own_narb {c : Int32} (h : ¬ c < 0 ∧ ¬ (255 : Int32) < c) : nar .char c = c := by
  have e : c &&& 255 = c := by
    apply Int32.toInt_inj.mp
    rw [c_mask c 255 8 (by decide) (by decide)]
    have h1 := h.1; have h2 := h.2
    rw [Int32.lt_iff_toInt_lt] at h1 h2
    have e1 : (255 : Int32).toInt = 255 := by decide
    have e2 : (0 : Int32).toInt = 0 := by decide
    omega
  show c.toUInt32.toUInt16.toUInt32.toInt32 = c
  rw [← e]; exact i2c_mask c
theorem own_len (x : Int32) : 1 + (x &&& 1) = 1 ∨ 1 + (x &&& 1) = 2 := by
  rcases and_one x with h | h
  · left; rw [h]; decide
  · right; rw [h]; decide
set_option maxRecDepth 65536 in
set_option maxHeartbeats 40000000 in
theorem own_374y {G : State → JFrame → Prop} {p : Program} {l : Launch} {e : Env} {s : State} {m : MethodId} {args : Array Value} {below : List Frame} {meth : Method} {c : Code} {Z : State} {a0 : Array Value} {n0 : Nat} {T0 : State} {h0 : Heap} (hw : ∀ d ∈ tables_1, d.before a0 Z = true) (r1 r2 : Int32) (t1 t2 : Int64) (chars mode : Int32) (rb : Int32) (tb : Int64) (ca0 ca1 cb0 cb1 cp lenA lenB : Int32) (caA cbA ma mb tA tB : Addr) (csA csB : List Int32) (x y : Addr) (kd : Int32) (sm ex ok : Int32)
    (X0 : own_At G p l e room_1 s m args below meth c Z n0 "com/example/darja/darja/StandingEqualsPinLaw" "law" code maxLocals ret T0 h0 8 22) (hGe : G = own_Fin p e below s Z n0 (fun v h => v = some (.int 1)) room_1.cells room_1.slots) (CS : own_CS Z) (hAB : (csA = csB ↔ lenA = lenB ∧ ca0 = cb0 ∧ (lenA = 1 ∨ ca1 = cb1))) (p_Ex : Exa Z h0 x "com/example/darja/darja/Standing") (p_Ey : Exa Z h0 y "com/example/darja/darja/Standing") (p_X1 : Fld Z h0 x "com/example/darja/darja/Standing" "rank" "I" (.int r1)) (p_X2 : Fld Z h0 x "com/example/darja/darja/Standing" "member" "Ljava/lang/String;" (.ref ma)) (p_X3 : Fld Z h0 x "com/example/darja/darja/Standing" "total" "J" (.long t1)) (p_Y1 : Fld Z h0 y "com/example/darja/darja/Standing" "rank" "I" (.int rb)) (p_Y2 : Fld Z h0 y "com/example/darja/darja/Standing" "member" "Ljava/lang/String;" (.ref mb)) (p_Y3 : Fld Z h0 y "com/example/darja/darja/Standing" "total" "J" (.long tb)) (p_S1 : own_Str Z h0 ma tA csA) (p_S2 : own_Str Z h0 mb tB csB) (hok : ok = 1) :
    G T0 (mkF m 374 #[.val (.int r1), .val (.int r2), .val (.long t1), .second, .val (.long t2), .second, .val (.int chars), .val (.int mode), .val (.int rb), .val (.long tb), .second, .val (.int ca0), .val (.int ca1), .val (.int cb0), .val (.int cb1), .val (.int cp), .val (.int lenA), .val (.int lenB), .val (.ref caA), .val (.ref cbA), .val (.ref ma), .val (.ref mb), .val (.ref x), .val (.ref y), .val (.int kd), .val (.ref y), .val (.int sm), .val (.int ex), .val (.int ok)] []) := by
  have W : ∀ (k : Nat) {d : Jvm.Cond}, tables_1[k]? = some d → d.before a0 Z = true := fun k d q => hw d (List.mem_of_getElem? q)
  subst hok
  refine own_iload (pc' := 376) X0 at_374 rfl rfl ?_
  refine own_ifN (pc' := 379) X0 at_376 rfl ((feq (by decide)).1) ?_
  refine own_aload (pc' := 381) X0 at_379 rfl rfl rfl ?_
  refine own_aload (pc' := 383) X0 at_381 rfl rfl rfl ?_
  refine own_callVM (pc' := 386) (cells' := 8) (slots' := 22) (argsL := [(.ref x)]) (rest := []) (W := 0) (y := (⟨"com/example/darja/darja/Standing", "equals", "(Ljava/lang/Object;)Z"⟩ : MethodName)) (z := (⟨"com/example/darja/darja/Standing", "equals", "(Ljava/lang/Object;)Z"⟩ : MethodName)) (a := x) X0 (W 43 rfl) (W 44 rfl) (fun s' hZ' => notFace_of_selects (args := #[]) (mvT hZ' (W 46 rfl))) (W 46 rfl) (W 45 rfl) (by decide) p_Ex (own_eqs l Z a0 hw n0 x x r1 r1 ma tA ma tA t1 t1 csA csA h0 (own_old X0) p_Ex p_X1 p_X2 p_X3 p_X1 p_X2 p_X3 p_S1 p_S1 CS) (W 47 rfl) (W 32 rfl) (by decide) (by decide) rfl (lenOf pd_0 rfl) rfl rfl at_383 rfl rfl rfl rfl (by decide) (by decide) ?_
  intro v1 T1 h1 X1 q1
  obtain ⟨rfl, rfl⟩ := q1
  show G T1 (mkF m 386 #[.val (.int r1), .val (.int r2), .val (.long t1), .second, .val (.long t2), .second, .val (.int chars), .val (.int mode), .val (.int rb), .val (.long tb), .second, .val (.int ca0), .val (.int ca1), .val (.int cb0), .val (.int cb1), .val (.int cp), .val (.int lenA), .val (.int lenB), .val (.ref caA), .val (.ref cbA), .val (.ref ma), .val (.ref mb), .val (.ref x), .val (.ref y), .val (.int kd), .val (.ref y), .val (.int sm), .val (.int ex), .val (.int (1 : Int32))] [(.int (if r1 = r1 ∧ csA = csA ∧ t1 = t1 then 1 else 0))])
  rw [if_pos ⟨rfl, rfl, rfl⟩]
  refine own_ifN (pc' := 389) X1 at_386 rfl ((feq (by decide)).1) ?_
  refine own_iconst (pc' := 390) X1 at_389 rfl (z := (1 : Int32)) (by decide) ?_
  refine own_goto (pc' := 394) X1 at_390 (by decide) (by decide) ?_
  exact own_ret X1 hGe (t := .boolean) rfl rfl (Or.inl ⟨rfl, by simp, _, rfl⟩) at_394 (by decide) (by decide) rfl
set_option maxRecDepth 65536 in
set_option maxHeartbeats 40000000 in
theorem own_325y {G : State → JFrame → Prop} {p : Program} {l : Launch} {e : Env} {s : State} {m : MethodId} {args : Array Value} {below : List Frame} {meth : Method} {c : Code} {Z : State} {a0 : Array Value} {n0 : Nat} {T0 : State} {h0 : Heap} (hw : ∀ d ∈ tables_1, d.before a0 Z = true) (r1 r2 : Int32) (t1 t2 : Int64) (chars mode : Int32) (rb : Int32) (tb : Int64) (ca0 ca1 cb0 cb1 cp lenA lenB : Int32) (caA cbA ma mb tA tB : Addr) (csA csB : List Int32) (x y : Addr) (kd : Int32) (sm ex : Int32)
    (X0 : own_At G p l e room_1 s m args below meth c Z n0 "com/example/darja/darja/StandingEqualsPinLaw" "law" code maxLocals ret T0 h0 8 22) (hGe : G = own_Fin p e below s Z n0 (fun v h => v = some (.int 1)) room_1.cells room_1.slots) (CS : own_CS Z) (hAB : (csA = csB ↔ lenA = lenB ∧ ca0 = cb0 ∧ (lenA = 1 ∨ ca1 = cb1))) (p_Ex : Exa Z h0 x "com/example/darja/darja/Standing") (p_Ey : Exa Z h0 y "com/example/darja/darja/Standing") (p_X1 : Fld Z h0 x "com/example/darja/darja/Standing" "rank" "I" (.int r1)) (p_X2 : Fld Z h0 x "com/example/darja/darja/Standing" "member" "Ljava/lang/String;" (.ref ma)) (p_X3 : Fld Z h0 x "com/example/darja/darja/Standing" "total" "J" (.long t1)) (p_Y1 : Fld Z h0 y "com/example/darja/darja/Standing" "rank" "I" (.int rb)) (p_Y2 : Fld Z h0 y "com/example/darja/darja/Standing" "member" "Ljava/lang/String;" (.ref mb)) (p_Y3 : Fld Z h0 y "com/example/darja/darja/Standing" "total" "J" (.long tb)) (p_S1 : own_Str Z h0 ma tA csA) (p_S2 : own_Str Z h0 mb tB csB) (hk : ¬ 1 < kd) (hex : ex = if r1 = rb ∧ csA = csB ∧ t1 = tb then 1 else 0) :
    G T0 (mkF m 325 #[.val (.int r1), .val (.int r2), .val (.long t1), .second, .val (.long t2), .second, .val (.int chars), .val (.int mode), .val (.int rb), .val (.long tb), .second, .val (.int ca0), .val (.int ca1), .val (.int cb0), .val (.int cb1), .val (.int cp), .val (.int lenA), .val (.int lenB), .val (.ref caA), .val (.ref cbA), .val (.ref ma), .val (.ref mb), .val (.ref x), .val (.ref y), .val (.int kd), .val (.ref y), .val (.int sm), .val (.int ex), .unset] []) := by
  have W : ∀ (k : Nat) {d : Jvm.Cond}, tables_1[k]? = some d → d.before a0 Z = true := fun k d q => hw d (List.mem_of_getElem? q)
  refine own_aload (pc' := 327) X0 at_325 rfl rfl rfl ?_
  refine own_aload (pc' := 329) X0 at_327 rfl rfl rfl ?_
  refine own_callVM (pc' := 332) (cells' := 8) (slots' := 22) (argsL := [(.ref y)]) (rest := []) (W := 0) (y := (⟨"com/example/darja/darja/Standing", "equals", "(Ljava/lang/Object;)Z"⟩ : MethodName)) (z := (⟨"com/example/darja/darja/Standing", "equals", "(Ljava/lang/Object;)Z"⟩ : MethodName)) (a := x) X0 (W 43 rfl) (W 44 rfl) (fun s' hZ' => notFace_of_selects (args := #[]) (mvT hZ' (W 46 rfl))) (W 46 rfl) (W 45 rfl) (by decide) p_Ex (own_eqs l Z a0 hw n0 x y r1 rb ma tA mb tB t1 tb csA csB h0 (own_old X0) p_Ey p_X1 p_X2 p_X3 p_Y1 p_Y2 p_Y3 p_S1 p_S2 CS) (W 47 rfl) (W 32 rfl) (by decide) (by decide) rfl (lenOf pd_0 rfl) rfl rfl at_329 rfl rfl rfl rfl (by decide) (by decide) ?_
  intro v1 T1 h1 X1 q1
  obtain ⟨rfl, rfl⟩ := q1
  show G T1 (mkF m 332 #[.val (.int r1), .val (.int r2), .val (.long t1), .second, .val (.long t2), .second, .val (.int chars), .val (.int mode), .val (.int rb), .val (.long tb), .second, .val (.int ca0), .val (.int ca1), .val (.int cb0), .val (.int cb1), .val (.int cp), .val (.int lenA), .val (.int lenB), .val (.ref caA), .val (.ref cbA), .val (.ref ma), .val (.ref mb), .val (.ref x), .val (.ref y), .val (.int kd), .val (.ref y), .val (.int sm), .val (.int ex), .unset] [(.int (if r1 = rb ∧ csA = csB ∧ t1 = tb then 1 else 0))])
  refine own_iload (pc' := 334) X1 at_332 rfl rfl ?_
  refine own_icmpN (pc' := 337) X1 at_334 rfl ((teq hex.symm).2) ?_
  refine own_iconst (pc' := 338) X1 at_337 rfl (z := (1 : Int32)) (by decide) ?_
  refine own_goto (pc' := 342) X1 at_338 (by decide) (by decide) ?_
  refine own_istore (pc' := 344) X1 at_342 rfl (Ls' := #[.val (.int r1), .val (.int r2), .val (.long t1), .second, .val (.long t2), .second, .val (.int chars), .val (.int mode), .val (.int rb), .val (.long tb), .second, .val (.int ca0), .val (.int ca1), .val (.int cb0), .val (.int cb1), .val (.int cp), .val (.int lenA), .val (.int lenB), .val (.ref caA), .val (.ref cbA), .val (.ref ma), .val (.ref mb), .val (.ref x), .val (.ref y), .val (.int kd), .val (.ref y), .val (.int sm), .val (.int ex), .val (.int (1 : Int32))]) rfl ?_
  refine own_iload (pc' := 346) X1 at_344 rfl rfl ?_
  refine own_iconst (pc' := 347) X1 at_346 rfl (z := (1 : Int32)) (by decide) ?_
  refine own_icmpN (pc' := 350) X1 at_347 rfl ((flt hk).2.2.1) ?_
  refine own_iload (pc' := 352) X1 at_350 rfl rfl ?_
  refine own_ifN (pc' := 355) X1 at_352 rfl ((feq (by decide)).1) ?_
  refine own_aload (pc' := 357) X1 at_355 rfl rfl rfl ?_
  refine own_aload (pc' := 359) X1 at_357 rfl rfl rfl ?_
  refine own_callVM (pc' := 362) (cells' := 8) (slots' := 22) (argsL := [(.ref x)]) (rest := []) (W := 0) (y := (⟨"com/example/darja/darja/Standing", "equals", "(Ljava/lang/Object;)Z"⟩ : MethodName)) (z := (⟨"com/example/darja/darja/Standing", "equals", "(Ljava/lang/Object;)Z"⟩ : MethodName)) (a := y) X1 (W 43 rfl) (W 44 rfl) (fun s' hZ' => notFace_of_selects (args := #[]) (mvT hZ' (W 46 rfl))) (W 46 rfl) (W 45 rfl) (by decide) p_Ey (own_eqs l Z a0 hw n0 y x rb r1 mb tB ma tA tb t1 csB csA h0 (own_old X1) p_Ex p_Y1 p_Y2 p_Y3 p_X1 p_X2 p_X3 p_S2 p_S1 CS) (W 47 rfl) (W 32 rfl) (by decide) (by decide) rfl (lenOf pd_0 rfl) rfl rfl at_359 rfl rfl rfl rfl (by decide) (by decide) ?_
  intro v2 T2 h2 X2 q2
  obtain ⟨rfl, rfl⟩ := q2
  show G T2 (mkF m 362 #[.val (.int r1), .val (.int r2), .val (.long t1), .second, .val (.long t2), .second, .val (.int chars), .val (.int mode), .val (.int rb), .val (.long tb), .second, .val (.int ca0), .val (.int ca1), .val (.int cb0), .val (.int cb1), .val (.int cp), .val (.int lenA), .val (.int lenB), .val (.ref caA), .val (.ref cbA), .val (.ref ma), .val (.ref mb), .val (.ref x), .val (.ref y), .val (.int kd), .val (.ref y), .val (.int sm), .val (.int ex), .val (.int (1 : Int32))] [(.int (if rb = r1 ∧ csB = csA ∧ tb = t1 then 1 else 0))])
  refine own_iload (pc' := 364) X2 at_362 rfl rfl ?_
  refine own_icmpN (pc' := 367) X2 at_364 rfl ((teq ((own_ifc ⟨fun q => ⟨q.1.symm, q.2.1.symm, q.2.2.symm⟩, fun q => ⟨q.1.symm, q.2.1.symm, q.2.2.symm⟩⟩).trans hex.symm)).2) ?_
  refine own_iconst (pc' := 368) X2 at_367 rfl (z := (1 : Int32)) (by decide) ?_
  refine own_goto (pc' := 372) X2 at_368 (by decide) (by decide) ?_
  refine own_istore (pc' := 374) X2 at_372 rfl (Ls' := #[.val (.int r1), .val (.int r2), .val (.long t1), .second, .val (.long t2), .second, .val (.int chars), .val (.int mode), .val (.int rb), .val (.long tb), .second, .val (.int ca0), .val (.int ca1), .val (.int cb0), .val (.int cb1), .val (.int cp), .val (.int lenA), .val (.int lenB), .val (.ref caA), .val (.ref cbA), .val (.ref ma), .val (.ref mb), .val (.ref x), .val (.ref y), .val (.int kd), .val (.ref y), .val (.int sm), .val (.int ex), .val (.int (1 : Int32))]) rfl ?_
  exact own_374y hw r1 r2 t1 t2 chars mode rb tb ca0 ca1 cb0 cb1 cp lenA lenB caA cbA ma mb tA tB csA csB x y kd sm ex (1 : Int32) (own_mono X2 (by decide : 8 ≤ 8) (by decide : 22 ≤ 22)) hGe CS hAB p_Ex p_Ey p_X1 p_X2 p_X3 p_Y1 p_Y2 p_Y3 p_S1 p_S2 rfl
set_option maxRecDepth 65536 in
set_option maxHeartbeats 40000000 in
theorem own_292y {G : State → JFrame → Prop} {p : Program} {l : Launch} {e : Env} {s : State} {m : MethodId} {args : Array Value} {below : List Frame} {meth : Method} {c : Code} {Z : State} {a0 : Array Value} {n0 : Nat} {T0 : State} {h0 : Heap} (hw : ∀ d ∈ tables_1, d.before a0 Z = true) (r1 r2 : Int32) (t1 t2 : Int64) (chars mode : Int32) (rb : Int32) (tb : Int64) (ca0 ca1 cb0 cb1 cp lenA lenB : Int32) (caA cbA ma mb tA tB : Addr) (csA csB : List Int32) (x y : Addr) (kd : Int32) (sm : Int32)
    (X0 : own_At G p l e room_1 s m args below meth c Z n0 "com/example/darja/darja/StandingEqualsPinLaw" "law" code maxLocals ret T0 h0 8 22) (hGe : G = own_Fin p e below s Z n0 (fun v h => v = some (.int 1)) room_1.cells room_1.slots) (CS : own_CS Z) (hAB : (csA = csB ↔ lenA = lenB ∧ ca0 = cb0 ∧ (lenA = 1 ∨ ca1 = cb1))) (p_Ex : Exa Z h0 x "com/example/darja/darja/Standing") (p_Ey : Exa Z h0 y "com/example/darja/darja/Standing") (p_X1 : Fld Z h0 x "com/example/darja/darja/Standing" "rank" "I" (.int r1)) (p_X2 : Fld Z h0 x "com/example/darja/darja/Standing" "member" "Ljava/lang/String;" (.ref ma)) (p_X3 : Fld Z h0 x "com/example/darja/darja/Standing" "total" "J" (.long t1)) (p_Y1 : Fld Z h0 y "com/example/darja/darja/Standing" "rank" "I" (.int rb)) (p_Y2 : Fld Z h0 y "com/example/darja/darja/Standing" "member" "Ljava/lang/String;" (.ref mb)) (p_Y3 : Fld Z h0 y "com/example/darja/darja/Standing" "total" "J" (.long tb)) (p_S1 : own_Str Z h0 ma tA csA) (p_S2 : own_Str Z h0 mb tB csB) (hk : ¬ 1 < kd) (hsm : sm = if csA = csB then 1 else 0) :
    G T0 (mkF m 292 #[.val (.int r1), .val (.int r2), .val (.long t1), .second, .val (.long t2), .second, .val (.int chars), .val (.int mode), .val (.int rb), .val (.long tb), .second, .val (.int ca0), .val (.int ca1), .val (.int cb0), .val (.int cb1), .val (.int cp), .val (.int lenA), .val (.int lenB), .val (.ref caA), .val (.ref cbA), .val (.ref ma), .val (.ref mb), .val (.ref x), .val (.ref y), .val (.int kd), .val (.ref y), .unset, .unset, .unset] [(.int sm)]) := by
  have W : ∀ (k : Nat) {d : Jvm.Cond}, tables_1[k]? = some d → d.before a0 Z = true := fun k d q => hw d (List.mem_of_getElem? q)
  refine own_istore (pc' := 294) X0 at_292 rfl (Ls' := #[.val (.int r1), .val (.int r2), .val (.long t1), .second, .val (.long t2), .second, .val (.int chars), .val (.int mode), .val (.int rb), .val (.long tb), .second, .val (.int ca0), .val (.int ca1), .val (.int cb0), .val (.int cb1), .val (.int cp), .val (.int lenA), .val (.int lenB), .val (.ref caA), .val (.ref cbA), .val (.ref ma), .val (.ref mb), .val (.ref x), .val (.ref y), .val (.int kd), .val (.ref y), .val (.int sm), .unset, .unset]) rfl ?_
  refine own_iload (pc' := 296) X0 at_294 rfl rfl ?_
  refine own_iconst (pc' := 297) X0 at_296 rfl (z := (1 : Int32)) (by decide) ?_
  refine own_icmpN (pc' := 300) X0 at_297 rfl ((flt hk).2.2.1) ?_
  refine own_iload_n (pc' := 301) X0 at_300 rfl rfl ?_
  refine own_iload (pc' := 303) X0 at_301 rfl rfl ?_
  by_cases h303 : r1 = rb
  · refine own_icmpN (pc' := 306) X0 at_303 rfl ((teq h303).2) ?_
    refine own_iload (pc' := 308) X0 at_306 rfl rfl ?_
    by_cases h308 : sm = 0
    · refine own_ifY (pc' := 322) X0 at_308 ((teq h308).1) (by decide) (by decide) ?_
      refine own_iconst (pc' := 323) X0 at_322 rfl (z := (0 : Int32)) (by decide) ?_
      refine own_istore (pc' := 325) X0 at_323 rfl (Ls' := #[.val (.int r1), .val (.int r2), .val (.long t1), .second, .val (.long t2), .second, .val (.int chars), .val (.int mode), .val (.int rb), .val (.long tb), .second, .val (.int ca0), .val (.int ca1), .val (.int cb0), .val (.int cb1), .val (.int cp), .val (.int lenA), .val (.int lenB), .val (.ref caA), .val (.ref cbA), .val (.ref ma), .val (.ref mb), .val (.ref x), .val (.ref y), .val (.int kd), .val (.ref y), .val (.int sm), .val (.int (0 : Int32)), .unset]) rfl ?_
      exact own_325y hw r1 r2 t1 t2 chars mode rb tb ca0 ca1 cb0 cb1 cp lenA lenB caA cbA ma mb tA tB csA csB x y kd sm (0 : Int32) (own_mono X0 (by decide : 8 ≤ 8) (by decide : 22 ≤ 22)) hGe CS hAB p_Ex p_Ey p_X1 p_X2 p_X3 p_Y1 p_Y2 p_Y3 p_S1 p_S2 hk (if_neg (fun q => by rw [if_pos q.2.1] at hsm; rw [hsm] at h308; exact absurd h308 (by decide))).symm
    · refine own_ifN (pc' := 311) X0 at_308 rfl ((feq h308).1) ?_
      refine own_lload_n (pc' := 312) X0 at_311 rfl rfl ?_
      refine own_lload (pc' := 314) X0 at_312 rfl rfl ?_
      refine own_lcmp (pc' := 315) X0 at_314 rfl ?_
      by_cases h315 : t1 = tb
      · refine own_ifN (pc' := 318) X0 at_315 rfl ((own_lc_eq h315).2) ?_
        refine own_iconst (pc' := 319) X0 at_318 rfl (z := (1 : Int32)) (by decide) ?_
        refine own_goto (pc' := 323) X0 at_319 (by decide) (by decide) ?_
        refine own_istore (pc' := 325) X0 at_323 rfl (Ls' := #[.val (.int r1), .val (.int r2), .val (.long t1), .second, .val (.long t2), .second, .val (.int chars), .val (.int mode), .val (.int rb), .val (.long tb), .second, .val (.int ca0), .val (.int ca1), .val (.int cb0), .val (.int cb1), .val (.int cp), .val (.int lenA), .val (.int lenB), .val (.ref caA), .val (.ref cbA), .val (.ref ma), .val (.ref mb), .val (.ref x), .val (.ref y), .val (.int kd), .val (.ref y), .val (.int sm), .val (.int (1 : Int32)), .unset]) rfl ?_
        exact own_325y hw r1 r2 t1 t2 chars mode rb tb ca0 ca1 cb0 cb1 cp lenA lenB caA cbA ma mb tA tB csA csB x y kd sm (1 : Int32) (own_mono X0 (by decide : 8 ≤ 8) (by decide : 22 ≤ 22)) hGe CS hAB p_Ex p_Ey p_X1 p_X2 p_X3 p_Y1 p_Y2 p_Y3 p_S1 p_S2 hk (if_pos ⟨h303, (by by_cases q : csA = csB; exact q; rw [if_neg q] at hsm; exact absurd hsm h308), h315⟩).symm
      · refine own_ifY (pc' := 322) X0 at_315 ((own_lc_ne h315).2) (by decide) (by decide) ?_
        refine own_iconst (pc' := 323) X0 at_322 rfl (z := (0 : Int32)) (by decide) ?_
        refine own_istore (pc' := 325) X0 at_323 rfl (Ls' := #[.val (.int r1), .val (.int r2), .val (.long t1), .second, .val (.long t2), .second, .val (.int chars), .val (.int mode), .val (.int rb), .val (.long tb), .second, .val (.int ca0), .val (.int ca1), .val (.int cb0), .val (.int cb1), .val (.int cp), .val (.int lenA), .val (.int lenB), .val (.ref caA), .val (.ref cbA), .val (.ref ma), .val (.ref mb), .val (.ref x), .val (.ref y), .val (.int kd), .val (.ref y), .val (.int sm), .val (.int (0 : Int32)), .unset]) rfl ?_
        exact own_325y hw r1 r2 t1 t2 chars mode rb tb ca0 ca1 cb0 cb1 cp lenA lenB caA cbA ma mb tA tB csA csB x y kd sm (0 : Int32) (own_mono X0 (by decide : 8 ≤ 8) (by decide : 22 ≤ 22)) hGe CS hAB p_Ex p_Ey p_X1 p_X2 p_X3 p_Y1 p_Y2 p_Y3 p_S1 p_S2 hk (if_neg (fun q => h315 q.2.2)).symm
  · refine own_icmpY (pc' := 322) X0 at_303 ((feq h303).2) (by decide) (by decide) ?_
    refine own_iconst (pc' := 323) X0 at_322 rfl (z := (0 : Int32)) (by decide) ?_
    refine own_istore (pc' := 325) X0 at_323 rfl (Ls' := #[.val (.int r1), .val (.int r2), .val (.long t1), .second, .val (.long t2), .second, .val (.int chars), .val (.int mode), .val (.int rb), .val (.long tb), .second, .val (.int ca0), .val (.int ca1), .val (.int cb0), .val (.int cb1), .val (.int cp), .val (.int lenA), .val (.int lenB), .val (.ref caA), .val (.ref cbA), .val (.ref ma), .val (.ref mb), .val (.ref x), .val (.ref y), .val (.int kd), .val (.ref y), .val (.int sm), .val (.int (0 : Int32)), .unset]) rfl ?_
    exact own_325y hw r1 r2 t1 t2 chars mode rb tb ca0 ca1 cb0 cb1 cp lenA lenB caA cbA ma mb tA tB csA csB x y kd sm (0 : Int32) (own_mono X0 (by decide : 8 ≤ 8) (by decide : 22 ≤ 22)) hGe CS hAB p_Ex p_Ey p_X1 p_X2 p_X3 p_Y1 p_Y2 p_Y3 p_S1 p_S2 hk (if_neg (fun q => h303 q.1)).symm
set_option maxRecDepth 65536 in
set_option maxHeartbeats 40000000 in
theorem own_260y {G : State → JFrame → Prop} {p : Program} {l : Launch} {e : Env} {s : State} {m : MethodId} {args : Array Value} {below : List Frame} {meth : Method} {c : Code} {Z : State} {a0 : Array Value} {n0 : Nat} {T0 : State} {h0 : Heap} (hw : ∀ d ∈ tables_1, d.before a0 Z = true) (r1 r2 : Int32) (t1 t2 : Int64) (chars mode : Int32) (rb : Int32) (tb : Int64) (ca0 ca1 cb0 cb1 cp lenA lenB : Int32) (caA cbA ma mb tA tB : Addr) (csA csB : List Int32) (x y : Addr) (kd : Int32)
    (X0 : own_At G p l e room_1 s m args below meth c Z n0 "com/example/darja/darja/StandingEqualsPinLaw" "law" code maxLocals ret T0 h0 8 22) (hGe : G = own_Fin p e below s Z n0 (fun v h => v = some (.int 1)) room_1.cells room_1.slots) (CS : own_CS Z) (hAB : (csA = csB ↔ lenA = lenB ∧ ca0 = cb0 ∧ (lenA = 1 ∨ ca1 = cb1))) (p_Ex : Exa Z h0 x "com/example/darja/darja/Standing") (p_Ey : Exa Z h0 y "com/example/darja/darja/Standing") (p_X1 : Fld Z h0 x "com/example/darja/darja/Standing" "rank" "I" (.int r1)) (p_X2 : Fld Z h0 x "com/example/darja/darja/Standing" "member" "Ljava/lang/String;" (.ref ma)) (p_X3 : Fld Z h0 x "com/example/darja/darja/Standing" "total" "J" (.long t1)) (p_Y1 : Fld Z h0 y "com/example/darja/darja/Standing" "rank" "I" (.int rb)) (p_Y2 : Fld Z h0 y "com/example/darja/darja/Standing" "member" "Ljava/lang/String;" (.ref mb)) (p_Y3 : Fld Z h0 y "com/example/darja/darja/Standing" "total" "J" (.long tb)) (p_S1 : own_Str Z h0 ma tA csA) (p_S2 : own_Str Z h0 mb tB csB) (hk : ¬ 1 < kd) :
    G T0 (mkF m 260 #[.val (.int r1), .val (.int r2), .val (.long t1), .second, .val (.long t2), .second, .val (.int chars), .val (.int mode), .val (.int rb), .val (.long tb), .second, .val (.int ca0), .val (.int ca1), .val (.int cb0), .val (.int cb1), .val (.int cp), .val (.int lenA), .val (.int lenB), .val (.ref caA), .val (.ref cbA), .val (.ref ma), .val (.ref mb), .val (.ref x), .val (.ref y), .val (.int kd), .val (.ref y), .unset, .unset, .unset] []) := by
  have W : ∀ (k : Nat) {d : Jvm.Cond}, tables_1[k]? = some d → d.before a0 Z = true := fun k d q => hw d (List.mem_of_getElem? q)
  refine own_iload (pc' := 262) X0 at_260 rfl rfl ?_
  refine own_iload (pc' := 264) X0 at_262 rfl rfl ?_
  by_cases h264 : lenA = lenB
  · refine own_icmpN (pc' := 267) X0 at_264 rfl ((teq h264).2) ?_
    refine own_iload (pc' := 269) X0 at_267 rfl rfl ?_
    refine own_iload (pc' := 271) X0 at_269 rfl rfl ?_
    by_cases h271 : ca0 = cb0
    · refine own_icmpN (pc' := 274) X0 at_271 rfl ((teq h271).2) ?_
      refine own_iload (pc' := 276) X0 at_274 rfl rfl ?_
      refine own_iconst (pc' := 277) X0 at_276 rfl (z := (1 : Int32)) (by decide) ?_
      by_cases h277 : lenA = (1 : Int32)
      · refine own_icmpY (pc' := 287) X0 at_277 ((teq h277).1) (by decide) (by decide) ?_
        refine own_iconst (pc' := 288) X0 at_287 rfl (z := (1 : Int32)) (by decide) ?_
        refine own_goto (pc' := 292) X0 at_288 (by decide) (by decide) ?_
        exact own_292y hw r1 r2 t1 t2 chars mode rb tb ca0 ca1 cb0 cb1 cp lenA lenB caA cbA ma mb tA tB csA csB x y kd (1 : Int32) (own_mono X0 (by decide : 8 ≤ 8) (by decide : 22 ≤ 22)) hGe CS hAB p_Ex p_Ey p_X1 p_X2 p_X3 p_Y1 p_Y2 p_Y3 p_S1 p_S2 hk (if_pos (hAB.mpr ⟨h264, h271, Or.inl h277⟩)).symm
      · refine own_icmpN (pc' := 280) X0 at_277 rfl ((feq h277).1) ?_
        refine own_iload (pc' := 282) X0 at_280 rfl rfl ?_
        refine own_iload (pc' := 284) X0 at_282 rfl rfl ?_
        by_cases h284 : ca1 = cb1
        · refine own_icmpN (pc' := 287) X0 at_284 rfl ((teq h284).2) ?_
          refine own_iconst (pc' := 288) X0 at_287 rfl (z := (1 : Int32)) (by decide) ?_
          refine own_goto (pc' := 292) X0 at_288 (by decide) (by decide) ?_
          exact own_292y hw r1 r2 t1 t2 chars mode rb tb ca0 ca1 cb0 cb1 cp lenA lenB caA cbA ma mb tA tB csA csB x y kd (1 : Int32) (own_mono X0 (by decide : 8 ≤ 8) (by decide : 22 ≤ 22)) hGe CS hAB p_Ex p_Ey p_X1 p_X2 p_X3 p_Y1 p_Y2 p_Y3 p_S1 p_S2 hk (if_pos (hAB.mpr ⟨h264, h271, Or.inr h284⟩)).symm
        · refine own_icmpY (pc' := 291) X0 at_284 ((feq h284).2) (by decide) (by decide) ?_
          refine own_iconst (pc' := 292) X0 at_291 rfl (z := (0 : Int32)) (by decide) ?_
          exact own_292y hw r1 r2 t1 t2 chars mode rb tb ca0 ca1 cb0 cb1 cp lenA lenB caA cbA ma mb tA tB csA csB x y kd (0 : Int32) (own_mono X0 (by decide : 8 ≤ 8) (by decide : 22 ≤ 22)) hGe CS hAB p_Ex p_Ey p_X1 p_X2 p_X3 p_Y1 p_Y2 p_Y3 p_S1 p_S2 hk (if_neg (fun q => (hAB.mp q).2.2.elim h277 h284)).symm
    · refine own_icmpY (pc' := 291) X0 at_271 ((feq h271).2) (by decide) (by decide) ?_
      refine own_iconst (pc' := 292) X0 at_291 rfl (z := (0 : Int32)) (by decide) ?_
      exact own_292y hw r1 r2 t1 t2 chars mode rb tb ca0 ca1 cb0 cb1 cp lenA lenB caA cbA ma mb tA tB csA csB x y kd (0 : Int32) (own_mono X0 (by decide : 8 ≤ 8) (by decide : 22 ≤ 22)) hGe CS hAB p_Ex p_Ey p_X1 p_X2 p_X3 p_Y1 p_Y2 p_Y3 p_S1 p_S2 hk (if_neg (fun q => h271 (hAB.mp q).2.1)).symm
  · refine own_icmpY (pc' := 291) X0 at_264 ((feq h264).2) (by decide) (by decide) ?_
    refine own_iconst (pc' := 292) X0 at_291 rfl (z := (0 : Int32)) (by decide) ?_
    exact own_292y hw r1 r2 t1 t2 chars mode rb tb ca0 ca1 cb0 cb1 cp lenA lenB caA cbA ma mb tA tB csA csB x y kd (0 : Int32) (own_mono X0 (by decide : 8 ≤ 8) (by decide : 22 ≤ 22)) hGe CS hAB p_Ex p_Ey p_X1 p_X2 p_X3 p_Y1 p_Y2 p_Y3 p_S1 p_S2 hk (if_neg (fun q => h264 (hAB.mp q).1)).symm
set_option maxRecDepth 65536 in
set_option maxHeartbeats 40000000 in
theorem own_374n {G : State → JFrame → Prop} {p : Program} {l : Launch} {e : Env} {s : State} {m : MethodId} {args : Array Value} {below : List Frame} {meth : Method} {c : Code} {Z : State} {a0 : Array Value} {n0 : Nat} {T0 : State} {h0 : Heap} (hw : ∀ d ∈ tables_1, d.before a0 Z = true) (r1 r2 : Int32) (t1 t2 : Int64) (chars mode : Int32) (rb : Int32) (tb : Int64) (ca0 ca1 cb0 cb1 cp lenA lenB : Int32) (caA cbA ma mb tA tB : Addr) (csA csB : List Int32) (x y : Addr) (kd : Int32) (sm ex ok : Int32)
    (X0 : own_At G p l e room_1 s m args below meth c Z n0 "com/example/darja/darja/StandingEqualsPinLaw" "law" code maxLocals ret T0 h0 8 22) (hGe : G = own_Fin p e below s Z n0 (fun v h => v = some (.int 1)) room_1.cells room_1.slots) (CS : own_CS Z) (hAB : (csA = csB ↔ lenA = lenB ∧ ca0 = cb0 ∧ (lenA = 1 ∨ ca1 = cb1))) (p_Ex : Exa Z h0 x "com/example/darja/darja/Standing") (p_Ey : Exa Z h0 y "com/example/darja/darja/Standing") (p_X1 : Fld Z h0 x "com/example/darja/darja/Standing" "rank" "I" (.int r1)) (p_X2 : Fld Z h0 x "com/example/darja/darja/Standing" "member" "Ljava/lang/String;" (.ref ma)) (p_X3 : Fld Z h0 x "com/example/darja/darja/Standing" "total" "J" (.long t1)) (p_Y1 : Fld Z h0 y "com/example/darja/darja/Standing" "rank" "I" (.int rb)) (p_Y2 : Fld Z h0 y "com/example/darja/darja/Standing" "member" "Ljava/lang/String;" (.ref mb)) (p_Y3 : Fld Z h0 y "com/example/darja/darja/Standing" "total" "J" (.long tb)) (p_S1 : own_Str Z h0 ma tA csA) (p_S2 : own_Str Z h0 mb tB csB) (hok : ok = 1) :
    G T0 (mkF m 374 #[.val (.int r1), .val (.int r2), .val (.long t1), .second, .val (.long t2), .second, .val (.int chars), .val (.int mode), .val (.int rb), .val (.long tb), .second, .val (.int ca0), .val (.int ca1), .val (.int cb0), .val (.int cb1), .val (.int cp), .val (.int lenA), .val (.int lenB), .val (.ref caA), .val (.ref cbA), .val (.ref ma), .val (.ref mb), .val (.ref x), .val (.ref y), .val (.int kd), .val .null, .val (.int sm), .val (.int ex), .val (.int ok)] []) := by
  have W : ∀ (k : Nat) {d : Jvm.Cond}, tables_1[k]? = some d → d.before a0 Z = true := fun k d q => hw d (List.mem_of_getElem? q)
  subst hok
  refine own_iload (pc' := 376) X0 at_374 rfl rfl ?_
  refine own_ifN (pc' := 379) X0 at_376 rfl ((feq (by decide)).1) ?_
  refine own_aload (pc' := 381) X0 at_379 rfl rfl rfl ?_
  refine own_aload (pc' := 383) X0 at_381 rfl rfl rfl ?_
  refine own_callVM (pc' := 386) (cells' := 8) (slots' := 22) (argsL := [(.ref x)]) (rest := []) (W := 0) (y := (⟨"com/example/darja/darja/Standing", "equals", "(Ljava/lang/Object;)Z"⟩ : MethodName)) (z := (⟨"com/example/darja/darja/Standing", "equals", "(Ljava/lang/Object;)Z"⟩ : MethodName)) (a := x) X0 (W 43 rfl) (W 44 rfl) (fun s' hZ' => notFace_of_selects (args := #[]) (mvT hZ' (W 46 rfl))) (W 46 rfl) (W 45 rfl) (by decide) p_Ex (own_eqs l Z a0 hw n0 x x r1 r1 ma tA ma tA t1 t1 csA csA h0 (own_old X0) p_Ex p_X1 p_X2 p_X3 p_X1 p_X2 p_X3 p_S1 p_S1 CS) (W 47 rfl) (W 32 rfl) (by decide) (by decide) rfl (lenOf pd_0 rfl) rfl rfl at_383 rfl rfl rfl rfl (by decide) (by decide) ?_
  intro v1 T1 h1 X1 q1
  obtain ⟨rfl, rfl⟩ := q1
  show G T1 (mkF m 386 #[.val (.int r1), .val (.int r2), .val (.long t1), .second, .val (.long t2), .second, .val (.int chars), .val (.int mode), .val (.int rb), .val (.long tb), .second, .val (.int ca0), .val (.int ca1), .val (.int cb0), .val (.int cb1), .val (.int cp), .val (.int lenA), .val (.int lenB), .val (.ref caA), .val (.ref cbA), .val (.ref ma), .val (.ref mb), .val (.ref x), .val (.ref y), .val (.int kd), .val .null, .val (.int sm), .val (.int ex), .val (.int (1 : Int32))] [(.int (if r1 = r1 ∧ csA = csA ∧ t1 = t1 then 1 else 0))])
  rw [if_pos ⟨rfl, rfl, rfl⟩]
  refine own_ifN (pc' := 389) X1 at_386 rfl ((feq (by decide)).1) ?_
  refine own_iconst (pc' := 390) X1 at_389 rfl (z := (1 : Int32)) (by decide) ?_
  refine own_goto (pc' := 394) X1 at_390 (by decide) (by decide) ?_
  exact own_ret X1 hGe (t := .boolean) rfl rfl (Or.inl ⟨rfl, by simp, _, rfl⟩) at_394 (by decide) (by decide) rfl
set_option maxRecDepth 65536 in
set_option maxHeartbeats 40000000 in
theorem own_325n {G : State → JFrame → Prop} {p : Program} {l : Launch} {e : Env} {s : State} {m : MethodId} {args : Array Value} {below : List Frame} {meth : Method} {c : Code} {Z : State} {a0 : Array Value} {n0 : Nat} {T0 : State} {h0 : Heap} (hw : ∀ d ∈ tables_1, d.before a0 Z = true) (r1 r2 : Int32) (t1 t2 : Int64) (chars mode : Int32) (rb : Int32) (tb : Int64) (ca0 ca1 cb0 cb1 cp lenA lenB : Int32) (caA cbA ma mb tA tB : Addr) (csA csB : List Int32) (x y : Addr) (kd : Int32) (sm ex : Int32)
    (X0 : own_At G p l e room_1 s m args below meth c Z n0 "com/example/darja/darja/StandingEqualsPinLaw" "law" code maxLocals ret T0 h0 8 22) (hGe : G = own_Fin p e below s Z n0 (fun v h => v = some (.int 1)) room_1.cells room_1.slots) (CS : own_CS Z) (hAB : (csA = csB ↔ lenA = lenB ∧ ca0 = cb0 ∧ (lenA = 1 ∨ ca1 = cb1))) (p_Ex : Exa Z h0 x "com/example/darja/darja/Standing") (p_Ey : Exa Z h0 y "com/example/darja/darja/Standing") (p_X1 : Fld Z h0 x "com/example/darja/darja/Standing" "rank" "I" (.int r1)) (p_X2 : Fld Z h0 x "com/example/darja/darja/Standing" "member" "Ljava/lang/String;" (.ref ma)) (p_X3 : Fld Z h0 x "com/example/darja/darja/Standing" "total" "J" (.long t1)) (p_Y1 : Fld Z h0 y "com/example/darja/darja/Standing" "rank" "I" (.int rb)) (p_Y2 : Fld Z h0 y "com/example/darja/darja/Standing" "member" "Ljava/lang/String;" (.ref mb)) (p_Y3 : Fld Z h0 y "com/example/darja/darja/Standing" "total" "J" (.long tb)) (p_S1 : own_Str Z h0 ma tA csA) (p_S2 : own_Str Z h0 mb tB csB) (hk : 1 < kd) (hex : ex = 0) :
    G T0 (mkF m 325 #[.val (.int r1), .val (.int r2), .val (.long t1), .second, .val (.long t2), .second, .val (.int chars), .val (.int mode), .val (.int rb), .val (.long tb), .second, .val (.int ca0), .val (.int ca1), .val (.int cb0), .val (.int cb1), .val (.int cp), .val (.int lenA), .val (.int lenB), .val (.ref caA), .val (.ref cbA), .val (.ref ma), .val (.ref mb), .val (.ref x), .val (.ref y), .val (.int kd), .val .null, .val (.int sm), .val (.int ex), .unset] []) := by
  have W : ∀ (k : Nat) {d : Jvm.Cond}, tables_1[k]? = some d → d.before a0 Z = true := fun k d q => hw d (List.mem_of_getElem? q)
  refine own_aload (pc' := 327) X0 at_325 rfl rfl rfl ?_
  refine own_aload (pc' := 329) X0 at_327 rfl rfl rfl ?_
  refine own_callVM (pc' := 332) (cells' := 8) (slots' := 22) (argsL := [.null]) (rest := []) (W := 0) (y := (⟨"com/example/darja/darja/Standing", "equals", "(Ljava/lang/Object;)Z"⟩ : MethodName)) (z := (⟨"com/example/darja/darja/Standing", "equals", "(Ljava/lang/Object;)Z"⟩ : MethodName)) (a := x) X0 (W 43 rfl) (W 44 rfl) (fun s' hZ' => notFace_of_selects (args := #[]) (mvT hZ' (W 46 rfl))) (W 46 rfl) (W 45 rfl) (by decide) p_Ex (own_eqn l Z a0 hw n0 x h0 (own_old X0)) (W 47 rfl) (W 32 rfl) (by decide) (by decide) rfl (lenOf pd_0 rfl) rfl rfl at_329 rfl rfl rfl rfl (by decide) (by decide) ?_
  intro v1 T1 h1 X1 q1
  obtain ⟨rfl, rfl⟩ := q1
  show G T1 (mkF m 332 #[.val (.int r1), .val (.int r2), .val (.long t1), .second, .val (.long t2), .second, .val (.int chars), .val (.int mode), .val (.int rb), .val (.long tb), .second, .val (.int ca0), .val (.int ca1), .val (.int cb0), .val (.int cb1), .val (.int cp), .val (.int lenA), .val (.int lenB), .val (.ref caA), .val (.ref cbA), .val (.ref ma), .val (.ref mb), .val (.ref x), .val (.ref y), .val (.int kd), .val .null, .val (.int sm), .val (.int ex), .unset] [(.int (0 : Int32))])
  refine own_iload (pc' := 334) X1 at_332 rfl rfl ?_
  refine own_icmpN (pc' := 337) X1 at_334 rfl ((teq hex.symm).2) ?_
  refine own_iconst (pc' := 338) X1 at_337 rfl (z := (1 : Int32)) (by decide) ?_
  refine own_goto (pc' := 342) X1 at_338 (by decide) (by decide) ?_
  refine own_istore (pc' := 344) X1 at_342 rfl (Ls' := #[.val (.int r1), .val (.int r2), .val (.long t1), .second, .val (.long t2), .second, .val (.int chars), .val (.int mode), .val (.int rb), .val (.long tb), .second, .val (.int ca0), .val (.int ca1), .val (.int cb0), .val (.int cb1), .val (.int cp), .val (.int lenA), .val (.int lenB), .val (.ref caA), .val (.ref cbA), .val (.ref ma), .val (.ref mb), .val (.ref x), .val (.ref y), .val (.int kd), .val .null, .val (.int sm), .val (.int ex), .val (.int (1 : Int32))]) rfl ?_
  refine own_iload (pc' := 346) X1 at_344 rfl rfl ?_
  refine own_iconst (pc' := 347) X1 at_346 rfl (z := (1 : Int32)) (by decide) ?_
  refine own_icmpY (pc' := 374) X1 at_347 ((tlt hk).2.2.1) (by decide) (by decide) ?_
  exact own_374n hw r1 r2 t1 t2 chars mode rb tb ca0 ca1 cb0 cb1 cp lenA lenB caA cbA ma mb tA tB csA csB x y kd sm ex (1 : Int32) (own_mono X1 (by decide : 8 ≤ 8) (by decide : 22 ≤ 22)) hGe CS hAB p_Ex p_Ey p_X1 p_X2 p_X3 p_Y1 p_Y2 p_Y3 p_S1 p_S2 rfl
set_option maxRecDepth 65536 in
set_option maxHeartbeats 40000000 in
theorem own_292n {G : State → JFrame → Prop} {p : Program} {l : Launch} {e : Env} {s : State} {m : MethodId} {args : Array Value} {below : List Frame} {meth : Method} {c : Code} {Z : State} {a0 : Array Value} {n0 : Nat} {T0 : State} {h0 : Heap} (hw : ∀ d ∈ tables_1, d.before a0 Z = true) (r1 r2 : Int32) (t1 t2 : Int64) (chars mode : Int32) (rb : Int32) (tb : Int64) (ca0 ca1 cb0 cb1 cp lenA lenB : Int32) (caA cbA ma mb tA tB : Addr) (csA csB : List Int32) (x y : Addr) (kd : Int32) (sm : Int32)
    (X0 : own_At G p l e room_1 s m args below meth c Z n0 "com/example/darja/darja/StandingEqualsPinLaw" "law" code maxLocals ret T0 h0 8 22) (hGe : G = own_Fin p e below s Z n0 (fun v h => v = some (.int 1)) room_1.cells room_1.slots) (CS : own_CS Z) (hAB : (csA = csB ↔ lenA = lenB ∧ ca0 = cb0 ∧ (lenA = 1 ∨ ca1 = cb1))) (p_Ex : Exa Z h0 x "com/example/darja/darja/Standing") (p_Ey : Exa Z h0 y "com/example/darja/darja/Standing") (p_X1 : Fld Z h0 x "com/example/darja/darja/Standing" "rank" "I" (.int r1)) (p_X2 : Fld Z h0 x "com/example/darja/darja/Standing" "member" "Ljava/lang/String;" (.ref ma)) (p_X3 : Fld Z h0 x "com/example/darja/darja/Standing" "total" "J" (.long t1)) (p_Y1 : Fld Z h0 y "com/example/darja/darja/Standing" "rank" "I" (.int rb)) (p_Y2 : Fld Z h0 y "com/example/darja/darja/Standing" "member" "Ljava/lang/String;" (.ref mb)) (p_Y3 : Fld Z h0 y "com/example/darja/darja/Standing" "total" "J" (.long tb)) (p_S1 : own_Str Z h0 ma tA csA) (p_S2 : own_Str Z h0 mb tB csB) (hk : 1 < kd) (hsm : sm = if csA = csB then 1 else 0) :
    G T0 (mkF m 292 #[.val (.int r1), .val (.int r2), .val (.long t1), .second, .val (.long t2), .second, .val (.int chars), .val (.int mode), .val (.int rb), .val (.long tb), .second, .val (.int ca0), .val (.int ca1), .val (.int cb0), .val (.int cb1), .val (.int cp), .val (.int lenA), .val (.int lenB), .val (.ref caA), .val (.ref cbA), .val (.ref ma), .val (.ref mb), .val (.ref x), .val (.ref y), .val (.int kd), .val .null, .unset, .unset, .unset] [(.int sm)]) := by
  have W : ∀ (k : Nat) {d : Jvm.Cond}, tables_1[k]? = some d → d.before a0 Z = true := fun k d q => hw d (List.mem_of_getElem? q)
  refine own_istore (pc' := 294) X0 at_292 rfl (Ls' := #[.val (.int r1), .val (.int r2), .val (.long t1), .second, .val (.long t2), .second, .val (.int chars), .val (.int mode), .val (.int rb), .val (.long tb), .second, .val (.int ca0), .val (.int ca1), .val (.int cb0), .val (.int cb1), .val (.int cp), .val (.int lenA), .val (.int lenB), .val (.ref caA), .val (.ref cbA), .val (.ref ma), .val (.ref mb), .val (.ref x), .val (.ref y), .val (.int kd), .val .null, .val (.int sm), .unset, .unset]) rfl ?_
  refine own_iload (pc' := 296) X0 at_294 rfl rfl ?_
  refine own_iconst (pc' := 297) X0 at_296 rfl (z := (1 : Int32)) (by decide) ?_
  refine own_icmpY (pc' := 322) X0 at_297 ((tlt hk).2.2.1) (by decide) (by decide) ?_
  refine own_iconst (pc' := 323) X0 at_322 rfl (z := (0 : Int32)) (by decide) ?_
  refine own_istore (pc' := 325) X0 at_323 rfl (Ls' := #[.val (.int r1), .val (.int r2), .val (.long t1), .second, .val (.long t2), .second, .val (.int chars), .val (.int mode), .val (.int rb), .val (.long tb), .second, .val (.int ca0), .val (.int ca1), .val (.int cb0), .val (.int cb1), .val (.int cp), .val (.int lenA), .val (.int lenB), .val (.ref caA), .val (.ref cbA), .val (.ref ma), .val (.ref mb), .val (.ref x), .val (.ref y), .val (.int kd), .val .null, .val (.int sm), .val (.int (0 : Int32)), .unset]) rfl ?_
  exact own_325n hw r1 r2 t1 t2 chars mode rb tb ca0 ca1 cb0 cb1 cp lenA lenB caA cbA ma mb tA tB csA csB x y kd sm (0 : Int32) (own_mono X0 (by decide : 8 ≤ 8) (by decide : 22 ≤ 22)) hGe CS hAB p_Ex p_Ey p_X1 p_X2 p_X3 p_Y1 p_Y2 p_Y3 p_S1 p_S2 hk rfl
set_option maxRecDepth 65536 in
set_option maxHeartbeats 40000000 in
theorem own_260n {G : State → JFrame → Prop} {p : Program} {l : Launch} {e : Env} {s : State} {m : MethodId} {args : Array Value} {below : List Frame} {meth : Method} {c : Code} {Z : State} {a0 : Array Value} {n0 : Nat} {T0 : State} {h0 : Heap} (hw : ∀ d ∈ tables_1, d.before a0 Z = true) (r1 r2 : Int32) (t1 t2 : Int64) (chars mode : Int32) (rb : Int32) (tb : Int64) (ca0 ca1 cb0 cb1 cp lenA lenB : Int32) (caA cbA ma mb tA tB : Addr) (csA csB : List Int32) (x y : Addr) (kd : Int32)
    (X0 : own_At G p l e room_1 s m args below meth c Z n0 "com/example/darja/darja/StandingEqualsPinLaw" "law" code maxLocals ret T0 h0 8 22) (hGe : G = own_Fin p e below s Z n0 (fun v h => v = some (.int 1)) room_1.cells room_1.slots) (CS : own_CS Z) (hAB : (csA = csB ↔ lenA = lenB ∧ ca0 = cb0 ∧ (lenA = 1 ∨ ca1 = cb1))) (p_Ex : Exa Z h0 x "com/example/darja/darja/Standing") (p_Ey : Exa Z h0 y "com/example/darja/darja/Standing") (p_X1 : Fld Z h0 x "com/example/darja/darja/Standing" "rank" "I" (.int r1)) (p_X2 : Fld Z h0 x "com/example/darja/darja/Standing" "member" "Ljava/lang/String;" (.ref ma)) (p_X3 : Fld Z h0 x "com/example/darja/darja/Standing" "total" "J" (.long t1)) (p_Y1 : Fld Z h0 y "com/example/darja/darja/Standing" "rank" "I" (.int rb)) (p_Y2 : Fld Z h0 y "com/example/darja/darja/Standing" "member" "Ljava/lang/String;" (.ref mb)) (p_Y3 : Fld Z h0 y "com/example/darja/darja/Standing" "total" "J" (.long tb)) (p_S1 : own_Str Z h0 ma tA csA) (p_S2 : own_Str Z h0 mb tB csB) (hk : 1 < kd) :
    G T0 (mkF m 260 #[.val (.int r1), .val (.int r2), .val (.long t1), .second, .val (.long t2), .second, .val (.int chars), .val (.int mode), .val (.int rb), .val (.long tb), .second, .val (.int ca0), .val (.int ca1), .val (.int cb0), .val (.int cb1), .val (.int cp), .val (.int lenA), .val (.int lenB), .val (.ref caA), .val (.ref cbA), .val (.ref ma), .val (.ref mb), .val (.ref x), .val (.ref y), .val (.int kd), .val .null, .unset, .unset, .unset] []) := by
  have W : ∀ (k : Nat) {d : Jvm.Cond}, tables_1[k]? = some d → d.before a0 Z = true := fun k d q => hw d (List.mem_of_getElem? q)
  refine own_iload (pc' := 262) X0 at_260 rfl rfl ?_
  refine own_iload (pc' := 264) X0 at_262 rfl rfl ?_
  by_cases h264 : lenA = lenB
  · refine own_icmpN (pc' := 267) X0 at_264 rfl ((teq h264).2) ?_
    refine own_iload (pc' := 269) X0 at_267 rfl rfl ?_
    refine own_iload (pc' := 271) X0 at_269 rfl rfl ?_
    by_cases h271 : ca0 = cb0
    · refine own_icmpN (pc' := 274) X0 at_271 rfl ((teq h271).2) ?_
      refine own_iload (pc' := 276) X0 at_274 rfl rfl ?_
      refine own_iconst (pc' := 277) X0 at_276 rfl (z := (1 : Int32)) (by decide) ?_
      by_cases h277 : lenA = (1 : Int32)
      · refine own_icmpY (pc' := 287) X0 at_277 ((teq h277).1) (by decide) (by decide) ?_
        refine own_iconst (pc' := 288) X0 at_287 rfl (z := (1 : Int32)) (by decide) ?_
        refine own_goto (pc' := 292) X0 at_288 (by decide) (by decide) ?_
        exact own_292n hw r1 r2 t1 t2 chars mode rb tb ca0 ca1 cb0 cb1 cp lenA lenB caA cbA ma mb tA tB csA csB x y kd (1 : Int32) (own_mono X0 (by decide : 8 ≤ 8) (by decide : 22 ≤ 22)) hGe CS hAB p_Ex p_Ey p_X1 p_X2 p_X3 p_Y1 p_Y2 p_Y3 p_S1 p_S2 hk (if_pos (hAB.mpr ⟨h264, h271, Or.inl h277⟩)).symm
      · refine own_icmpN (pc' := 280) X0 at_277 rfl ((feq h277).1) ?_
        refine own_iload (pc' := 282) X0 at_280 rfl rfl ?_
        refine own_iload (pc' := 284) X0 at_282 rfl rfl ?_
        by_cases h284 : ca1 = cb1
        · refine own_icmpN (pc' := 287) X0 at_284 rfl ((teq h284).2) ?_
          refine own_iconst (pc' := 288) X0 at_287 rfl (z := (1 : Int32)) (by decide) ?_
          refine own_goto (pc' := 292) X0 at_288 (by decide) (by decide) ?_
          exact own_292n hw r1 r2 t1 t2 chars mode rb tb ca0 ca1 cb0 cb1 cp lenA lenB caA cbA ma mb tA tB csA csB x y kd (1 : Int32) (own_mono X0 (by decide : 8 ≤ 8) (by decide : 22 ≤ 22)) hGe CS hAB p_Ex p_Ey p_X1 p_X2 p_X3 p_Y1 p_Y2 p_Y3 p_S1 p_S2 hk (if_pos (hAB.mpr ⟨h264, h271, Or.inr h284⟩)).symm
        · refine own_icmpY (pc' := 291) X0 at_284 ((feq h284).2) (by decide) (by decide) ?_
          refine own_iconst (pc' := 292) X0 at_291 rfl (z := (0 : Int32)) (by decide) ?_
          exact own_292n hw r1 r2 t1 t2 chars mode rb tb ca0 ca1 cb0 cb1 cp lenA lenB caA cbA ma mb tA tB csA csB x y kd (0 : Int32) (own_mono X0 (by decide : 8 ≤ 8) (by decide : 22 ≤ 22)) hGe CS hAB p_Ex p_Ey p_X1 p_X2 p_X3 p_Y1 p_Y2 p_Y3 p_S1 p_S2 hk (if_neg (fun q => (hAB.mp q).2.2.elim h277 h284)).symm
    · refine own_icmpY (pc' := 291) X0 at_271 ((feq h271).2) (by decide) (by decide) ?_
      refine own_iconst (pc' := 292) X0 at_291 rfl (z := (0 : Int32)) (by decide) ?_
      exact own_292n hw r1 r2 t1 t2 chars mode rb tb ca0 ca1 cb0 cb1 cp lenA lenB caA cbA ma mb tA tB csA csB x y kd (0 : Int32) (own_mono X0 (by decide : 8 ≤ 8) (by decide : 22 ≤ 22)) hGe CS hAB p_Ex p_Ey p_X1 p_X2 p_X3 p_Y1 p_Y2 p_Y3 p_S1 p_S2 hk (if_neg (fun q => h271 (hAB.mp q).2.1)).symm
  · refine own_icmpY (pc' := 291) X0 at_264 ((feq h264).2) (by decide) (by decide) ?_
    refine own_iconst (pc' := 292) X0 at_291 rfl (z := (0 : Int32)) (by decide) ?_
    exact own_292n hw r1 r2 t1 t2 chars mode rb tb ca0 ca1 cb0 cb1 cp lenA lenB caA cbA ma mb tA tB csA csB x y kd (0 : Int32) (own_mono X0 (by decide : 8 ≤ 8) (by decide : 22 ≤ 22)) hGe CS hAB p_Ex p_Ey p_X1 p_X2 p_X3 p_Y1 p_Y2 p_Y3 p_S1 p_S2 hk (if_neg (fun q => h264 (hAB.mp q).1)).symm
set_option maxRecDepth 65536 in
set_option maxHeartbeats 40000000 in
theorem own_374m {G : State → JFrame → Prop} {p : Program} {l : Launch} {e : Env} {s : State} {m : MethodId} {args : Array Value} {below : List Frame} {meth : Method} {c : Code} {Z : State} {a0 : Array Value} {n0 : Nat} {T0 : State} {h0 : Heap} (hw : ∀ d ∈ tables_1, d.before a0 Z = true) (r1 r2 : Int32) (t1 t2 : Int64) (chars mode : Int32) (rb : Int32) (tb : Int64) (ca0 ca1 cb0 cb1 cp lenA lenB : Int32) (caA cbA ma mb tA tB : Addr) (csA csB : List Int32) (x y : Addr) (kd : Int32) (sm ex ok : Int32)
    (X0 : own_At G p l e room_1 s m args below meth c Z n0 "com/example/darja/darja/StandingEqualsPinLaw" "law" code maxLocals ret T0 h0 8 22) (hGe : G = own_Fin p e below s Z n0 (fun v h => v = some (.int 1)) room_1.cells room_1.slots) (CS : own_CS Z) (hAB : (csA = csB ↔ lenA = lenB ∧ ca0 = cb0 ∧ (lenA = 1 ∨ ca1 = cb1))) (p_Ex : Exa Z h0 x "com/example/darja/darja/Standing") (p_Ey : Exa Z h0 y "com/example/darja/darja/Standing") (p_X1 : Fld Z h0 x "com/example/darja/darja/Standing" "rank" "I" (.int r1)) (p_X2 : Fld Z h0 x "com/example/darja/darja/Standing" "member" "Ljava/lang/String;" (.ref ma)) (p_X3 : Fld Z h0 x "com/example/darja/darja/Standing" "total" "J" (.long t1)) (p_Y1 : Fld Z h0 y "com/example/darja/darja/Standing" "rank" "I" (.int rb)) (p_Y2 : Fld Z h0 y "com/example/darja/darja/Standing" "member" "Ljava/lang/String;" (.ref mb)) (p_Y3 : Fld Z h0 y "com/example/darja/darja/Standing" "total" "J" (.long tb)) (p_S1 : own_Str Z h0 ma tA csA) (p_S2 : own_Str Z h0 mb tB csB) (hok : ok = 1) :
    G T0 (mkF m 374 #[.val (.int r1), .val (.int r2), .val (.long t1), .second, .val (.long t2), .second, .val (.int chars), .val (.int mode), .val (.int rb), .val (.long tb), .second, .val (.int ca0), .val (.int ca1), .val (.int cb0), .val (.int cb1), .val (.int cp), .val (.int lenA), .val (.int lenB), .val (.ref caA), .val (.ref cbA), .val (.ref ma), .val (.ref mb), .val (.ref x), .val (.ref y), .val (.int kd), .val (.ref mb), .val (.int sm), .val (.int ex), .val (.int ok)] []) := by
  have W : ∀ (k : Nat) {d : Jvm.Cond}, tables_1[k]? = some d → d.before a0 Z = true := fun k d q => hw d (List.mem_of_getElem? q)
  subst hok
  refine own_iload (pc' := 376) X0 at_374 rfl rfl ?_
  refine own_ifN (pc' := 379) X0 at_376 rfl ((feq (by decide)).1) ?_
  refine own_aload (pc' := 381) X0 at_379 rfl rfl rfl ?_
  refine own_aload (pc' := 383) X0 at_381 rfl rfl rfl ?_
  refine own_callVM (pc' := 386) (cells' := 8) (slots' := 22) (argsL := [(.ref x)]) (rest := []) (W := 0) (y := (⟨"com/example/darja/darja/Standing", "equals", "(Ljava/lang/Object;)Z"⟩ : MethodName)) (z := (⟨"com/example/darja/darja/Standing", "equals", "(Ljava/lang/Object;)Z"⟩ : MethodName)) (a := x) X0 (W 43 rfl) (W 44 rfl) (fun s' hZ' => notFace_of_selects (args := #[]) (mvT hZ' (W 46 rfl))) (W 46 rfl) (W 45 rfl) (by decide) p_Ex (own_eqs l Z a0 hw n0 x x r1 r1 ma tA ma tA t1 t1 csA csA h0 (own_old X0) p_Ex p_X1 p_X2 p_X3 p_X1 p_X2 p_X3 p_S1 p_S1 CS) (W 47 rfl) (W 32 rfl) (by decide) (by decide) rfl (lenOf pd_0 rfl) rfl rfl at_383 rfl rfl rfl rfl (by decide) (by decide) ?_
  intro v1 T1 h1 X1 q1
  obtain ⟨rfl, rfl⟩ := q1
  show G T1 (mkF m 386 #[.val (.int r1), .val (.int r2), .val (.long t1), .second, .val (.long t2), .second, .val (.int chars), .val (.int mode), .val (.int rb), .val (.long tb), .second, .val (.int ca0), .val (.int ca1), .val (.int cb0), .val (.int cb1), .val (.int cp), .val (.int lenA), .val (.int lenB), .val (.ref caA), .val (.ref cbA), .val (.ref ma), .val (.ref mb), .val (.ref x), .val (.ref y), .val (.int kd), .val (.ref mb), .val (.int sm), .val (.int ex), .val (.int (1 : Int32))] [(.int (if r1 = r1 ∧ csA = csA ∧ t1 = t1 then 1 else 0))])
  rw [if_pos ⟨rfl, rfl, rfl⟩]
  refine own_ifN (pc' := 389) X1 at_386 rfl ((feq (by decide)).1) ?_
  refine own_iconst (pc' := 390) X1 at_389 rfl (z := (1 : Int32)) (by decide) ?_
  refine own_goto (pc' := 394) X1 at_390 (by decide) (by decide) ?_
  exact own_ret X1 hGe (t := .boolean) rfl rfl (Or.inl ⟨rfl, by simp, _, rfl⟩) at_394 (by decide) (by decide) rfl
set_option maxRecDepth 65536 in
set_option maxHeartbeats 40000000 in
theorem own_325m {G : State → JFrame → Prop} {p : Program} {l : Launch} {e : Env} {s : State} {m : MethodId} {args : Array Value} {below : List Frame} {meth : Method} {c : Code} {Z : State} {a0 : Array Value} {n0 : Nat} {T0 : State} {h0 : Heap} (hw : ∀ d ∈ tables_1, d.before a0 Z = true) (r1 r2 : Int32) (t1 t2 : Int64) (chars mode : Int32) (rb : Int32) (tb : Int64) (ca0 ca1 cb0 cb1 cp lenA lenB : Int32) (caA cbA ma mb tA tB : Addr) (csA csB : List Int32) (x y : Addr) (kd : Int32) (sm ex : Int32)
    (X0 : own_At G p l e room_1 s m args below meth c Z n0 "com/example/darja/darja/StandingEqualsPinLaw" "law" code maxLocals ret T0 h0 8 22) (hGe : G = own_Fin p e below s Z n0 (fun v h => v = some (.int 1)) room_1.cells room_1.slots) (CS : own_CS Z) (hAB : (csA = csB ↔ lenA = lenB ∧ ca0 = cb0 ∧ (lenA = 1 ∨ ca1 = cb1))) (p_Ex : Exa Z h0 x "com/example/darja/darja/Standing") (p_Ey : Exa Z h0 y "com/example/darja/darja/Standing") (p_X1 : Fld Z h0 x "com/example/darja/darja/Standing" "rank" "I" (.int r1)) (p_X2 : Fld Z h0 x "com/example/darja/darja/Standing" "member" "Ljava/lang/String;" (.ref ma)) (p_X3 : Fld Z h0 x "com/example/darja/darja/Standing" "total" "J" (.long t1)) (p_Y1 : Fld Z h0 y "com/example/darja/darja/Standing" "rank" "I" (.int rb)) (p_Y2 : Fld Z h0 y "com/example/darja/darja/Standing" "member" "Ljava/lang/String;" (.ref mb)) (p_Y3 : Fld Z h0 y "com/example/darja/darja/Standing" "total" "J" (.long tb)) (p_S1 : own_Str Z h0 ma tA csA) (p_S2 : own_Str Z h0 mb tB csB) (hk : 1 < kd) (hex : ex = 0) :
    G T0 (mkF m 325 #[.val (.int r1), .val (.int r2), .val (.long t1), .second, .val (.long t2), .second, .val (.int chars), .val (.int mode), .val (.int rb), .val (.long tb), .second, .val (.int ca0), .val (.int ca1), .val (.int cb0), .val (.int cb1), .val (.int cp), .val (.int lenA), .val (.int lenB), .val (.ref caA), .val (.ref cbA), .val (.ref ma), .val (.ref mb), .val (.ref x), .val (.ref y), .val (.int kd), .val (.ref mb), .val (.int sm), .val (.int ex), .unset] []) := by
  have W : ∀ (k : Nat) {d : Jvm.Cond}, tables_1[k]? = some d → d.before a0 Z = true := fun k d q => hw d (List.mem_of_getElem? q)
  refine own_aload (pc' := 327) X0 at_325 rfl rfl rfl ?_
  refine own_aload (pc' := 329) X0 at_327 rfl rfl rfl ?_
  refine own_callVM (pc' := 332) (cells' := 8) (slots' := 22) (argsL := [(.ref mb)]) (rest := []) (W := 0) (y := (⟨"com/example/darja/darja/Standing", "equals", "(Ljava/lang/Object;)Z"⟩ : MethodName)) (z := (⟨"com/example/darja/darja/Standing", "equals", "(Ljava/lang/Object;)Z"⟩ : MethodName)) (a := x) X0 (W 43 rfl) (W 44 rfl) (fun s' hZ' => notFace_of_selects (args := #[]) (mvT hZ' (W 46 rfl))) (W 46 rfl) (W 45 rfl) (by decide) p_Ex (own_eqx l Z a0 hw n0 x mb h0 (own_old X0) p_S2.1) (W 47 rfl) (W 32 rfl) (by decide) (by decide) rfl (lenOf pd_0 rfl) rfl rfl at_329 rfl rfl rfl rfl (by decide) (by decide) ?_
  intro v1 T1 h1 X1 q1
  obtain ⟨rfl, rfl⟩ := q1
  show G T1 (mkF m 332 #[.val (.int r1), .val (.int r2), .val (.long t1), .second, .val (.long t2), .second, .val (.int chars), .val (.int mode), .val (.int rb), .val (.long tb), .second, .val (.int ca0), .val (.int ca1), .val (.int cb0), .val (.int cb1), .val (.int cp), .val (.int lenA), .val (.int lenB), .val (.ref caA), .val (.ref cbA), .val (.ref ma), .val (.ref mb), .val (.ref x), .val (.ref y), .val (.int kd), .val (.ref mb), .val (.int sm), .val (.int ex), .unset] [(.int (0 : Int32))])
  refine own_iload (pc' := 334) X1 at_332 rfl rfl ?_
  refine own_icmpN (pc' := 337) X1 at_334 rfl ((teq hex.symm).2) ?_
  refine own_iconst (pc' := 338) X1 at_337 rfl (z := (1 : Int32)) (by decide) ?_
  refine own_goto (pc' := 342) X1 at_338 (by decide) (by decide) ?_
  refine own_istore (pc' := 344) X1 at_342 rfl (Ls' := #[.val (.int r1), .val (.int r2), .val (.long t1), .second, .val (.long t2), .second, .val (.int chars), .val (.int mode), .val (.int rb), .val (.long tb), .second, .val (.int ca0), .val (.int ca1), .val (.int cb0), .val (.int cb1), .val (.int cp), .val (.int lenA), .val (.int lenB), .val (.ref caA), .val (.ref cbA), .val (.ref ma), .val (.ref mb), .val (.ref x), .val (.ref y), .val (.int kd), .val (.ref mb), .val (.int sm), .val (.int ex), .val (.int (1 : Int32))]) rfl ?_
  refine own_iload (pc' := 346) X1 at_344 rfl rfl ?_
  refine own_iconst (pc' := 347) X1 at_346 rfl (z := (1 : Int32)) (by decide) ?_
  refine own_icmpY (pc' := 374) X1 at_347 ((tlt hk).2.2.1) (by decide) (by decide) ?_
  exact own_374m hw r1 r2 t1 t2 chars mode rb tb ca0 ca1 cb0 cb1 cp lenA lenB caA cbA ma mb tA tB csA csB x y kd sm ex (1 : Int32) (own_mono X1 (by decide : 8 ≤ 8) (by decide : 22 ≤ 22)) hGe CS hAB p_Ex p_Ey p_X1 p_X2 p_X3 p_Y1 p_Y2 p_Y3 p_S1 p_S2 rfl
set_option maxRecDepth 65536 in
set_option maxHeartbeats 40000000 in
theorem own_292m {G : State → JFrame → Prop} {p : Program} {l : Launch} {e : Env} {s : State} {m : MethodId} {args : Array Value} {below : List Frame} {meth : Method} {c : Code} {Z : State} {a0 : Array Value} {n0 : Nat} {T0 : State} {h0 : Heap} (hw : ∀ d ∈ tables_1, d.before a0 Z = true) (r1 r2 : Int32) (t1 t2 : Int64) (chars mode : Int32) (rb : Int32) (tb : Int64) (ca0 ca1 cb0 cb1 cp lenA lenB : Int32) (caA cbA ma mb tA tB : Addr) (csA csB : List Int32) (x y : Addr) (kd : Int32) (sm : Int32)
    (X0 : own_At G p l e room_1 s m args below meth c Z n0 "com/example/darja/darja/StandingEqualsPinLaw" "law" code maxLocals ret T0 h0 8 22) (hGe : G = own_Fin p e below s Z n0 (fun v h => v = some (.int 1)) room_1.cells room_1.slots) (CS : own_CS Z) (hAB : (csA = csB ↔ lenA = lenB ∧ ca0 = cb0 ∧ (lenA = 1 ∨ ca1 = cb1))) (p_Ex : Exa Z h0 x "com/example/darja/darja/Standing") (p_Ey : Exa Z h0 y "com/example/darja/darja/Standing") (p_X1 : Fld Z h0 x "com/example/darja/darja/Standing" "rank" "I" (.int r1)) (p_X2 : Fld Z h0 x "com/example/darja/darja/Standing" "member" "Ljava/lang/String;" (.ref ma)) (p_X3 : Fld Z h0 x "com/example/darja/darja/Standing" "total" "J" (.long t1)) (p_Y1 : Fld Z h0 y "com/example/darja/darja/Standing" "rank" "I" (.int rb)) (p_Y2 : Fld Z h0 y "com/example/darja/darja/Standing" "member" "Ljava/lang/String;" (.ref mb)) (p_Y3 : Fld Z h0 y "com/example/darja/darja/Standing" "total" "J" (.long tb)) (p_S1 : own_Str Z h0 ma tA csA) (p_S2 : own_Str Z h0 mb tB csB) (hk : 1 < kd) (hsm : sm = if csA = csB then 1 else 0) :
    G T0 (mkF m 292 #[.val (.int r1), .val (.int r2), .val (.long t1), .second, .val (.long t2), .second, .val (.int chars), .val (.int mode), .val (.int rb), .val (.long tb), .second, .val (.int ca0), .val (.int ca1), .val (.int cb0), .val (.int cb1), .val (.int cp), .val (.int lenA), .val (.int lenB), .val (.ref caA), .val (.ref cbA), .val (.ref ma), .val (.ref mb), .val (.ref x), .val (.ref y), .val (.int kd), .val (.ref mb), .unset, .unset, .unset] [(.int sm)]) := by
  have W : ∀ (k : Nat) {d : Jvm.Cond}, tables_1[k]? = some d → d.before a0 Z = true := fun k d q => hw d (List.mem_of_getElem? q)
  refine own_istore (pc' := 294) X0 at_292 rfl (Ls' := #[.val (.int r1), .val (.int r2), .val (.long t1), .second, .val (.long t2), .second, .val (.int chars), .val (.int mode), .val (.int rb), .val (.long tb), .second, .val (.int ca0), .val (.int ca1), .val (.int cb0), .val (.int cb1), .val (.int cp), .val (.int lenA), .val (.int lenB), .val (.ref caA), .val (.ref cbA), .val (.ref ma), .val (.ref mb), .val (.ref x), .val (.ref y), .val (.int kd), .val (.ref mb), .val (.int sm), .unset, .unset]) rfl ?_
  refine own_iload (pc' := 296) X0 at_294 rfl rfl ?_
  refine own_iconst (pc' := 297) X0 at_296 rfl (z := (1 : Int32)) (by decide) ?_
  refine own_icmpY (pc' := 322) X0 at_297 ((tlt hk).2.2.1) (by decide) (by decide) ?_
  refine own_iconst (pc' := 323) X0 at_322 rfl (z := (0 : Int32)) (by decide) ?_
  refine own_istore (pc' := 325) X0 at_323 rfl (Ls' := #[.val (.int r1), .val (.int r2), .val (.long t1), .second, .val (.long t2), .second, .val (.int chars), .val (.int mode), .val (.int rb), .val (.long tb), .second, .val (.int ca0), .val (.int ca1), .val (.int cb0), .val (.int cb1), .val (.int cp), .val (.int lenA), .val (.int lenB), .val (.ref caA), .val (.ref cbA), .val (.ref ma), .val (.ref mb), .val (.ref x), .val (.ref y), .val (.int kd), .val (.ref mb), .val (.int sm), .val (.int (0 : Int32)), .unset]) rfl ?_
  exact own_325m hw r1 r2 t1 t2 chars mode rb tb ca0 ca1 cb0 cb1 cp lenA lenB caA cbA ma mb tA tB csA csB x y kd sm (0 : Int32) (own_mono X0 (by decide : 8 ≤ 8) (by decide : 22 ≤ 22)) hGe CS hAB p_Ex p_Ey p_X1 p_X2 p_X3 p_Y1 p_Y2 p_Y3 p_S1 p_S2 hk rfl
set_option maxRecDepth 65536 in
set_option maxHeartbeats 40000000 in
theorem own_260m {G : State → JFrame → Prop} {p : Program} {l : Launch} {e : Env} {s : State} {m : MethodId} {args : Array Value} {below : List Frame} {meth : Method} {c : Code} {Z : State} {a0 : Array Value} {n0 : Nat} {T0 : State} {h0 : Heap} (hw : ∀ d ∈ tables_1, d.before a0 Z = true) (r1 r2 : Int32) (t1 t2 : Int64) (chars mode : Int32) (rb : Int32) (tb : Int64) (ca0 ca1 cb0 cb1 cp lenA lenB : Int32) (caA cbA ma mb tA tB : Addr) (csA csB : List Int32) (x y : Addr) (kd : Int32)
    (X0 : own_At G p l e room_1 s m args below meth c Z n0 "com/example/darja/darja/StandingEqualsPinLaw" "law" code maxLocals ret T0 h0 8 22) (hGe : G = own_Fin p e below s Z n0 (fun v h => v = some (.int 1)) room_1.cells room_1.slots) (CS : own_CS Z) (hAB : (csA = csB ↔ lenA = lenB ∧ ca0 = cb0 ∧ (lenA = 1 ∨ ca1 = cb1))) (p_Ex : Exa Z h0 x "com/example/darja/darja/Standing") (p_Ey : Exa Z h0 y "com/example/darja/darja/Standing") (p_X1 : Fld Z h0 x "com/example/darja/darja/Standing" "rank" "I" (.int r1)) (p_X2 : Fld Z h0 x "com/example/darja/darja/Standing" "member" "Ljava/lang/String;" (.ref ma)) (p_X3 : Fld Z h0 x "com/example/darja/darja/Standing" "total" "J" (.long t1)) (p_Y1 : Fld Z h0 y "com/example/darja/darja/Standing" "rank" "I" (.int rb)) (p_Y2 : Fld Z h0 y "com/example/darja/darja/Standing" "member" "Ljava/lang/String;" (.ref mb)) (p_Y3 : Fld Z h0 y "com/example/darja/darja/Standing" "total" "J" (.long tb)) (p_S1 : own_Str Z h0 ma tA csA) (p_S2 : own_Str Z h0 mb tB csB) (hk : 1 < kd) :
    G T0 (mkF m 260 #[.val (.int r1), .val (.int r2), .val (.long t1), .second, .val (.long t2), .second, .val (.int chars), .val (.int mode), .val (.int rb), .val (.long tb), .second, .val (.int ca0), .val (.int ca1), .val (.int cb0), .val (.int cb1), .val (.int cp), .val (.int lenA), .val (.int lenB), .val (.ref caA), .val (.ref cbA), .val (.ref ma), .val (.ref mb), .val (.ref x), .val (.ref y), .val (.int kd), .val (.ref mb), .unset, .unset, .unset] []) := by
  have W : ∀ (k : Nat) {d : Jvm.Cond}, tables_1[k]? = some d → d.before a0 Z = true := fun k d q => hw d (List.mem_of_getElem? q)
  refine own_iload (pc' := 262) X0 at_260 rfl rfl ?_
  refine own_iload (pc' := 264) X0 at_262 rfl rfl ?_
  by_cases h264 : lenA = lenB
  · refine own_icmpN (pc' := 267) X0 at_264 rfl ((teq h264).2) ?_
    refine own_iload (pc' := 269) X0 at_267 rfl rfl ?_
    refine own_iload (pc' := 271) X0 at_269 rfl rfl ?_
    by_cases h271 : ca0 = cb0
    · refine own_icmpN (pc' := 274) X0 at_271 rfl ((teq h271).2) ?_
      refine own_iload (pc' := 276) X0 at_274 rfl rfl ?_
      refine own_iconst (pc' := 277) X0 at_276 rfl (z := (1 : Int32)) (by decide) ?_
      by_cases h277 : lenA = (1 : Int32)
      · refine own_icmpY (pc' := 287) X0 at_277 ((teq h277).1) (by decide) (by decide) ?_
        refine own_iconst (pc' := 288) X0 at_287 rfl (z := (1 : Int32)) (by decide) ?_
        refine own_goto (pc' := 292) X0 at_288 (by decide) (by decide) ?_
        exact own_292m hw r1 r2 t1 t2 chars mode rb tb ca0 ca1 cb0 cb1 cp lenA lenB caA cbA ma mb tA tB csA csB x y kd (1 : Int32) (own_mono X0 (by decide : 8 ≤ 8) (by decide : 22 ≤ 22)) hGe CS hAB p_Ex p_Ey p_X1 p_X2 p_X3 p_Y1 p_Y2 p_Y3 p_S1 p_S2 hk (if_pos (hAB.mpr ⟨h264, h271, Or.inl h277⟩)).symm
      · refine own_icmpN (pc' := 280) X0 at_277 rfl ((feq h277).1) ?_
        refine own_iload (pc' := 282) X0 at_280 rfl rfl ?_
        refine own_iload (pc' := 284) X0 at_282 rfl rfl ?_
        by_cases h284 : ca1 = cb1
        · refine own_icmpN (pc' := 287) X0 at_284 rfl ((teq h284).2) ?_
          refine own_iconst (pc' := 288) X0 at_287 rfl (z := (1 : Int32)) (by decide) ?_
          refine own_goto (pc' := 292) X0 at_288 (by decide) (by decide) ?_
          exact own_292m hw r1 r2 t1 t2 chars mode rb tb ca0 ca1 cb0 cb1 cp lenA lenB caA cbA ma mb tA tB csA csB x y kd (1 : Int32) (own_mono X0 (by decide : 8 ≤ 8) (by decide : 22 ≤ 22)) hGe CS hAB p_Ex p_Ey p_X1 p_X2 p_X3 p_Y1 p_Y2 p_Y3 p_S1 p_S2 hk (if_pos (hAB.mpr ⟨h264, h271, Or.inr h284⟩)).symm
        · refine own_icmpY (pc' := 291) X0 at_284 ((feq h284).2) (by decide) (by decide) ?_
          refine own_iconst (pc' := 292) X0 at_291 rfl (z := (0 : Int32)) (by decide) ?_
          exact own_292m hw r1 r2 t1 t2 chars mode rb tb ca0 ca1 cb0 cb1 cp lenA lenB caA cbA ma mb tA tB csA csB x y kd (0 : Int32) (own_mono X0 (by decide : 8 ≤ 8) (by decide : 22 ≤ 22)) hGe CS hAB p_Ex p_Ey p_X1 p_X2 p_X3 p_Y1 p_Y2 p_Y3 p_S1 p_S2 hk (if_neg (fun q => (hAB.mp q).2.2.elim h277 h284)).symm
    · refine own_icmpY (pc' := 291) X0 at_271 ((feq h271).2) (by decide) (by decide) ?_
      refine own_iconst (pc' := 292) X0 at_291 rfl (z := (0 : Int32)) (by decide) ?_
      exact own_292m hw r1 r2 t1 t2 chars mode rb tb ca0 ca1 cb0 cb1 cp lenA lenB caA cbA ma mb tA tB csA csB x y kd (0 : Int32) (own_mono X0 (by decide : 8 ≤ 8) (by decide : 22 ≤ 22)) hGe CS hAB p_Ex p_Ey p_X1 p_X2 p_X3 p_Y1 p_Y2 p_Y3 p_S1 p_S2 hk (if_neg (fun q => h271 (hAB.mp q).2.1)).symm
  · refine own_icmpY (pc' := 291) X0 at_264 ((feq h264).2) (by decide) (by decide) ?_
    refine own_iconst (pc' := 292) X0 at_291 rfl (z := (0 : Int32)) (by decide) ?_
    exact own_292m hw r1 r2 t1 t2 chars mode rb tb ca0 ca1 cb0 cb1 cp lenA lenB caA cbA ma mb tA tB csA csB x y kd (0 : Int32) (own_mono X0 (by decide : 8 ≤ 8) (by decide : 22 ≤ 22)) hGe CS hAB p_Ex p_Ey p_X1 p_X2 p_X3 p_Y1 p_Y2 p_Y3 p_S1 p_S2 hk (if_neg (fun q => h264 (hAB.mp q).1)).symm
theorem pd_1 : parseMethodDescriptor "(ILjava/lang/String;J)V" = some ⟨[.int, (.object "java/lang/String"), .long], none⟩ := by decide +kernel
set_option maxRecDepth 65536 in
set_option maxHeartbeats 40000000 in
theorem own_195 {G : State → JFrame → Prop} {p : Program} {l : Launch} {e : Env} {s : State} {m : MethodId} {args : Array Value} {below : List Frame} {meth : Method} {c : Code} {Z : State} {a0 : Array Value} {n0 : Nat} {T0 : State} {h0 : Heap} (hw : ∀ d ∈ tables_1, d.before a0 Z = true) (r1 r2 : Int32) (t1 t2 : Int64) (chars mode : Int32) (rb : Int32) (tb : Int64) (ca0 ca1 cb0 cb1 cp lenA lenB : Int32) (caA cbA ma mb tA tB : Addr) (csA csB : List Int32)
    (X0 : own_At G p l e room_1 s m args below meth c Z n0 "com/example/darja/darja/StandingEqualsPinLaw" "law" code maxLocals ret T0 h0 6 16) (hGe : G = own_Fin p e below s Z n0 (fun v h => v = some (.int 1)) room_1.cells room_1.slots) (CS : own_CS Z) (hAB : (csA = csB ↔ lenA = lenB ∧ ca0 = cb0 ∧ (lenA = 1 ∨ ca1 = cb1))) (p_S1 : own_Str Z h0 ma tA csA) (p_S2 : own_Str Z h0 mb tB csB) :
    G T0 (mkF m 195 #[.val (.int r1), .val (.int r2), .val (.long t1), .second, .val (.long t2), .second, .val (.int chars), .val (.int mode), .val (.int rb), .val (.long tb), .second, .val (.int ca0), .val (.int ca1), .val (.int cb0), .val (.int cb1), .val (.int cp), .val (.int lenA), .val (.int lenB), .val (.ref caA), .val (.ref cbA), .val (.ref ma), .val (.ref mb), .unset, .unset, .unset, .unset, .unset, .unset, .unset] []) := by
  have W : ∀ (k : Nat) {d : Jvm.Cond}, tables_1[k]? = some d → d.before a0 Z = true := fun k d q => hw d (List.mem_of_getElem? q)
  refine own_new (pc' := 198) (cells' := 7) (slots' := 19) X0 (W 30 rfl) (W 31 rfl) (W 32 rfl) at_195 rfl rfl rfl (by decide) (by decide) ?_
  intro T1 h1 a1 g1 X1 K1 E1 D1 U1
  have n_a1 : n0 ≤ a1 := by rw [g1]; exact own_n0 X0
  have F1_rank : Fld Z h1 a1 "com/example/darja/darja/Standing" "rank" "I" (.int (0 : Int32)) := D1 (Or.inr (W 38 rfl)) (ty := .int) (by decide)
  have F1_member : Fld Z h1 a1 "com/example/darja/darja/Standing" "member" "Ljava/lang/String;" .null := D1 (Or.inr (W 40 rfl)) (ty := (.object "java/lang/String")) (by decide)
  have F1_total : Fld Z h1 a1 "com/example/darja/darja/Standing" "total" "J" (.long (0 : Int64)) := D1 (Or.inr (W 42 rfl)) (ty := .long) (by decide)
  refine own_dup (pc' := 199) X1 at_198 rfl rfl ?_
  refine own_iload_n (pc' := 200) X1 at_199 rfl rfl ?_
  refine own_aload (pc' := 202) X1 at_200 rfl rfl rfl ?_
  refine own_lload_n (pc' := 203) X1 at_202 rfl rfl ?_
  refine own_callIM (pc' := 206) (cells' := 7) (slots' := 19) (argsL := [(.int r1), (.ref ma), (.long t1)]) (rest := [(.ref a1)]) (W := 1) (y := (⟨"com/example/darja/darja/Standing", "<init>", "(ILjava/lang/String;J)V"⟩ : MethodName)) (a := a1) X1 (W 33 rfl) (W 34 rfl) rfl (by decide) (own_init l Z a0 hw n0 a1 r1 ma t1 h1 (own_old X1) n_a1 E1 F1_rank F1_member F1_total) (W 35 rfl) (W 32 rfl) (by decide) (by decide) rfl (lenOf pd_1 rfl) rfl rfl at_203 rfl rfl rfl rfl (by decide) (by decide) ?_
  intro v2 T2 h2 X2 q2
  obtain ⟨rfl, K2, E2, Fa2, Fb2, Fc2⟩ := q2
  show G T2 (mkF m 206 #[.val (.int r1), .val (.int r2), .val (.long t1), .second, .val (.long t2), .second, .val (.int chars), .val (.int mode), .val (.int rb), .val (.long tb), .second, .val (.int ca0), .val (.int ca1), .val (.int cb0), .val (.int cb1), .val (.int cp), .val (.int lenA), .val (.int lenB), .val (.ref caA), .val (.ref cbA), .val (.ref ma), .val (.ref mb), .unset, .unset, .unset, .unset, .unset, .unset, .unset] [(.ref a1)])
  refine own_astore (pc' := 208) X2 at_206 rfl rfl (Ls' := #[.val (.int r1), .val (.int r2), .val (.long t1), .second, .val (.long t2), .second, .val (.int chars), .val (.int mode), .val (.int rb), .val (.long tb), .second, .val (.int ca0), .val (.int ca1), .val (.int cb0), .val (.int cb1), .val (.int cp), .val (.int lenA), .val (.int lenB), .val (.ref caA), .val (.ref cbA), .val (.ref ma), .val (.ref mb), .val (.ref a1), .unset, .unset, .unset, .unset, .unset, .unset]) rfl ?_
  refine own_new (pc' := 211) (cells' := 8) (slots' := 22) X2 (W 30 rfl) (W 31 rfl) (W 32 rfl) at_208 rfl rfl rfl (by decide) (by decide) ?_
  intro T3 h3 a3 g3 X3 K3 E3 D3 U3
  have n_a3 : n0 ≤ a3 := by rw [g3]; exact own_n0 X2
  have F3_rank : Fld Z h3 a3 "com/example/darja/darja/Standing" "rank" "I" (.int (0 : Int32)) := D3 (Or.inr (W 38 rfl)) (ty := .int) (by decide)
  have F3_member : Fld Z h3 a3 "com/example/darja/darja/Standing" "member" "Ljava/lang/String;" .null := D3 (Or.inr (W 40 rfl)) (ty := (.object "java/lang/String")) (by decide)
  have F3_total : Fld Z h3 a3 "com/example/darja/darja/Standing" "total" "J" (.long (0 : Int64)) := D3 (Or.inr (W 42 rfl)) (ty := .long) (by decide)
  refine own_dup (pc' := 212) X3 at_211 rfl rfl ?_
  refine own_iload (pc' := 214) X3 at_212 rfl rfl ?_
  refine own_aload (pc' := 216) X3 at_214 rfl rfl rfl ?_
  refine own_lload (pc' := 218) X3 at_216 rfl rfl ?_
  refine own_callIM (pc' := 221) (cells' := 8) (slots' := 22) (argsL := [(.int rb), (.ref mb), (.long tb)]) (rest := [(.ref a3)]) (W := 1) (y := (⟨"com/example/darja/darja/Standing", "<init>", "(ILjava/lang/String;J)V"⟩ : MethodName)) (a := a3) X3 (W 33 rfl) (W 34 rfl) rfl (by decide) (own_init l Z a0 hw n0 a3 rb mb tb h3 (own_old X3) n_a3 E3 F3_rank F3_member F3_total) (W 35 rfl) (W 32 rfl) (by decide) (by decide) rfl (lenOf pd_1 rfl) rfl rfl at_218 rfl rfl rfl rfl (by decide) (by decide) ?_
  intro v4 T4 h4 X4 q4
  obtain ⟨rfl, K4, E4, Fa4, Fb4, Fc4⟩ := q4
  show G T4 (mkF m 221 #[.val (.int r1), .val (.int r2), .val (.long t1), .second, .val (.long t2), .second, .val (.int chars), .val (.int mode), .val (.int rb), .val (.long tb), .second, .val (.int ca0), .val (.int ca1), .val (.int cb0), .val (.int cb1), .val (.int cp), .val (.int lenA), .val (.int lenB), .val (.ref caA), .val (.ref cbA), .val (.ref ma), .val (.ref mb), .val (.ref a1), .unset, .unset, .unset, .unset, .unset, .unset] [(.ref a3)])
  refine own_astore (pc' := 223) X4 at_221 rfl rfl (Ls' := #[.val (.int r1), .val (.int r2), .val (.long t1), .second, .val (.long t2), .second, .val (.int chars), .val (.int mode), .val (.int rb), .val (.long tb), .second, .val (.int ca0), .val (.int ca1), .val (.int cb0), .val (.int cb1), .val (.int cp), .val (.int lenA), .val (.int lenB), .val (.ref caA), .val (.ref cbA), .val (.ref ma), .val (.ref mb), .val (.ref a1), .val (.ref a3), .unset, .unset, .unset, .unset, .unset]) rfl ?_
  refine own_iload (pc' := 225) X4 at_223 rfl rfl ?_
  refine own_iconst (pc' := 226) X4 at_225 rfl (z := (5 : Int32)) (by decide) ?_
  refine own_iushr (pc' := 227) X4 at_226 rfl (r := (own_ushr mode (5 : Int32))) rfl ?_
  refine own_iconst (pc' := 228) X4 at_227 rfl (z := (3 : Int32)) (by decide) ?_
  refine own_iand (pc' := 229) X4 at_228 rfl (r := ((own_ushr mode (5 : Int32)) &&& (3 : Int32))) rfl ?_
  generalize hkd : ((own_ushr mode (5 : Int32)) &&& (3 : Int32)) = kd
  refine own_istore (pc' := 231) X4 at_229 rfl (Ls' := #[.val (.int r1), .val (.int r2), .val (.long t1), .second, .val (.long t2), .second, .val (.int chars), .val (.int mode), .val (.int rb), .val (.long tb), .second, .val (.int ca0), .val (.int ca1), .val (.int cb0), .val (.int cb1), .val (.int cp), .val (.int lenA), .val (.int lenB), .val (.ref caA), .val (.ref cbA), .val (.ref ma), .val (.ref mb), .val (.ref a1), .val (.ref a3), .val (.int kd), .unset, .unset, .unset, .unset]) rfl ?_
  refine own_iload (pc' := 233) X4 at_231 rfl rfl ?_
  refine own_iconst (pc' := 234) X4 at_233 rfl (z := (1 : Int32)) (by decide) ?_
  by_cases hk : (1 : Int32) < kd
  · refine own_icmpY (pc' := 244) X4 at_234 ((tlt hk).2.2.1) (by decide) (by decide) ?_
    refine own_iload (pc' := 246) X4 at_244 rfl rfl ?_
    refine own_iconst (pc' := 247) X4 at_246 rfl (z := (2 : Int32)) (by decide) ?_
    by_cases h247 : kd = (2 : Int32)
    · refine own_icmpN (pc' := 250) X4 at_247 rfl ((teq h247).2) ?_
      refine own_aconst_null (pc' := 251) X4 at_250 rfl ?_
      refine own_astore (pc' := 253) X4 at_251 rfl rfl (Ls' := #[.val (.int r1), .val (.int r2), .val (.long t1), .second, .val (.long t2), .second, .val (.int chars), .val (.int mode), .val (.int rb), .val (.long tb), .second, .val (.int ca0), .val (.int ca1), .val (.int cb0), .val (.int cb1), .val (.int cp), .val (.int lenA), .val (.int lenB), .val (.ref caA), .val (.ref cbA), .val (.ref ma), .val (.ref mb), .val (.ref a1), .val (.ref a3), .val (.int kd), .val .null, .unset, .unset, .unset]) rfl ?_
      refine own_goto (pc' := 260) X4 at_253 (by decide) (by decide) ?_
      have f5 := ((E2.keep K3).keep K4)
      have ne_a1_a3 : a1 ≠ a3 := own_ne E1.lt (Nat.le_trans K2.1 (Nat.le_refl _)) (Nat.le_of_eq (Eq.symm g3))
      have f6 := ((Fa2.keep K3 nin0).keep K4 (ninS ne_a1_a3 nin0))
      have f7 := ((Fb2.keep K3 nin0).keep K4 (ninS ne_a1_a3 nin0))
      have f8 := ((Fc2.keep K3 nin0).keep K4 (ninS ne_a1_a3 nin0))
      have ne_ma_a1 : ma ≠ a1 := own_ne p_S1.lt (Nat.le_refl _) (Nat.le_of_eq (Eq.symm g1))
      have ne_tA_a1 : tA ≠ a1 := own_ne p_S1.ltt (Nat.le_refl _) (Nat.le_of_eq (Eq.symm g1))
      have ne_ma_a3 : ma ≠ a3 := own_ne p_S1.lt (Nat.le_trans K1.1 (Nat.le_trans K2.1 (Nat.le_refl _))) (Nat.le_of_eq (Eq.symm g3))
      have ne_tA_a3 : tA ≠ a3 := own_ne p_S1.ltt (Nat.le_trans K1.1 (Nat.le_trans K2.1 (Nat.le_refl _))) (Nat.le_of_eq (Eq.symm g3))
      have f9 := ((((p_S1.keep K1 nin0 nin0).keep K2 (ninS ne_ma_a1 nin0) (ninS ne_tA_a1 nin0)).keep K3 nin0 nin0).keep K4 (ninS ne_ma_a3 nin0) (ninS ne_tA_a3 nin0))
      have ne_mb_a1 : mb ≠ a1 := own_ne p_S2.lt (Nat.le_refl _) (Nat.le_of_eq (Eq.symm g1))
      have ne_tB_a1 : tB ≠ a1 := own_ne p_S2.ltt (Nat.le_refl _) (Nat.le_of_eq (Eq.symm g1))
      have ne_mb_a3 : mb ≠ a3 := own_ne p_S2.lt (Nat.le_trans K1.1 (Nat.le_trans K2.1 (Nat.le_refl _))) (Nat.le_of_eq (Eq.symm g3))
      have ne_tB_a3 : tB ≠ a3 := own_ne p_S2.ltt (Nat.le_trans K1.1 (Nat.le_trans K2.1 (Nat.le_refl _))) (Nat.le_of_eq (Eq.symm g3))
      have f10 := ((((p_S2.keep K1 nin0 nin0).keep K2 (ninS ne_mb_a1 nin0) (ninS ne_tB_a1 nin0)).keep K3 nin0 nin0).keep K4 (ninS ne_mb_a3 nin0) (ninS ne_tB_a3 nin0))
      exact own_260n hw r1 r2 t1 t2 chars mode rb tb ca0 ca1 cb0 cb1 cp lenA lenB caA cbA ma mb tA tB csA csB a1 a3 kd (own_mono X4 (by decide : 8 ≤ 8) (by decide : 22 ≤ 22)) hGe CS hAB f5 E4 f6 f7 f8 Fa4 Fb4 Fc4 f9 f10 hk
    · refine own_icmpY (pc' := 256) X4 at_247 ((feq h247).2) (by decide) (by decide) ?_
      refine own_aload (pc' := 258) X4 at_256 rfl rfl rfl ?_
      refine own_astore (pc' := 260) X4 at_258 rfl rfl (Ls' := #[.val (.int r1), .val (.int r2), .val (.long t1), .second, .val (.long t2), .second, .val (.int chars), .val (.int mode), .val (.int rb), .val (.long tb), .second, .val (.int ca0), .val (.int ca1), .val (.int cb0), .val (.int cb1), .val (.int cp), .val (.int lenA), .val (.int lenB), .val (.ref caA), .val (.ref cbA), .val (.ref ma), .val (.ref mb), .val (.ref a1), .val (.ref a3), .val (.int kd), .val (.ref mb), .unset, .unset, .unset]) rfl ?_
      have f11 := ((E2.keep K3).keep K4)
      have ne_a1_a3 : a1 ≠ a3 := own_ne E1.lt (Nat.le_trans K2.1 (Nat.le_refl _)) (Nat.le_of_eq (Eq.symm g3))
      have f12 := ((Fa2.keep K3 nin0).keep K4 (ninS ne_a1_a3 nin0))
      have f13 := ((Fb2.keep K3 nin0).keep K4 (ninS ne_a1_a3 nin0))
      have f14 := ((Fc2.keep K3 nin0).keep K4 (ninS ne_a1_a3 nin0))
      have ne_ma_a1 : ma ≠ a1 := own_ne p_S1.lt (Nat.le_refl _) (Nat.le_of_eq (Eq.symm g1))
      have ne_tA_a1 : tA ≠ a1 := own_ne p_S1.ltt (Nat.le_refl _) (Nat.le_of_eq (Eq.symm g1))
      have ne_ma_a3 : ma ≠ a3 := own_ne p_S1.lt (Nat.le_trans K1.1 (Nat.le_trans K2.1 (Nat.le_refl _))) (Nat.le_of_eq (Eq.symm g3))
      have ne_tA_a3 : tA ≠ a3 := own_ne p_S1.ltt (Nat.le_trans K1.1 (Nat.le_trans K2.1 (Nat.le_refl _))) (Nat.le_of_eq (Eq.symm g3))
      have f15 := ((((p_S1.keep K1 nin0 nin0).keep K2 (ninS ne_ma_a1 nin0) (ninS ne_tA_a1 nin0)).keep K3 nin0 nin0).keep K4 (ninS ne_ma_a3 nin0) (ninS ne_tA_a3 nin0))
      have ne_mb_a1 : mb ≠ a1 := own_ne p_S2.lt (Nat.le_refl _) (Nat.le_of_eq (Eq.symm g1))
      have ne_tB_a1 : tB ≠ a1 := own_ne p_S2.ltt (Nat.le_refl _) (Nat.le_of_eq (Eq.symm g1))
      have ne_mb_a3 : mb ≠ a3 := own_ne p_S2.lt (Nat.le_trans K1.1 (Nat.le_trans K2.1 (Nat.le_refl _))) (Nat.le_of_eq (Eq.symm g3))
      have ne_tB_a3 : tB ≠ a3 := own_ne p_S2.ltt (Nat.le_trans K1.1 (Nat.le_trans K2.1 (Nat.le_refl _))) (Nat.le_of_eq (Eq.symm g3))
      have f16 := ((((p_S2.keep K1 nin0 nin0).keep K2 (ninS ne_mb_a1 nin0) (ninS ne_tB_a1 nin0)).keep K3 nin0 nin0).keep K4 (ninS ne_mb_a3 nin0) (ninS ne_tB_a3 nin0))
      exact own_260m hw r1 r2 t1 t2 chars mode rb tb ca0 ca1 cb0 cb1 cp lenA lenB caA cbA ma mb tA tB csA csB a1 a3 kd (own_mono X4 (by decide : 8 ≤ 8) (by decide : 22 ≤ 22)) hGe CS hAB f11 E4 f12 f13 f14 Fa4 Fb4 Fc4 f15 f16 hk
  · refine own_icmpN (pc' := 237) X4 at_234 rfl ((flt hk).2.2.1) ?_
    refine own_aload (pc' := 239) X4 at_237 rfl rfl rfl ?_
    refine own_astore (pc' := 241) X4 at_239 rfl rfl (Ls' := #[.val (.int r1), .val (.int r2), .val (.long t1), .second, .val (.long t2), .second, .val (.int chars), .val (.int mode), .val (.int rb), .val (.long tb), .second, .val (.int ca0), .val (.int ca1), .val (.int cb0), .val (.int cb1), .val (.int cp), .val (.int lenA), .val (.int lenB), .val (.ref caA), .val (.ref cbA), .val (.ref ma), .val (.ref mb), .val (.ref a1), .val (.ref a3), .val (.int kd), .val (.ref a3), .unset, .unset, .unset]) rfl ?_
    refine own_goto (pc' := 260) X4 at_241 (by decide) (by decide) ?_
    have f17 := ((E2.keep K3).keep K4)
    have ne_a1_a3 : a1 ≠ a3 := own_ne E1.lt (Nat.le_trans K2.1 (Nat.le_refl _)) (Nat.le_of_eq (Eq.symm g3))
    have f18 := ((Fa2.keep K3 nin0).keep K4 (ninS ne_a1_a3 nin0))
    have f19 := ((Fb2.keep K3 nin0).keep K4 (ninS ne_a1_a3 nin0))
    have f20 := ((Fc2.keep K3 nin0).keep K4 (ninS ne_a1_a3 nin0))
    have ne_ma_a1 : ma ≠ a1 := own_ne p_S1.lt (Nat.le_refl _) (Nat.le_of_eq (Eq.symm g1))
    have ne_tA_a1 : tA ≠ a1 := own_ne p_S1.ltt (Nat.le_refl _) (Nat.le_of_eq (Eq.symm g1))
    have ne_ma_a3 : ma ≠ a3 := own_ne p_S1.lt (Nat.le_trans K1.1 (Nat.le_trans K2.1 (Nat.le_refl _))) (Nat.le_of_eq (Eq.symm g3))
    have ne_tA_a3 : tA ≠ a3 := own_ne p_S1.ltt (Nat.le_trans K1.1 (Nat.le_trans K2.1 (Nat.le_refl _))) (Nat.le_of_eq (Eq.symm g3))
    have f21 := ((((p_S1.keep K1 nin0 nin0).keep K2 (ninS ne_ma_a1 nin0) (ninS ne_tA_a1 nin0)).keep K3 nin0 nin0).keep K4 (ninS ne_ma_a3 nin0) (ninS ne_tA_a3 nin0))
    have ne_mb_a1 : mb ≠ a1 := own_ne p_S2.lt (Nat.le_refl _) (Nat.le_of_eq (Eq.symm g1))
    have ne_tB_a1 : tB ≠ a1 := own_ne p_S2.ltt (Nat.le_refl _) (Nat.le_of_eq (Eq.symm g1))
    have ne_mb_a3 : mb ≠ a3 := own_ne p_S2.lt (Nat.le_trans K1.1 (Nat.le_trans K2.1 (Nat.le_refl _))) (Nat.le_of_eq (Eq.symm g3))
    have ne_tB_a3 : tB ≠ a3 := own_ne p_S2.ltt (Nat.le_trans K1.1 (Nat.le_trans K2.1 (Nat.le_refl _))) (Nat.le_of_eq (Eq.symm g3))
    have f22 := ((((p_S2.keep K1 nin0 nin0).keep K2 (ninS ne_mb_a1 nin0) (ninS ne_tB_a1 nin0)).keep K3 nin0 nin0).keep K4 (ninS ne_mb_a3 nin0) (ninS ne_tB_a3 nin0))
    exact own_260y hw r1 r2 t1 t2 chars mode rb tb ca0 ca1 cb0 cb1 cp lenA lenB caA cbA ma mb tA tB csA csB a1 a3 kd (own_mono X4 (by decide : 8 ≤ 8) (by decide : 22 ≤ 22)) hGe CS hAB f17 E4 f18 f19 f20 Fa4 Fb4 Fc4 f21 f22 hk
theorem pd_2 : parseMethodDescriptor "([C)V" = some ⟨[(.array .char)], none⟩ := by decide +kernel
set_option maxRecDepth 65536 in
set_option maxHeartbeats 40000000 in
theorem own_125 {G : State → JFrame → Prop} {p : Program} {l : Launch} {e : Env} {s : State} {m : MethodId} {args : Array Value} {below : List Frame} {meth : Method} {c : Code} {Z : State} {a0 : Array Value} {n0 : Nat} {T0 : State} {h0 : Heap} (hw : ∀ d ∈ tables_1, d.before a0 Z = true) (r1 r2 : Int32) (t1 t2 : Int64) (chars mode : Int32) (rb : Int32) (tb : Int64) (ca0 ca1 cb0 cb1 cp lenA lenB : Int32)
    (X0 : own_At G p l e room_1 s m args below meth c Z n0 "com/example/darja/darja/StandingEqualsPinLaw" "law" code maxLocals ret T0 h0 0 0) (hGe : G = own_Fin p e below s Z n0 (fun v h => v = some (.int 1)) room_1.cells room_1.slots) (CS : own_CS Z) (hA : lenA = 1 ∨ lenA = 2) (hB : lenB = 1 ∨ lenB = 2) (h_ca0 : ¬ ca0 < 0 ∧ ¬ (255 : Int32) < ca0) (h_ca1 : ¬ ca1 < 0 ∧ ¬ (255 : Int32) < ca1) (h_cb0 : ¬ cb0 < 0 ∧ ¬ (255 : Int32) < cb0) (h_cb1 : ¬ cb1 < 0 ∧ ¬ (255 : Int32) < cb1) :
    G T0 (mkF m 125 #[.val (.int r1), .val (.int r2), .val (.long t1), .second, .val (.long t2), .second, .val (.int chars), .val (.int mode), .val (.int rb), .val (.long tb), .second, .val (.int ca0), .val (.int ca1), .val (.int cb0), .val (.int cb1), .val (.int cp), .val (.int lenA), .val (.int lenB), .unset, .unset, .unset, .unset, .unset, .unset, .unset, .unset, .unset, .unset, .unset] []) := by
  have W : ∀ (k : Nat) {d : Jvm.Cond}, tables_1[k]? = some d → d.before a0 Z = true := fun k d q => hw d (List.mem_of_getElem? q)
  rcases hA with rfl | rfl <;> rcases hB with rfl | rfl
  · refine own_iload (pc' := 127) X0 at_125 rfl rfl ?_
    refine own_newarray (pc' := 129) (cells' := 1) (slots' := 1) (n := 1) (cap := 1) (dv := (.int 0)) X0 (W 0 rfl) rfl rfl (by decide) (by decide) at_127 rfl rfl (by decide) (by decide) rfl (by decide) (by decide) ?_
    intro T1 h1 a1 k1 g1 X1 K1 A1
    have n_a1 : n0 ≤ a1 := by rw [g1]; exact own_n0 X0
    have A1' : own_Arr Z h1 a1 k1 .char [(.int 0)] := A1
    refine own_astore (pc' := 131) X1 at_129 rfl rfl (Ls' := #[.val (.int r1), .val (.int r2), .val (.long t1), .second, .val (.long t2), .second, .val (.int chars), .val (.int mode), .val (.int rb), .val (.long tb), .second, .val (.int ca0), .val (.int ca1), .val (.int cb0), .val (.int cb1), .val (.int cp), .val (.int (1 : Int32)), .val (.int (1 : Int32)), .val (.ref a1), .unset, .unset, .unset, .unset, .unset, .unset, .unset, .unset, .unset, .unset]) rfl ?_
    refine own_aload (pc' := 133) X1 at_131 rfl rfl rfl ?_
    refine own_iconst (pc' := 134) X1 at_133 rfl (z := (0 : Int32)) (by decide) ?_
    refine own_iload (pc' := 136) X1 at_134 rfl rfl ?_
    refine own_castore (pc' := 137) (i := 0) (y := ca0) X1 A1' (by decide) (Nat.le_of_ble_eq_true rfl) (own_narb h_ca0) n_a1 at_136 rfl ?_
    intro T2 h2 X2 K2 A2
    have A2' : own_Arr Z h2 a1 k1 .char [(.int ca0)] := A2
    refine own_iload (pc' := 139) X2 at_137 rfl rfl ?_
    refine own_iconst (pc' := 140) X2 at_139 rfl (z := (2 : Int32)) (by decide) ?_
    refine own_icmpY (pc' := 149) X2 at_140 ((feq (by decide)).2) (by decide) (by decide) ?_
    refine own_iload (pc' := 151) X2 at_149 rfl rfl ?_
    refine own_newarray (pc' := 153) (cells' := 2) (slots' := 2) (n := 1) (cap := 1) (dv := (.int 0)) X2 (W 0 rfl) rfl rfl (by decide) (by decide) at_151 rfl rfl (by decide) (by decide) rfl (by decide) (by decide) ?_
    intro T3 h3 a3 k3 g3 X3 K3 A3
    have n_a3 : n0 ≤ a3 := by rw [g3]; exact own_n0 X2
    have A3' : own_Arr Z h3 a3 k3 .char [(.int 0)] := A3
    refine own_astore (pc' := 155) X3 at_153 rfl rfl (Ls' := #[.val (.int r1), .val (.int r2), .val (.long t1), .second, .val (.long t2), .second, .val (.int chars), .val (.int mode), .val (.int rb), .val (.long tb), .second, .val (.int ca0), .val (.int ca1), .val (.int cb0), .val (.int cb1), .val (.int cp), .val (.int (1 : Int32)), .val (.int (1 : Int32)), .val (.ref a1), .val (.ref a3), .unset, .unset, .unset, .unset, .unset, .unset, .unset, .unset, .unset]) rfl ?_
    refine own_aload (pc' := 157) X3 at_155 rfl rfl rfl ?_
    refine own_iconst (pc' := 158) X3 at_157 rfl (z := (0 : Int32)) (by decide) ?_
    refine own_iload (pc' := 160) X3 at_158 rfl rfl ?_
    refine own_castore (pc' := 161) (i := 0) (y := cb0) X3 A3' (by decide) (Nat.le_of_ble_eq_true rfl) (own_narb h_cb0) n_a3 at_160 rfl ?_
    intro T4 h4 X4 K4 A4
    have A4' : own_Arr Z h4 a3 k3 .char [(.int cb0)] := A4
    refine own_iload (pc' := 163) X4 at_161 rfl rfl ?_
    refine own_iconst (pc' := 164) X4 at_163 rfl (z := (2 : Int32)) (by decide) ?_
    refine own_icmpY (pc' := 173) X4 at_164 ((feq (by decide)).2) (by decide) (by decide) ?_
    refine own_new (pc' := 176) (cells' := 3) (slots' := 6) X4 (W 1 rfl) (W 2 rfl) (W 3 rfl) at_173 rfl rfl rfl (by decide) (by decide) ?_
    intro T5 h5 a5 g5 X5 K5 E5 D5 U5
    have n_a5 : n0 ≤ a5 := by rw [g5]; exact own_n0 X4
    have F5_coder : Fld Z h5 a5 "java/lang/String" "coder" "B" (.int (0 : Int32)) := D5 (Or.inr (W 27 rfl)) (ty := .byte) (by decide)
    have F5_value : Fld Z h5 a5 "java/lang/String" "value" "[B" .null := D5 (Or.inr (W 29 rfl)) (ty := (.array .byte)) (by decide)
    refine own_dup (pc' := 177) X5 at_176 rfl rfl ?_
    refine own_aload (pc' := 179) X5 at_177 rfl rfl rfl ?_
    have ne_a1_a3 : a1 ≠ a3 := own_ne A1'.lt (Nat.le_trans K2.1 (Nat.le_refl _)) (Nat.le_of_eq (Eq.symm g3))
    have f6 := (((A2'.keep K3 nin0).keep K4 (ninS ne_a1_a3 nin0)).keep K5 nin0)
    refine own_strinit (pc' := 182) (cells' := 4) (slots' := 7) (W := 1) (n := 1) (cs := [ca0]) X5 (fun d hd => hw d (own_in_words d hd)) CS (W 4 rfl) (W 5 rfl) (W 6 rfl) (W 2 rfl) E5 F5_value F5_coder f6 n_a5 rfl (by decide) (by decide) (own_aS h_ca0 own_a0) (by decide) (by decide) (lenOf (L := [.ref a1]) pd_2 rfl) rfl rfl at_179 rfl rfl rfl (by decide) (by decide) ?_
    intro T7 h7 t7 X7 K7 z7 S7
    refine own_astore (pc' := 184) X7 at_182 rfl rfl (Ls' := #[.val (.int r1), .val (.int r2), .val (.long t1), .second, .val (.long t2), .second, .val (.int chars), .val (.int mode), .val (.int rb), .val (.long tb), .second, .val (.int ca0), .val (.int ca1), .val (.int cb0), .val (.int cb1), .val (.int cp), .val (.int (1 : Int32)), .val (.int (1 : Int32)), .val (.ref a1), .val (.ref a3), .val (.ref a5), .unset, .unset, .unset, .unset, .unset, .unset, .unset, .unset]) rfl ?_
    refine own_new (pc' := 187) (cells' := 5) (slots' := 11) X7 (W 1 rfl) (W 2 rfl) (W 3 rfl) at_184 rfl rfl rfl (by decide) (by decide) ?_
    intro T8 h8 a8 g8 X8 K8 E8 D8 U8
    have n_a8 : n0 ≤ a8 := by rw [g8]; exact own_n0 X7
    have F8_coder : Fld Z h8 a8 "java/lang/String" "coder" "B" (.int (0 : Int32)) := D8 (Or.inr (W 27 rfl)) (ty := .byte) (by decide)
    have F8_value : Fld Z h8 a8 "java/lang/String" "value" "[B" .null := D8 (Or.inr (W 29 rfl)) (ty := (.array .byte)) (by decide)
    refine own_dup (pc' := 188) X8 at_187 rfl rfl ?_
    refine own_aload (pc' := 190) X8 at_188 rfl rfl rfl ?_
    have ne_a3_a5 : a3 ≠ a5 := own_ne A3'.lt (Nat.le_trans K4.1 (Nat.le_refl _)) (Nat.le_of_eq (Eq.symm g5))
    have f9 := (((A4'.keep K5 nin0).keep K7 (ninS ne_a3_a5 nin0)).keep K8 nin0)
    refine own_strinit (pc' := 193) (cells' := 6) (slots' := 12) (W := 1) (n := 1) (cs := [cb0]) X8 (fun d hd => hw d (own_in_words d hd)) CS (W 4 rfl) (W 5 rfl) (W 6 rfl) (W 2 rfl) E8 F8_value F8_coder f9 n_a8 rfl (by decide) (by decide) (own_aS h_cb0 own_a0) (by decide) (by decide) (lenOf (L := [.ref a3]) pd_2 rfl) rfl rfl at_190 rfl rfl rfl (by decide) (by decide) ?_
    intro T10 h10 t10 X10 K10 z10 S10
    refine own_astore (pc' := 195) X10 at_193 rfl rfl (Ls' := #[.val (.int r1), .val (.int r2), .val (.long t1), .second, .val (.long t2), .second, .val (.int chars), .val (.int mode), .val (.int rb), .val (.long tb), .second, .val (.int ca0), .val (.int ca1), .val (.int cb0), .val (.int cb1), .val (.int cp), .val (.int (1 : Int32)), .val (.int (1 : Int32)), .val (.ref a1), .val (.ref a3), .val (.ref a5), .val (.ref a8), .unset, .unset, .unset, .unset, .unset, .unset, .unset]) rfl ?_
    have ne_a5_a8 : a5 ≠ a8 := own_ne E5.lt (Nat.le_trans K7.1 (Nat.le_refl _)) (Nat.le_of_eq (Eq.symm g8))
    have ne_t7_a8 : t7 ≠ a8 := own_ne S7.ltt (Nat.le_refl _) (Nat.le_of_eq (Eq.symm g8))
    have f11 := ((S7.keep K8 nin0 nin0).keep K10 (ninS ne_a5_a8 nin0) (ninS ne_t7_a8 nin0))
    exact own_195 hw r1 r2 t1 t2 chars mode rb tb ca0 ca1 cb0 cb1 cp (1 : Int32) (1 : Int32) a1 a3 a5 a8 t7 t10 [ca0] [cb0] (own_mono X10 (by decide : 6 ≤ 6) (by decide : 12 ≤ 16)) hGe CS (by simp) f11 S10
  · refine own_iload (pc' := 127) X0 at_125 rfl rfl ?_
    refine own_newarray (pc' := 129) (cells' := 1) (slots' := 1) (n := 1) (cap := 1) (dv := (.int 0)) X0 (W 0 rfl) rfl rfl (by decide) (by decide) at_127 rfl rfl (by decide) (by decide) rfl (by decide) (by decide) ?_
    intro T12 h12 a12 k12 g12 X12 K12 A12
    have n_a12 : n0 ≤ a12 := by rw [g12]; exact own_n0 X0
    have A12' : own_Arr Z h12 a12 k12 .char [(.int 0)] := A12
    refine own_astore (pc' := 131) X12 at_129 rfl rfl (Ls' := #[.val (.int r1), .val (.int r2), .val (.long t1), .second, .val (.long t2), .second, .val (.int chars), .val (.int mode), .val (.int rb), .val (.long tb), .second, .val (.int ca0), .val (.int ca1), .val (.int cb0), .val (.int cb1), .val (.int cp), .val (.int (1 : Int32)), .val (.int (2 : Int32)), .val (.ref a12), .unset, .unset, .unset, .unset, .unset, .unset, .unset, .unset, .unset, .unset]) rfl ?_
    refine own_aload (pc' := 133) X12 at_131 rfl rfl rfl ?_
    refine own_iconst (pc' := 134) X12 at_133 rfl (z := (0 : Int32)) (by decide) ?_
    refine own_iload (pc' := 136) X12 at_134 rfl rfl ?_
    refine own_castore (pc' := 137) (i := 0) (y := ca0) X12 A12' (by decide) (Nat.le_of_ble_eq_true rfl) (own_narb h_ca0) n_a12 at_136 rfl ?_
    intro T13 h13 X13 K13 A13
    have A13' : own_Arr Z h13 a12 k12 .char [(.int ca0)] := A13
    refine own_iload (pc' := 139) X13 at_137 rfl rfl ?_
    refine own_iconst (pc' := 140) X13 at_139 rfl (z := (2 : Int32)) (by decide) ?_
    refine own_icmpY (pc' := 149) X13 at_140 ((feq (by decide)).2) (by decide) (by decide) ?_
    refine own_iload (pc' := 151) X13 at_149 rfl rfl ?_
    refine own_newarray (pc' := 153) (cells' := 2) (slots' := 3) (n := 2) (cap := 2) (dv := (.int 0)) X13 (W 0 rfl) rfl rfl (by decide) (by decide) at_151 rfl rfl (by decide) (by decide) rfl (by decide) (by decide) ?_
    intro T14 h14 a14 k14 g14 X14 K14 A14
    have n_a14 : n0 ≤ a14 := by rw [g14]; exact own_n0 X13
    have A14' : own_Arr Z h14 a14 k14 .char [(.int 0), (.int 0)] := A14
    refine own_astore (pc' := 155) X14 at_153 rfl rfl (Ls' := #[.val (.int r1), .val (.int r2), .val (.long t1), .second, .val (.long t2), .second, .val (.int chars), .val (.int mode), .val (.int rb), .val (.long tb), .second, .val (.int ca0), .val (.int ca1), .val (.int cb0), .val (.int cb1), .val (.int cp), .val (.int (1 : Int32)), .val (.int (2 : Int32)), .val (.ref a12), .val (.ref a14), .unset, .unset, .unset, .unset, .unset, .unset, .unset, .unset, .unset]) rfl ?_
    refine own_aload (pc' := 157) X14 at_155 rfl rfl rfl ?_
    refine own_iconst (pc' := 158) X14 at_157 rfl (z := (0 : Int32)) (by decide) ?_
    refine own_iload (pc' := 160) X14 at_158 rfl rfl ?_
    refine own_castore (pc' := 161) (i := 0) (y := cb0) X14 A14' (by decide) (Nat.le_of_ble_eq_true rfl) (own_narb h_cb0) n_a14 at_160 rfl ?_
    intro T15 h15 X15 K15 A15
    have A15' : own_Arr Z h15 a14 k14 .char [(.int cb0), (.int 0)] := A15
    refine own_iload (pc' := 163) X15 at_161 rfl rfl ?_
    refine own_iconst (pc' := 164) X15 at_163 rfl (z := (2 : Int32)) (by decide) ?_
    refine own_icmpN (pc' := 167) X15 at_164 rfl ((teq rfl).2) ?_
    refine own_aload (pc' := 169) X15 at_167 rfl rfl rfl ?_
    refine own_iconst (pc' := 170) X15 at_169 rfl (z := (1 : Int32)) (by decide) ?_
    refine own_iload (pc' := 172) X15 at_170 rfl rfl ?_
    refine own_castore (pc' := 173) (i := 1) (y := cb1) X15 A15' (by decide) (Nat.le_of_ble_eq_true rfl) (own_narb h_cb1) n_a14 at_172 rfl ?_
    intro T16 h16 X16 K16 A16
    have A16' : own_Arr Z h16 a14 k14 .char [(.int cb0), (.int cb1)] := A16
    refine own_new (pc' := 176) (cells' := 3) (slots' := 7) X16 (W 1 rfl) (W 2 rfl) (W 3 rfl) at_173 rfl rfl rfl (by decide) (by decide) ?_
    intro T17 h17 a17 g17 X17 K17 E17 D17 U17
    have n_a17 : n0 ≤ a17 := by rw [g17]; exact own_n0 X16
    have F17_coder : Fld Z h17 a17 "java/lang/String" "coder" "B" (.int (0 : Int32)) := D17 (Or.inr (W 27 rfl)) (ty := .byte) (by decide)
    have F17_value : Fld Z h17 a17 "java/lang/String" "value" "[B" .null := D17 (Or.inr (W 29 rfl)) (ty := (.array .byte)) (by decide)
    refine own_dup (pc' := 177) X17 at_176 rfl rfl ?_
    refine own_aload (pc' := 179) X17 at_177 rfl rfl rfl ?_
    have ne_a12_a14 : a12 ≠ a14 := own_ne A12'.lt (Nat.le_trans K13.1 (Nat.le_refl _)) (Nat.le_of_eq (Eq.symm g14))
    have f18 := ((((A13'.keep K14 nin0).keep K15 (ninS ne_a12_a14 nin0)).keep K16 (ninS ne_a12_a14 nin0)).keep K17 nin0)
    refine own_strinit (pc' := 182) (cells' := 4) (slots' := 8) (W := 1) (n := 1) (cs := [ca0]) X17 (fun d hd => hw d (own_in_words d hd)) CS (W 4 rfl) (W 5 rfl) (W 6 rfl) (W 2 rfl) E17 F17_value F17_coder f18 n_a17 rfl (by decide) (by decide) (own_aS h_ca0 own_a0) (by decide) (by decide) (lenOf (L := [.ref a12]) pd_2 rfl) rfl rfl at_179 rfl rfl rfl (by decide) (by decide) ?_
    intro T19 h19 t19 X19 K19 z19 S19
    refine own_astore (pc' := 184) X19 at_182 rfl rfl (Ls' := #[.val (.int r1), .val (.int r2), .val (.long t1), .second, .val (.long t2), .second, .val (.int chars), .val (.int mode), .val (.int rb), .val (.long tb), .second, .val (.int ca0), .val (.int ca1), .val (.int cb0), .val (.int cb1), .val (.int cp), .val (.int (1 : Int32)), .val (.int (2 : Int32)), .val (.ref a12), .val (.ref a14), .val (.ref a17), .unset, .unset, .unset, .unset, .unset, .unset, .unset, .unset]) rfl ?_
    refine own_new (pc' := 187) (cells' := 5) (slots' := 12) X19 (W 1 rfl) (W 2 rfl) (W 3 rfl) at_184 rfl rfl rfl (by decide) (by decide) ?_
    intro T20 h20 a20 g20 X20 K20 E20 D20 U20
    have n_a20 : n0 ≤ a20 := by rw [g20]; exact own_n0 X19
    have F20_coder : Fld Z h20 a20 "java/lang/String" "coder" "B" (.int (0 : Int32)) := D20 (Or.inr (W 27 rfl)) (ty := .byte) (by decide)
    have F20_value : Fld Z h20 a20 "java/lang/String" "value" "[B" .null := D20 (Or.inr (W 29 rfl)) (ty := (.array .byte)) (by decide)
    refine own_dup (pc' := 188) X20 at_187 rfl rfl ?_
    refine own_aload (pc' := 190) X20 at_188 rfl rfl rfl ?_
    have ne_a14_a17 : a14 ≠ a17 := own_ne A14'.lt (Nat.le_trans K15.1 (Nat.le_trans K16.1 (Nat.le_refl _))) (Nat.le_of_eq (Eq.symm g17))
    have f21 := (((A16'.keep K17 nin0).keep K19 (ninS ne_a14_a17 nin0)).keep K20 nin0)
    refine own_strinit (pc' := 193) (cells' := 6) (slots' := 14) (W := 1) (n := 2) (cs := [cb0, cb1]) X20 (fun d hd => hw d (own_in_words d hd)) CS (W 4 rfl) (W 5 rfl) (W 6 rfl) (W 2 rfl) E20 F20_value F20_coder f21 n_a20 rfl (by decide) (by decide) (own_aS h_cb0 (own_aS h_cb1 own_a0)) (by decide) (by decide) (lenOf (L := [.ref a14]) pd_2 rfl) rfl rfl at_190 rfl rfl rfl (by decide) (by decide) ?_
    intro T22 h22 t22 X22 K22 z22 S22
    refine own_astore (pc' := 195) X22 at_193 rfl rfl (Ls' := #[.val (.int r1), .val (.int r2), .val (.long t1), .second, .val (.long t2), .second, .val (.int chars), .val (.int mode), .val (.int rb), .val (.long tb), .second, .val (.int ca0), .val (.int ca1), .val (.int cb0), .val (.int cb1), .val (.int cp), .val (.int (1 : Int32)), .val (.int (2 : Int32)), .val (.ref a12), .val (.ref a14), .val (.ref a17), .val (.ref a20), .unset, .unset, .unset, .unset, .unset, .unset, .unset]) rfl ?_
    have ne_a17_a20 : a17 ≠ a20 := own_ne E17.lt (Nat.le_trans K19.1 (Nat.le_refl _)) (Nat.le_of_eq (Eq.symm g20))
    have ne_t19_a20 : t19 ≠ a20 := own_ne S19.ltt (Nat.le_refl _) (Nat.le_of_eq (Eq.symm g20))
    have f23 := ((S19.keep K20 nin0 nin0).keep K22 (ninS ne_a17_a20 nin0) (ninS ne_t19_a20 nin0))
    exact own_195 hw r1 r2 t1 t2 chars mode rb tb ca0 ca1 cb0 cb1 cp (1 : Int32) (2 : Int32) a12 a14 a17 a20 t19 t22 [ca0] [cb0, cb1] (own_mono X22 (by decide : 6 ≤ 6) (by decide : 14 ≤ 16)) hGe CS (by simp) f23 S22
  · refine own_iload (pc' := 127) X0 at_125 rfl rfl ?_
    refine own_newarray (pc' := 129) (cells' := 1) (slots' := 2) (n := 2) (cap := 2) (dv := (.int 0)) X0 (W 0 rfl) rfl rfl (by decide) (by decide) at_127 rfl rfl (by decide) (by decide) rfl (by decide) (by decide) ?_
    intro T24 h24 a24 k24 g24 X24 K24 A24
    have n_a24 : n0 ≤ a24 := by rw [g24]; exact own_n0 X0
    have A24' : own_Arr Z h24 a24 k24 .char [(.int 0), (.int 0)] := A24
    refine own_astore (pc' := 131) X24 at_129 rfl rfl (Ls' := #[.val (.int r1), .val (.int r2), .val (.long t1), .second, .val (.long t2), .second, .val (.int chars), .val (.int mode), .val (.int rb), .val (.long tb), .second, .val (.int ca0), .val (.int ca1), .val (.int cb0), .val (.int cb1), .val (.int cp), .val (.int (2 : Int32)), .val (.int (1 : Int32)), .val (.ref a24), .unset, .unset, .unset, .unset, .unset, .unset, .unset, .unset, .unset, .unset]) rfl ?_
    refine own_aload (pc' := 133) X24 at_131 rfl rfl rfl ?_
    refine own_iconst (pc' := 134) X24 at_133 rfl (z := (0 : Int32)) (by decide) ?_
    refine own_iload (pc' := 136) X24 at_134 rfl rfl ?_
    refine own_castore (pc' := 137) (i := 0) (y := ca0) X24 A24' (by decide) (Nat.le_of_ble_eq_true rfl) (own_narb h_ca0) n_a24 at_136 rfl ?_
    intro T25 h25 X25 K25 A25
    have A25' : own_Arr Z h25 a24 k24 .char [(.int ca0), (.int 0)] := A25
    refine own_iload (pc' := 139) X25 at_137 rfl rfl ?_
    refine own_iconst (pc' := 140) X25 at_139 rfl (z := (2 : Int32)) (by decide) ?_
    refine own_icmpN (pc' := 143) X25 at_140 rfl ((teq rfl).2) ?_
    refine own_aload (pc' := 145) X25 at_143 rfl rfl rfl ?_
    refine own_iconst (pc' := 146) X25 at_145 rfl (z := (1 : Int32)) (by decide) ?_
    refine own_iload (pc' := 148) X25 at_146 rfl rfl ?_
    refine own_castore (pc' := 149) (i := 1) (y := ca1) X25 A25' (by decide) (Nat.le_of_ble_eq_true rfl) (own_narb h_ca1) n_a24 at_148 rfl ?_
    intro T26 h26 X26 K26 A26
    have A26' : own_Arr Z h26 a24 k24 .char [(.int ca0), (.int ca1)] := A26
    refine own_iload (pc' := 151) X26 at_149 rfl rfl ?_
    refine own_newarray (pc' := 153) (cells' := 2) (slots' := 3) (n := 1) (cap := 1) (dv := (.int 0)) X26 (W 0 rfl) rfl rfl (by decide) (by decide) at_151 rfl rfl (by decide) (by decide) rfl (by decide) (by decide) ?_
    intro T27 h27 a27 k27 g27 X27 K27 A27
    have n_a27 : n0 ≤ a27 := by rw [g27]; exact own_n0 X26
    have A27' : own_Arr Z h27 a27 k27 .char [(.int 0)] := A27
    refine own_astore (pc' := 155) X27 at_153 rfl rfl (Ls' := #[.val (.int r1), .val (.int r2), .val (.long t1), .second, .val (.long t2), .second, .val (.int chars), .val (.int mode), .val (.int rb), .val (.long tb), .second, .val (.int ca0), .val (.int ca1), .val (.int cb0), .val (.int cb1), .val (.int cp), .val (.int (2 : Int32)), .val (.int (1 : Int32)), .val (.ref a24), .val (.ref a27), .unset, .unset, .unset, .unset, .unset, .unset, .unset, .unset, .unset]) rfl ?_
    refine own_aload (pc' := 157) X27 at_155 rfl rfl rfl ?_
    refine own_iconst (pc' := 158) X27 at_157 rfl (z := (0 : Int32)) (by decide) ?_
    refine own_iload (pc' := 160) X27 at_158 rfl rfl ?_
    refine own_castore (pc' := 161) (i := 0) (y := cb0) X27 A27' (by decide) (Nat.le_of_ble_eq_true rfl) (own_narb h_cb0) n_a27 at_160 rfl ?_
    intro T28 h28 X28 K28 A28
    have A28' : own_Arr Z h28 a27 k27 .char [(.int cb0)] := A28
    refine own_iload (pc' := 163) X28 at_161 rfl rfl ?_
    refine own_iconst (pc' := 164) X28 at_163 rfl (z := (2 : Int32)) (by decide) ?_
    refine own_icmpY (pc' := 173) X28 at_164 ((feq (by decide)).2) (by decide) (by decide) ?_
    refine own_new (pc' := 176) (cells' := 3) (slots' := 7) X28 (W 1 rfl) (W 2 rfl) (W 3 rfl) at_173 rfl rfl rfl (by decide) (by decide) ?_
    intro T29 h29 a29 g29 X29 K29 E29 D29 U29
    have n_a29 : n0 ≤ a29 := by rw [g29]; exact own_n0 X28
    have F29_coder : Fld Z h29 a29 "java/lang/String" "coder" "B" (.int (0 : Int32)) := D29 (Or.inr (W 27 rfl)) (ty := .byte) (by decide)
    have F29_value : Fld Z h29 a29 "java/lang/String" "value" "[B" .null := D29 (Or.inr (W 29 rfl)) (ty := (.array .byte)) (by decide)
    refine own_dup (pc' := 177) X29 at_176 rfl rfl ?_
    refine own_aload (pc' := 179) X29 at_177 rfl rfl rfl ?_
    have ne_a24_a27 : a24 ≠ a27 := own_ne A24'.lt (Nat.le_trans K25.1 (Nat.le_trans K26.1 (Nat.le_refl _))) (Nat.le_of_eq (Eq.symm g27))
    have f30 := (((A26'.keep K27 nin0).keep K28 (ninS ne_a24_a27 nin0)).keep K29 nin0)
    refine own_strinit (pc' := 182) (cells' := 4) (slots' := 9) (W := 1) (n := 2) (cs := [ca0, ca1]) X29 (fun d hd => hw d (own_in_words d hd)) CS (W 4 rfl) (W 5 rfl) (W 6 rfl) (W 2 rfl) E29 F29_value F29_coder f30 n_a29 rfl (by decide) (by decide) (own_aS h_ca0 (own_aS h_ca1 own_a0)) (by decide) (by decide) (lenOf (L := [.ref a24]) pd_2 rfl) rfl rfl at_179 rfl rfl rfl (by decide) (by decide) ?_
    intro T31 h31 t31 X31 K31 z31 S31
    refine own_astore (pc' := 184) X31 at_182 rfl rfl (Ls' := #[.val (.int r1), .val (.int r2), .val (.long t1), .second, .val (.long t2), .second, .val (.int chars), .val (.int mode), .val (.int rb), .val (.long tb), .second, .val (.int ca0), .val (.int ca1), .val (.int cb0), .val (.int cb1), .val (.int cp), .val (.int (2 : Int32)), .val (.int (1 : Int32)), .val (.ref a24), .val (.ref a27), .val (.ref a29), .unset, .unset, .unset, .unset, .unset, .unset, .unset, .unset]) rfl ?_
    refine own_new (pc' := 187) (cells' := 5) (slots' := 13) X31 (W 1 rfl) (W 2 rfl) (W 3 rfl) at_184 rfl rfl rfl (by decide) (by decide) ?_
    intro T32 h32 a32 g32 X32 K32 E32 D32 U32
    have n_a32 : n0 ≤ a32 := by rw [g32]; exact own_n0 X31
    have F32_coder : Fld Z h32 a32 "java/lang/String" "coder" "B" (.int (0 : Int32)) := D32 (Or.inr (W 27 rfl)) (ty := .byte) (by decide)
    have F32_value : Fld Z h32 a32 "java/lang/String" "value" "[B" .null := D32 (Or.inr (W 29 rfl)) (ty := (.array .byte)) (by decide)
    refine own_dup (pc' := 188) X32 at_187 rfl rfl ?_
    refine own_aload (pc' := 190) X32 at_188 rfl rfl rfl ?_
    have ne_a27_a29 : a27 ≠ a29 := own_ne A27'.lt (Nat.le_trans K28.1 (Nat.le_refl _)) (Nat.le_of_eq (Eq.symm g29))
    have f33 := (((A28'.keep K29 nin0).keep K31 (ninS ne_a27_a29 nin0)).keep K32 nin0)
    refine own_strinit (pc' := 193) (cells' := 6) (slots' := 14) (W := 1) (n := 1) (cs := [cb0]) X32 (fun d hd => hw d (own_in_words d hd)) CS (W 4 rfl) (W 5 rfl) (W 6 rfl) (W 2 rfl) E32 F32_value F32_coder f33 n_a32 rfl (by decide) (by decide) (own_aS h_cb0 own_a0) (by decide) (by decide) (lenOf (L := [.ref a27]) pd_2 rfl) rfl rfl at_190 rfl rfl rfl (by decide) (by decide) ?_
    intro T34 h34 t34 X34 K34 z34 S34
    refine own_astore (pc' := 195) X34 at_193 rfl rfl (Ls' := #[.val (.int r1), .val (.int r2), .val (.long t1), .second, .val (.long t2), .second, .val (.int chars), .val (.int mode), .val (.int rb), .val (.long tb), .second, .val (.int ca0), .val (.int ca1), .val (.int cb0), .val (.int cb1), .val (.int cp), .val (.int (2 : Int32)), .val (.int (1 : Int32)), .val (.ref a24), .val (.ref a27), .val (.ref a29), .val (.ref a32), .unset, .unset, .unset, .unset, .unset, .unset, .unset]) rfl ?_
    have ne_a29_a32 : a29 ≠ a32 := own_ne E29.lt (Nat.le_trans K31.1 (Nat.le_refl _)) (Nat.le_of_eq (Eq.symm g32))
    have ne_t31_a32 : t31 ≠ a32 := own_ne S31.ltt (Nat.le_refl _) (Nat.le_of_eq (Eq.symm g32))
    have f35 := ((S31.keep K32 nin0 nin0).keep K34 (ninS ne_a29_a32 nin0) (ninS ne_t31_a32 nin0))
    exact own_195 hw r1 r2 t1 t2 chars mode rb tb ca0 ca1 cb0 cb1 cp (2 : Int32) (1 : Int32) a24 a27 a29 a32 t31 t34 [ca0, ca1] [cb0] (own_mono X34 (by decide : 6 ≤ 6) (by decide : 14 ≤ 16)) hGe CS (by simp) f35 S34
  · refine own_iload (pc' := 127) X0 at_125 rfl rfl ?_
    refine own_newarray (pc' := 129) (cells' := 1) (slots' := 2) (n := 2) (cap := 2) (dv := (.int 0)) X0 (W 0 rfl) rfl rfl (by decide) (by decide) at_127 rfl rfl (by decide) (by decide) rfl (by decide) (by decide) ?_
    intro T36 h36 a36 k36 g36 X36 K36 A36
    have n_a36 : n0 ≤ a36 := by rw [g36]; exact own_n0 X0
    have A36' : own_Arr Z h36 a36 k36 .char [(.int 0), (.int 0)] := A36
    refine own_astore (pc' := 131) X36 at_129 rfl rfl (Ls' := #[.val (.int r1), .val (.int r2), .val (.long t1), .second, .val (.long t2), .second, .val (.int chars), .val (.int mode), .val (.int rb), .val (.long tb), .second, .val (.int ca0), .val (.int ca1), .val (.int cb0), .val (.int cb1), .val (.int cp), .val (.int (2 : Int32)), .val (.int (2 : Int32)), .val (.ref a36), .unset, .unset, .unset, .unset, .unset, .unset, .unset, .unset, .unset, .unset]) rfl ?_
    refine own_aload (pc' := 133) X36 at_131 rfl rfl rfl ?_
    refine own_iconst (pc' := 134) X36 at_133 rfl (z := (0 : Int32)) (by decide) ?_
    refine own_iload (pc' := 136) X36 at_134 rfl rfl ?_
    refine own_castore (pc' := 137) (i := 0) (y := ca0) X36 A36' (by decide) (Nat.le_of_ble_eq_true rfl) (own_narb h_ca0) n_a36 at_136 rfl ?_
    intro T37 h37 X37 K37 A37
    have A37' : own_Arr Z h37 a36 k36 .char [(.int ca0), (.int 0)] := A37
    refine own_iload (pc' := 139) X37 at_137 rfl rfl ?_
    refine own_iconst (pc' := 140) X37 at_139 rfl (z := (2 : Int32)) (by decide) ?_
    refine own_icmpN (pc' := 143) X37 at_140 rfl ((teq rfl).2) ?_
    refine own_aload (pc' := 145) X37 at_143 rfl rfl rfl ?_
    refine own_iconst (pc' := 146) X37 at_145 rfl (z := (1 : Int32)) (by decide) ?_
    refine own_iload (pc' := 148) X37 at_146 rfl rfl ?_
    refine own_castore (pc' := 149) (i := 1) (y := ca1) X37 A37' (by decide) (Nat.le_of_ble_eq_true rfl) (own_narb h_ca1) n_a36 at_148 rfl ?_
    intro T38 h38 X38 K38 A38
    have A38' : own_Arr Z h38 a36 k36 .char [(.int ca0), (.int ca1)] := A38
    refine own_iload (pc' := 151) X38 at_149 rfl rfl ?_
    refine own_newarray (pc' := 153) (cells' := 2) (slots' := 4) (n := 2) (cap := 2) (dv := (.int 0)) X38 (W 0 rfl) rfl rfl (by decide) (by decide) at_151 rfl rfl (by decide) (by decide) rfl (by decide) (by decide) ?_
    intro T39 h39 a39 k39 g39 X39 K39 A39
    have n_a39 : n0 ≤ a39 := by rw [g39]; exact own_n0 X38
    have A39' : own_Arr Z h39 a39 k39 .char [(.int 0), (.int 0)] := A39
    refine own_astore (pc' := 155) X39 at_153 rfl rfl (Ls' := #[.val (.int r1), .val (.int r2), .val (.long t1), .second, .val (.long t2), .second, .val (.int chars), .val (.int mode), .val (.int rb), .val (.long tb), .second, .val (.int ca0), .val (.int ca1), .val (.int cb0), .val (.int cb1), .val (.int cp), .val (.int (2 : Int32)), .val (.int (2 : Int32)), .val (.ref a36), .val (.ref a39), .unset, .unset, .unset, .unset, .unset, .unset, .unset, .unset, .unset]) rfl ?_
    refine own_aload (pc' := 157) X39 at_155 rfl rfl rfl ?_
    refine own_iconst (pc' := 158) X39 at_157 rfl (z := (0 : Int32)) (by decide) ?_
    refine own_iload (pc' := 160) X39 at_158 rfl rfl ?_
    refine own_castore (pc' := 161) (i := 0) (y := cb0) X39 A39' (by decide) (Nat.le_of_ble_eq_true rfl) (own_narb h_cb0) n_a39 at_160 rfl ?_
    intro T40 h40 X40 K40 A40
    have A40' : own_Arr Z h40 a39 k39 .char [(.int cb0), (.int 0)] := A40
    refine own_iload (pc' := 163) X40 at_161 rfl rfl ?_
    refine own_iconst (pc' := 164) X40 at_163 rfl (z := (2 : Int32)) (by decide) ?_
    refine own_icmpN (pc' := 167) X40 at_164 rfl ((teq rfl).2) ?_
    refine own_aload (pc' := 169) X40 at_167 rfl rfl rfl ?_
    refine own_iconst (pc' := 170) X40 at_169 rfl (z := (1 : Int32)) (by decide) ?_
    refine own_iload (pc' := 172) X40 at_170 rfl rfl ?_
    refine own_castore (pc' := 173) (i := 1) (y := cb1) X40 A40' (by decide) (Nat.le_of_ble_eq_true rfl) (own_narb h_cb1) n_a39 at_172 rfl ?_
    intro T41 h41 X41 K41 A41
    have A41' : own_Arr Z h41 a39 k39 .char [(.int cb0), (.int cb1)] := A41
    refine own_new (pc' := 176) (cells' := 3) (slots' := 8) X41 (W 1 rfl) (W 2 rfl) (W 3 rfl) at_173 rfl rfl rfl (by decide) (by decide) ?_
    intro T42 h42 a42 g42 X42 K42 E42 D42 U42
    have n_a42 : n0 ≤ a42 := by rw [g42]; exact own_n0 X41
    have F42_coder : Fld Z h42 a42 "java/lang/String" "coder" "B" (.int (0 : Int32)) := D42 (Or.inr (W 27 rfl)) (ty := .byte) (by decide)
    have F42_value : Fld Z h42 a42 "java/lang/String" "value" "[B" .null := D42 (Or.inr (W 29 rfl)) (ty := (.array .byte)) (by decide)
    refine own_dup (pc' := 177) X42 at_176 rfl rfl ?_
    refine own_aload (pc' := 179) X42 at_177 rfl rfl rfl ?_
    have ne_a36_a39 : a36 ≠ a39 := own_ne A36'.lt (Nat.le_trans K37.1 (Nat.le_trans K38.1 (Nat.le_refl _))) (Nat.le_of_eq (Eq.symm g39))
    have f43 := ((((A38'.keep K39 nin0).keep K40 (ninS ne_a36_a39 nin0)).keep K41 (ninS ne_a36_a39 nin0)).keep K42 nin0)
    refine own_strinit (pc' := 182) (cells' := 4) (slots' := 10) (W := 1) (n := 2) (cs := [ca0, ca1]) X42 (fun d hd => hw d (own_in_words d hd)) CS (W 4 rfl) (W 5 rfl) (W 6 rfl) (W 2 rfl) E42 F42_value F42_coder f43 n_a42 rfl (by decide) (by decide) (own_aS h_ca0 (own_aS h_ca1 own_a0)) (by decide) (by decide) (lenOf (L := [.ref a36]) pd_2 rfl) rfl rfl at_179 rfl rfl rfl (by decide) (by decide) ?_
    intro T44 h44 t44 X44 K44 z44 S44
    refine own_astore (pc' := 184) X44 at_182 rfl rfl (Ls' := #[.val (.int r1), .val (.int r2), .val (.long t1), .second, .val (.long t2), .second, .val (.int chars), .val (.int mode), .val (.int rb), .val (.long tb), .second, .val (.int ca0), .val (.int ca1), .val (.int cb0), .val (.int cb1), .val (.int cp), .val (.int (2 : Int32)), .val (.int (2 : Int32)), .val (.ref a36), .val (.ref a39), .val (.ref a42), .unset, .unset, .unset, .unset, .unset, .unset, .unset, .unset]) rfl ?_
    refine own_new (pc' := 187) (cells' := 5) (slots' := 14) X44 (W 1 rfl) (W 2 rfl) (W 3 rfl) at_184 rfl rfl rfl (by decide) (by decide) ?_
    intro T45 h45 a45 g45 X45 K45 E45 D45 U45
    have n_a45 : n0 ≤ a45 := by rw [g45]; exact own_n0 X44
    have F45_coder : Fld Z h45 a45 "java/lang/String" "coder" "B" (.int (0 : Int32)) := D45 (Or.inr (W 27 rfl)) (ty := .byte) (by decide)
    have F45_value : Fld Z h45 a45 "java/lang/String" "value" "[B" .null := D45 (Or.inr (W 29 rfl)) (ty := (.array .byte)) (by decide)
    refine own_dup (pc' := 188) X45 at_187 rfl rfl ?_
    refine own_aload (pc' := 190) X45 at_188 rfl rfl rfl ?_
    have ne_a39_a42 : a39 ≠ a42 := own_ne A39'.lt (Nat.le_trans K40.1 (Nat.le_trans K41.1 (Nat.le_refl _))) (Nat.le_of_eq (Eq.symm g42))
    have f46 := (((A41'.keep K42 nin0).keep K44 (ninS ne_a39_a42 nin0)).keep K45 nin0)
    refine own_strinit (pc' := 193) (cells' := 6) (slots' := 16) (W := 1) (n := 2) (cs := [cb0, cb1]) X45 (fun d hd => hw d (own_in_words d hd)) CS (W 4 rfl) (W 5 rfl) (W 6 rfl) (W 2 rfl) E45 F45_value F45_coder f46 n_a45 rfl (by decide) (by decide) (own_aS h_cb0 (own_aS h_cb1 own_a0)) (by decide) (by decide) (lenOf (L := [.ref a39]) pd_2 rfl) rfl rfl at_190 rfl rfl rfl (by decide) (by decide) ?_
    intro T47 h47 t47 X47 K47 z47 S47
    refine own_astore (pc' := 195) X47 at_193 rfl rfl (Ls' := #[.val (.int r1), .val (.int r2), .val (.long t1), .second, .val (.long t2), .second, .val (.int chars), .val (.int mode), .val (.int rb), .val (.long tb), .second, .val (.int ca0), .val (.int ca1), .val (.int cb0), .val (.int cb1), .val (.int cp), .val (.int (2 : Int32)), .val (.int (2 : Int32)), .val (.ref a36), .val (.ref a39), .val (.ref a42), .val (.ref a45), .unset, .unset, .unset, .unset, .unset, .unset, .unset]) rfl ?_
    have ne_a42_a45 : a42 ≠ a45 := own_ne E42.lt (Nat.le_trans K44.1 (Nat.le_refl _)) (Nat.le_of_eq (Eq.symm g45))
    have ne_t44_a45 : t44 ≠ a45 := own_ne S44.ltt (Nat.le_refl _) (Nat.le_of_eq (Eq.symm g45))
    have f48 := ((S44.keep K45 nin0 nin0).keep K47 (ninS ne_a42_a45 nin0) (ninS ne_t44_a45 nin0))
    exact own_195 hw r1 r2 t1 t2 chars mode rb tb ca0 ca1 cb0 cb1 cp (2 : Int32) (2 : Int32) a36 a39 a42 a45 t44 t47 [ca0, ca1] [cb0, cb1] (own_mono X47 (by decide : 6 ≤ 6) (by decide : 16 ≤ 16)) hGe CS (by simp) f48 S47
set_option maxRecDepth 65536 in
set_option maxHeartbeats 40000000 in
theorem own_27 {G : State → JFrame → Prop} {p : Program} {l : Launch} {e : Env} {s : State} {m : MethodId} {args : Array Value} {below : List Frame} {meth : Method} {c : Code} {Z : State} {a0 : Array Value} {n0 : Nat} {T0 : State} {h0 : Heap} (hw : ∀ d ∈ tables_1, d.before a0 Z = true) (r1 r2 : Int32) (t1 t2 : Int64) (chars mode : Int32) (rb : Int32) (tb : Int64)
    (X0 : own_At G p l e room_1 s m args below meth c Z n0 "com/example/darja/darja/StandingEqualsPinLaw" "law" code maxLocals ret T0 h0 0 0) (hGe : G = own_Fin p e below s Z n0 (fun v h => v = some (.int 1)) room_1.cells room_1.slots) (CS : own_CS Z) :
    G T0 (mkF m 27 #[.val (.int r1), .val (.int r2), .val (.long t1), .second, .val (.long t2), .second, .val (.int chars), .val (.int mode), .val (.int rb), .unset, .unset, .unset, .unset, .unset, .unset, .unset, .unset, .unset, .unset, .unset, .unset, .unset, .unset, .unset, .unset, .unset, .unset, .unset, .unset] [(.long tb)]) := by
  have W : ∀ (k : Nat) {d : Jvm.Cond}, tables_1[k]? = some d → d.before a0 Z = true := fun k d q => hw d (List.mem_of_getElem? q)
  refine own_lstore (pc' := 29) X0 at_27 rfl (Ls' := #[.val (.int r1), .val (.int r2), .val (.long t1), .second, .val (.long t2), .second, .val (.int chars), .val (.int mode), .val (.int rb), .val (.long tb), .second, .unset, .unset, .unset, .unset, .unset, .unset, .unset, .unset, .unset, .unset, .unset, .unset, .unset, .unset, .unset, .unset, .unset, .unset]) rfl ?_
  refine own_iload (pc' := 31) X0 at_29 rfl rfl ?_
  refine own_sipush (pc' := 34) X0 at_31 rfl (z := (255 : Int32)) (by decide) ?_
  refine own_iand (pc' := 35) X0 at_34 rfl (r := (chars &&& (255 : Int32))) rfl ?_
  refine own_i2c (pc' := 36) X0 at_35 rfl ?_
  refine own_istore (pc' := 38) X0 at_36 rfl (Ls' := #[.val (.int r1), .val (.int r2), .val (.long t1), .second, .val (.long t2), .second, .val (.int chars), .val (.int mode), .val (.int rb), .val (.long tb), .second, .val (.int (own_c16 (chars &&& (255 : Int32)))), .unset, .unset, .unset, .unset, .unset, .unset, .unset, .unset, .unset, .unset, .unset, .unset, .unset, .unset, .unset, .unset, .unset]) rfl ?_
  refine own_iload (pc' := 40) X0 at_38 rfl rfl ?_
  refine own_bipush (pc' := 42) X0 at_40 rfl (z := (8 : Int32)) (by decide) ?_
  refine own_iushr (pc' := 43) X0 at_42 rfl (r := (own_ushr chars (8 : Int32))) rfl ?_
  refine own_sipush (pc' := 46) X0 at_43 rfl (z := (255 : Int32)) (by decide) ?_
  refine own_iand (pc' := 47) X0 at_46 rfl (r := ((own_ushr chars (8 : Int32)) &&& (255 : Int32))) rfl ?_
  refine own_i2c (pc' := 48) X0 at_47 rfl ?_
  refine own_istore (pc' := 50) X0 at_48 rfl (Ls' := #[.val (.int r1), .val (.int r2), .val (.long t1), .second, .val (.long t2), .second, .val (.int chars), .val (.int mode), .val (.int rb), .val (.long tb), .second, .val (.int (own_c16 (chars &&& (255 : Int32)))), .val (.int (own_c16 ((own_ushr chars (8 : Int32)) &&& (255 : Int32)))), .unset, .unset, .unset, .unset, .unset, .unset, .unset, .unset, .unset, .unset, .unset, .unset, .unset, .unset, .unset, .unset]) rfl ?_
  refine own_iload (pc' := 52) X0 at_50 rfl rfl ?_
  refine own_bipush (pc' := 54) X0 at_52 rfl (z := (16 : Int32)) (by decide) ?_
  refine own_iushr (pc' := 55) X0 at_54 rfl (r := (own_ushr chars (16 : Int32))) rfl ?_
  refine own_sipush (pc' := 58) X0 at_55 rfl (z := (255 : Int32)) (by decide) ?_
  refine own_iand (pc' := 59) X0 at_58 rfl (r := ((own_ushr chars (16 : Int32)) &&& (255 : Int32))) rfl ?_
  refine own_i2c (pc' := 60) X0 at_59 rfl ?_
  refine own_istore (pc' := 62) X0 at_60 rfl (Ls' := #[.val (.int r1), .val (.int r2), .val (.long t1), .second, .val (.long t2), .second, .val (.int chars), .val (.int mode), .val (.int rb), .val (.long tb), .second, .val (.int (own_c16 (chars &&& (255 : Int32)))), .val (.int (own_c16 ((own_ushr chars (8 : Int32)) &&& (255 : Int32)))), .val (.int (own_c16 ((own_ushr chars (16 : Int32)) &&& (255 : Int32)))), .unset, .unset, .unset, .unset, .unset, .unset, .unset, .unset, .unset, .unset, .unset, .unset, .unset, .unset, .unset]) rfl ?_
  refine own_iload (pc' := 64) X0 at_62 rfl rfl ?_
  refine own_bipush (pc' := 66) X0 at_64 rfl (z := (24 : Int32)) (by decide) ?_
  refine own_iushr (pc' := 67) X0 at_66 rfl (r := (own_ushr chars (24 : Int32))) rfl ?_
  refine own_sipush (pc' := 70) X0 at_67 rfl (z := (255 : Int32)) (by decide) ?_
  refine own_iand (pc' := 71) X0 at_70 rfl (r := ((own_ushr chars (24 : Int32)) &&& (255 : Int32))) rfl ?_
  refine own_i2c (pc' := 72) X0 at_71 rfl ?_
  refine own_istore (pc' := 74) X0 at_72 rfl (Ls' := #[.val (.int r1), .val (.int r2), .val (.long t1), .second, .val (.long t2), .second, .val (.int chars), .val (.int mode), .val (.int rb), .val (.long tb), .second, .val (.int (own_c16 (chars &&& (255 : Int32)))), .val (.int (own_c16 ((own_ushr chars (8 : Int32)) &&& (255 : Int32)))), .val (.int (own_c16 ((own_ushr chars (16 : Int32)) &&& (255 : Int32)))), .val (.int (own_c16 ((own_ushr chars (24 : Int32)) &&& (255 : Int32)))), .unset, .unset, .unset, .unset, .unset, .unset, .unset, .unset, .unset, .unset, .unset, .unset, .unset, .unset]) rfl ?_
  refine own_iload (pc' := 76) X0 at_74 rfl rfl ?_
  refine own_iconst (pc' := 77) X0 at_76 rfl (z := (4 : Int32)) (by decide) ?_
  refine own_iand (pc' := 78) X0 at_77 rfl (r := (mode &&& (4 : Int32))) rfl ?_
  by_cases h78 : (mode &&& (4 : Int32)) = 0
  · refine own_ifY (pc' := 85) X0 at_78 ((teq h78).1) (by decide) (by decide) ?_
    refine own_iconst (pc' := 86) X0 at_85 rfl (z := (0 : Int32)) (by decide) ?_
    refine own_istore (pc' := 88) X0 at_86 rfl (Ls' := #[.val (.int r1), .val (.int r2), .val (.long t1), .second, .val (.long t2), .second, .val (.int chars), .val (.int mode), .val (.int rb), .val (.long tb), .second, .val (.int (own_c16 (chars &&& (255 : Int32)))), .val (.int (own_c16 ((own_ushr chars (8 : Int32)) &&& (255 : Int32)))), .val (.int (own_c16 ((own_ushr chars (16 : Int32)) &&& (255 : Int32)))), .val (.int (own_c16 ((own_ushr chars (24 : Int32)) &&& (255 : Int32)))), .val (.int (0 : Int32)), .unset, .unset, .unset, .unset, .unset, .unset, .unset, .unset, .unset, .unset, .unset, .unset, .unset]) rfl ?_
    refine own_iconst (pc' := 89) X0 at_88 rfl (z := (1 : Int32)) (by decide) ?_
    refine own_iload (pc' := 91) X0 at_89 rfl rfl ?_
    refine own_iconst (pc' := 92) X0 at_91 rfl (z := (3 : Int32)) (by decide) ?_
    refine own_iushr (pc' := 93) X0 at_92 rfl (r := (own_ushr mode (3 : Int32))) rfl ?_
    refine own_iconst (pc' := 94) X0 at_93 rfl (z := (1 : Int32)) (by decide) ?_
    refine own_iand (pc' := 95) X0 at_94 rfl (r := ((own_ushr mode (3 : Int32)) &&& (1 : Int32))) rfl ?_
    refine own_iadd (pc' := 96) X0 at_95 rfl (r := ((1 : Int32) + ((own_ushr mode (3 : Int32)) &&& (1 : Int32)))) rfl ?_
    refine own_istore (pc' := 98) X0 at_96 rfl (Ls' := #[.val (.int r1), .val (.int r2), .val (.long t1), .second, .val (.long t2), .second, .val (.int chars), .val (.int mode), .val (.int rb), .val (.long tb), .second, .val (.int (own_c16 (chars &&& (255 : Int32)))), .val (.int (own_c16 ((own_ushr chars (8 : Int32)) &&& (255 : Int32)))), .val (.int (own_c16 ((own_ushr chars (16 : Int32)) &&& (255 : Int32)))), .val (.int (own_c16 ((own_ushr chars (24 : Int32)) &&& (255 : Int32)))), .val (.int (0 : Int32)), .val (.int ((1 : Int32) + ((own_ushr mode (3 : Int32)) &&& (1 : Int32)))), .unset, .unset, .unset, .unset, .unset, .unset, .unset, .unset, .unset, .unset, .unset, .unset]) rfl ?_
    refine own_iconst (pc' := 99) X0 at_98 rfl (z := (1 : Int32)) (by decide) ?_
    refine own_iload (pc' := 101) X0 at_99 rfl rfl ?_
    refine own_iconst (pc' := 102) X0 at_101 rfl (z := (4 : Int32)) (by decide) ?_
    refine own_iushr (pc' := 103) X0 at_102 rfl (r := (own_ushr mode (4 : Int32))) rfl ?_
    refine own_iconst (pc' := 104) X0 at_103 rfl (z := (1 : Int32)) (by decide) ?_
    refine own_iand (pc' := 105) X0 at_104 rfl (r := ((own_ushr mode (4 : Int32)) &&& (1 : Int32))) rfl ?_
    refine own_iadd (pc' := 106) X0 at_105 rfl (r := ((1 : Int32) + ((own_ushr mode (4 : Int32)) &&& (1 : Int32)))) rfl ?_
    refine own_istore (pc' := 108) X0 at_106 rfl (Ls' := #[.val (.int r1), .val (.int r2), .val (.long t1), .second, .val (.long t2), .second, .val (.int chars), .val (.int mode), .val (.int rb), .val (.long tb), .second, .val (.int (own_c16 (chars &&& (255 : Int32)))), .val (.int (own_c16 ((own_ushr chars (8 : Int32)) &&& (255 : Int32)))), .val (.int (own_c16 ((own_ushr chars (16 : Int32)) &&& (255 : Int32)))), .val (.int (own_c16 ((own_ushr chars (24 : Int32)) &&& (255 : Int32)))), .val (.int (0 : Int32)), .val (.int ((1 : Int32) + ((own_ushr mode (3 : Int32)) &&& (1 : Int32)))), .val (.int ((1 : Int32) + ((own_ushr mode (4 : Int32)) &&& (1 : Int32)))), .unset, .unset, .unset, .unset, .unset, .unset, .unset, .unset, .unset, .unset, .unset]) rfl ?_
    refine own_iload (pc' := 110) X0 at_108 rfl rfl ?_
    refine own_ifY (pc' := 125) X0 at_110 ((teq rfl).1) (by decide) (by decide) ?_
    exact own_125 hw r1 r2 t1 t2 chars mode rb tb (own_c16 (chars &&& (255 : Int32))) (own_c16 ((own_ushr chars (8 : Int32)) &&& (255 : Int32))) (own_c16 ((own_ushr chars (16 : Int32)) &&& (255 : Int32))) (own_c16 ((own_ushr chars (24 : Int32)) &&& (255 : Int32))) (0 : Int32) ((1 : Int32) + ((own_ushr mode (3 : Int32)) &&& (1 : Int32))) ((1 : Int32) + ((own_ushr mode (4 : Int32)) &&& (1 : Int32))) (own_mono X0 (by decide : 0 ≤ 0) (by decide : 0 ≤ 0)) hGe CS (own_len _) (own_len _) (own_c255 _) (own_c255 _) (own_c255 _) (own_c255 _)
  · refine own_ifN (pc' := 81) X0 at_78 rfl ((feq h78).1) ?_
    refine own_iconst (pc' := 82) X0 at_81 rfl (z := (1 : Int32)) (by decide) ?_
    refine own_goto (pc' := 86) X0 at_82 (by decide) (by decide) ?_
    refine own_istore (pc' := 88) X0 at_86 rfl (Ls' := #[.val (.int r1), .val (.int r2), .val (.long t1), .second, .val (.long t2), .second, .val (.int chars), .val (.int mode), .val (.int rb), .val (.long tb), .second, .val (.int (own_c16 (chars &&& (255 : Int32)))), .val (.int (own_c16 ((own_ushr chars (8 : Int32)) &&& (255 : Int32)))), .val (.int (own_c16 ((own_ushr chars (16 : Int32)) &&& (255 : Int32)))), .val (.int (own_c16 ((own_ushr chars (24 : Int32)) &&& (255 : Int32)))), .val (.int (1 : Int32)), .unset, .unset, .unset, .unset, .unset, .unset, .unset, .unset, .unset, .unset, .unset, .unset, .unset]) rfl ?_
    refine own_iconst (pc' := 89) X0 at_88 rfl (z := (1 : Int32)) (by decide) ?_
    refine own_iload (pc' := 91) X0 at_89 rfl rfl ?_
    refine own_iconst (pc' := 92) X0 at_91 rfl (z := (3 : Int32)) (by decide) ?_
    refine own_iushr (pc' := 93) X0 at_92 rfl (r := (own_ushr mode (3 : Int32))) rfl ?_
    refine own_iconst (pc' := 94) X0 at_93 rfl (z := (1 : Int32)) (by decide) ?_
    refine own_iand (pc' := 95) X0 at_94 rfl (r := ((own_ushr mode (3 : Int32)) &&& (1 : Int32))) rfl ?_
    refine own_iadd (pc' := 96) X0 at_95 rfl (r := ((1 : Int32) + ((own_ushr mode (3 : Int32)) &&& (1 : Int32)))) rfl ?_
    refine own_istore (pc' := 98) X0 at_96 rfl (Ls' := #[.val (.int r1), .val (.int r2), .val (.long t1), .second, .val (.long t2), .second, .val (.int chars), .val (.int mode), .val (.int rb), .val (.long tb), .second, .val (.int (own_c16 (chars &&& (255 : Int32)))), .val (.int (own_c16 ((own_ushr chars (8 : Int32)) &&& (255 : Int32)))), .val (.int (own_c16 ((own_ushr chars (16 : Int32)) &&& (255 : Int32)))), .val (.int (own_c16 ((own_ushr chars (24 : Int32)) &&& (255 : Int32)))), .val (.int (1 : Int32)), .val (.int ((1 : Int32) + ((own_ushr mode (3 : Int32)) &&& (1 : Int32)))), .unset, .unset, .unset, .unset, .unset, .unset, .unset, .unset, .unset, .unset, .unset, .unset]) rfl ?_
    refine own_iconst (pc' := 99) X0 at_98 rfl (z := (1 : Int32)) (by decide) ?_
    refine own_iload (pc' := 101) X0 at_99 rfl rfl ?_
    refine own_iconst (pc' := 102) X0 at_101 rfl (z := (4 : Int32)) (by decide) ?_
    refine own_iushr (pc' := 103) X0 at_102 rfl (r := (own_ushr mode (4 : Int32))) rfl ?_
    refine own_iconst (pc' := 104) X0 at_103 rfl (z := (1 : Int32)) (by decide) ?_
    refine own_iand (pc' := 105) X0 at_104 rfl (r := ((own_ushr mode (4 : Int32)) &&& (1 : Int32))) rfl ?_
    refine own_iadd (pc' := 106) X0 at_105 rfl (r := ((1 : Int32) + ((own_ushr mode (4 : Int32)) &&& (1 : Int32)))) rfl ?_
    refine own_istore (pc' := 108) X0 at_106 rfl (Ls' := #[.val (.int r1), .val (.int r2), .val (.long t1), .second, .val (.long t2), .second, .val (.int chars), .val (.int mode), .val (.int rb), .val (.long tb), .second, .val (.int (own_c16 (chars &&& (255 : Int32)))), .val (.int (own_c16 ((own_ushr chars (8 : Int32)) &&& (255 : Int32)))), .val (.int (own_c16 ((own_ushr chars (16 : Int32)) &&& (255 : Int32)))), .val (.int (own_c16 ((own_ushr chars (24 : Int32)) &&& (255 : Int32)))), .val (.int (1 : Int32)), .val (.int ((1 : Int32) + ((own_ushr mode (3 : Int32)) &&& (1 : Int32)))), .val (.int ((1 : Int32) + ((own_ushr mode (4 : Int32)) &&& (1 : Int32)))), .unset, .unset, .unset, .unset, .unset, .unset, .unset, .unset, .unset, .unset, .unset]) rfl ?_
    refine own_iload (pc' := 110) X0 at_108 rfl rfl ?_
    refine own_ifN (pc' := 113) X0 at_110 rfl ((feq (by decide)).1) ?_
    refine own_iload (pc' := 115) X0 at_113 rfl rfl ?_
    refine own_istore (pc' := 117) X0 at_115 rfl (Ls' := #[.val (.int r1), .val (.int r2), .val (.long t1), .second, .val (.long t2), .second, .val (.int chars), .val (.int mode), .val (.int rb), .val (.long tb), .second, .val (.int (own_c16 (chars &&& (255 : Int32)))), .val (.int (own_c16 ((own_ushr chars (8 : Int32)) &&& (255 : Int32)))), .val (.int (own_c16 (chars &&& (255 : Int32)))), .val (.int (own_c16 ((own_ushr chars (24 : Int32)) &&& (255 : Int32)))), .val (.int (1 : Int32)), .val (.int ((1 : Int32) + ((own_ushr mode (3 : Int32)) &&& (1 : Int32)))), .val (.int ((1 : Int32) + ((own_ushr mode (4 : Int32)) &&& (1 : Int32)))), .unset, .unset, .unset, .unset, .unset, .unset, .unset, .unset, .unset, .unset, .unset]) rfl ?_
    refine own_iload (pc' := 119) X0 at_117 rfl rfl ?_
    refine own_istore (pc' := 121) X0 at_119 rfl (Ls' := #[.val (.int r1), .val (.int r2), .val (.long t1), .second, .val (.long t2), .second, .val (.int chars), .val (.int mode), .val (.int rb), .val (.long tb), .second, .val (.int (own_c16 (chars &&& (255 : Int32)))), .val (.int (own_c16 ((own_ushr chars (8 : Int32)) &&& (255 : Int32)))), .val (.int (own_c16 (chars &&& (255 : Int32)))), .val (.int (own_c16 ((own_ushr chars (8 : Int32)) &&& (255 : Int32)))), .val (.int (1 : Int32)), .val (.int ((1 : Int32) + ((own_ushr mode (3 : Int32)) &&& (1 : Int32)))), .val (.int ((1 : Int32) + ((own_ushr mode (4 : Int32)) &&& (1 : Int32)))), .unset, .unset, .unset, .unset, .unset, .unset, .unset, .unset, .unset, .unset, .unset]) rfl ?_
    refine own_iload (pc' := 123) X0 at_121 rfl rfl ?_
    refine own_istore (pc' := 125) X0 at_123 rfl (Ls' := #[.val (.int r1), .val (.int r2), .val (.long t1), .second, .val (.long t2), .second, .val (.int chars), .val (.int mode), .val (.int rb), .val (.long tb), .second, .val (.int (own_c16 (chars &&& (255 : Int32)))), .val (.int (own_c16 ((own_ushr chars (8 : Int32)) &&& (255 : Int32)))), .val (.int (own_c16 (chars &&& (255 : Int32)))), .val (.int (own_c16 ((own_ushr chars (8 : Int32)) &&& (255 : Int32)))), .val (.int (1 : Int32)), .val (.int ((1 : Int32) + ((own_ushr mode (3 : Int32)) &&& (1 : Int32)))), .val (.int ((1 : Int32) + ((own_ushr mode (3 : Int32)) &&& (1 : Int32)))), .unset, .unset, .unset, .unset, .unset, .unset, .unset, .unset, .unset, .unset, .unset]) rfl ?_
    exact own_125 hw r1 r2 t1 t2 chars mode rb tb (own_c16 (chars &&& (255 : Int32))) (own_c16 ((own_ushr chars (8 : Int32)) &&& (255 : Int32))) (own_c16 (chars &&& (255 : Int32))) (own_c16 ((own_ushr chars (8 : Int32)) &&& (255 : Int32))) (1 : Int32) ((1 : Int32) + ((own_ushr mode (3 : Int32)) &&& (1 : Int32))) ((1 : Int32) + ((own_ushr mode (3 : Int32)) &&& (1 : Int32))) (own_mono X0 (by decide : 0 ≤ 0) (by decide : 0 ≤ 0)) hGe CS (own_len _) (own_len _) (own_c255 _) (own_c255 _) (own_c255 _) (own_c255 _)
set_option maxRecDepth 65536 in
set_option maxHeartbeats 40000000 in
theorem own_12 {G : State → JFrame → Prop} {p : Program} {l : Launch} {e : Env} {s : State} {m : MethodId} {args : Array Value} {below : List Frame} {meth : Method} {c : Code} {Z : State} {a0 : Array Value} {n0 : Nat} {T0 : State} {h0 : Heap} (hw : ∀ d ∈ tables_1, d.before a0 Z = true) (r1 r2 : Int32) (t1 t2 : Int64) (chars mode : Int32) (rb : Int32)
    (X0 : own_At G p l e room_1 s m args below meth c Z n0 "com/example/darja/darja/StandingEqualsPinLaw" "law" code maxLocals ret T0 h0 0 0) (hGe : G = own_Fin p e below s Z n0 (fun v h => v = some (.int 1)) room_1.cells room_1.slots) (CS : own_CS Z) :
    G T0 (mkF m 12 #[.val (.int r1), .val (.int r2), .val (.long t1), .second, .val (.long t2), .second, .val (.int chars), .val (.int mode), .unset, .unset, .unset, .unset, .unset, .unset, .unset, .unset, .unset, .unset, .unset, .unset, .unset, .unset, .unset, .unset, .unset, .unset, .unset, .unset, .unset] [(.int rb)]) := by
  have W : ∀ (k : Nat) {d : Jvm.Cond}, tables_1[k]? = some d → d.before a0 Z = true := fun k d q => hw d (List.mem_of_getElem? q)
  refine own_istore (pc' := 14) X0 at_12 rfl (Ls' := #[.val (.int r1), .val (.int r2), .val (.long t1), .second, .val (.long t2), .second, .val (.int chars), .val (.int mode), .val (.int rb), .unset, .unset, .unset, .unset, .unset, .unset, .unset, .unset, .unset, .unset, .unset, .unset, .unset, .unset, .unset, .unset, .unset, .unset, .unset, .unset]) rfl ?_
  refine own_iload (pc' := 16) X0 at_14 rfl rfl ?_
  refine own_iconst (pc' := 17) X0 at_16 rfl (z := (2 : Int32)) (by decide) ?_
  refine own_iand (pc' := 18) X0 at_17 rfl (r := (mode &&& (2 : Int32))) rfl ?_
  by_cases h18 : (mode &&& (2 : Int32)) = 0
  · refine own_ifY (pc' := 25) X0 at_18 ((teq h18).1) (by decide) (by decide) ?_
    refine own_lload (pc' := 27) X0 at_25 rfl rfl ?_
    exact own_27 hw r1 r2 t1 t2 chars mode rb t2 (own_mono X0 (by decide : 0 ≤ 0) (by decide : 0 ≤ 0)) hGe CS
  · refine own_ifN (pc' := 21) X0 at_18 rfl ((feq h18).1) ?_
    refine own_lload_n (pc' := 22) X0 at_21 rfl rfl ?_
    refine own_goto (pc' := 27) X0 at_22 (by decide) (by decide) ?_
    exact own_27 hw r1 r2 t1 t2 chars mode rb t1 (own_mono X0 (by decide : 0 ≤ 0) (by decide : 0 ≤ 0)) hGe CS
theorem pn_1 : plainName "com/example/darja/darja/StandingEqualsPinLaw" = true := by first | (simp [plainName, overriddenIn]; done) | decide +kernel
theorem ef_own_law (m : MethodId) (x0 : Int32) (x1 : Int32) (x2 : Int64) (x3 : Int64) (x4 : Int32) (x5 : Int32) : entryFrame m #[(.int x0), (.int x1), (.long x2), (.long x3), (.int x4), (.int x5)] maxLocals = mkF m 0 #[.val (.int x0), .val (.int x1), .val (.long x2), .second, .val (.long x3), .second, .val (.int x4), .val (.int x5), .unset, .unset, .unset, .unset, .unset, .unset, .unset, .unset, .unset, .unset, .unset, .unset, .unset, .unset, .unset, .unset, .unset, .unset, .unset, .unset, .unset] [] := by first | (simp [entryFrame, mkF, argsToLocals, Value.category, maxLocals]; done) | rfl
set_option maxRecDepth 65536 in
set_option maxHeartbeats 40000000 in
theorem own_law (l : Launch) (Z : State) (a0 : Array Value) (hw : ∀ d ∈ tables_1, d.before a0 Z = true) (n0 : Nat) (r1 r2 : Int32) (t1 t2 : Int64) (chars mode : Int32) (h0 : Heap) (O0 : Old Z n0 h0) (CS : own_CS Z) :
    own_Met l Z n0 x code maxLocals ret room_1 #[(.int r1), (.int r2), (.long t1), (.long t2), (.int chars), (.int mode)] h0 (fun v h => v = some (.int 1)) := by
  refine own_enter (own := "com/example/darja/darja/StandingEqualsPinLaw") (nm := "law") pn_1 rfl rfl O0 ?_
  have W : ∀ (k : Nat) {d : Jvm.Cond}, tables_1[k]? = some d → d.before a0 Z = true := fun k d q => hw d (List.mem_of_getElem? q)
  intro G p e s m below meth c T0 hGe X0
  rw [ef_own_law m r1 r2 t1 t2 chars mode]
  refine own_iload (pc' := 2) X0 at_0 rfl rfl ?_
  refine own_iconst (pc' := 3) X0 at_2 rfl (z := (1 : Int32)) (by decide) ?_
  refine own_iand (pc' := 4) X0 at_3 rfl (r := (mode &&& (1 : Int32))) rfl ?_
  by_cases h4 : (mode &&& (1 : Int32)) = 0
  · refine own_ifY (pc' := 11) X0 at_4 ((teq h4).1) (by decide) (by decide) ?_
    refine own_iload_n (pc' := 12) X0 at_11 rfl rfl ?_
    exact own_12 hw r1 r2 t1 t2 chars mode r2 (own_mono X0 (by decide : 0 ≤ 0) (by decide : 0 ≤ 0)) hGe CS
  · refine own_ifN (pc' := 7) X0 at_4 rfl ((feq h4).1) ?_
    refine own_iload_n (pc' := 8) X0 at_7 rfl rfl ?_
    refine own_goto (pc' := 12) X0 at_8 (by decide) (by decide) ?_
    exact own_12 hw r1 r2 t1 t2 chars mode r1 (own_mono X0 (by decide : 0 ≤ 0) (by decide : 0 ≤ 0)) hGe CS
set_option maxRecDepth 65536 in
set_option maxHeartbeats 40000000 in
theorem comes_1 {Post : Tables → Env → Array Value → State → Outcome → State → Prop} (hpost : ∀ tb e args s v u, (limb_1_1.after args s (.returned v) u = true ∧ limb_1_2.after args s (.returned v) u = true ∧ True) → FrameEnd s (.returned v) u (Jvm.fieldLocs frame_1_writes args s ++ Jvm.arrayLocs frame_1_arrays args s ++ Jvm.staticLocs frame_1_statics s) 24 128 → Post tb e args s (.returned v) u) :
    ArmFor flags0 classFile x code maxLocals ret World_1 tables_1 room_1 Calls_1 rest_1 Pre_1 Post := by
  intro l hfl _ _ p e ha hc hk s m args below hf hA hF happ hP
  obtain ⟨hcalls, hrest, hpre⟩ := hP
  obtain ⟨-, -, -, hnamed, -, -, -, hat⟩ := (Spec.applies_iff hf).mp happ
  obtain ⟨hg, hn⟩ := and_e (Cond.before_iff.mp (show (Jvm.Cond.and given_1 narrow_1).before args s = true from hpre))
  obtain ⟨h1, g0⟩ := and_e hg
  obtain ⟨b0, g1⟩ := and_e g0
  obtain ⟨b1, g2⟩ := and_e g1
  obtain ⟨b2, g3⟩ := and_e g2
  obtain ⟨b3, g4⟩ := and_e g3
  obtain ⟨b4, g5⟩ := and_e g4
  have b5 := g5
  obtain ⟨w0, w1, w2, w3, w4, w5, rfl⟩ : ∃ w0 w1 w2 w3 w4 w5 : Value, args = #[w0, w1, w2, w3, w4, w5] := by
    have hs : args.size = 6 := by simpa [Cond.value, given_1] using h1
    obtain ⟨L⟩ := args
    match L, hs with
    | [w0, w1, w2, w3, w4, w5], _ => exact ⟨w0, w1, w2, w3, w4, w5, rfl⟩
  have hw := fun d (hd : d ∈ tables_1) => atoms_spec (ws := Jvm.Cond.code x code maxLocals ret :: tables_1) hat d (List.mem_cons_of_mem _ hd)
  obtain ⟨hsets, hown0⟩ := atoms_of _ (rest_1_c_eq ▸ (show rest_1_c.before _ s = true from hrest))
  have hfit : Fit s := fun {y c} hc i hi => by
    obtain ⟨ha, rfl⟩ := Array.getElem?_eq_some_iff.mp hc
    have q := List.all_eq_true.mp ((Array.all_eq_true_iff_forall_mem.mp hF) _ (Array.getElem_mem ha)) i (List.mem_range.mpr hi)
    simpa [Array.getElem?_eq_getElem hi] using q
  obtain ⟨i0, e0⟩ := is_v b0
  obtain rfl : w0 = (.int i0) := Option.some.inj e0
  obtain ⟨i1, e1⟩ := is_v b1
  obtain rfl : w1 = (.int i1) := Option.some.inj e1
  obtain ⟨i2, e2⟩ := isL_v b2
  obtain rfl : w2 = (.long i2) := Option.some.inj e2
  obtain ⟨i3, e3⟩ := isL_v b3
  obtain rfl : w3 = (.long i3) := Option.some.inj e3
  obtain ⟨i4, e4⟩ := is_v b4
  obtain rfl : w4 = (.int i4) := Option.some.inj e4
  obtain ⟨i5, e5⟩ := is_v b5
  obtain rfl : w5 = (.int i5) := Option.some.inj e5
  obtain ⟨zc, ec⟩ := is_v (Cond.before_iff.mp (hsets _ (List.mem_of_getElem? (i := 1) rfl)))
  have CS : own_CS s := ⟨zc, Sta.start ec (Or.inl (hsets _ (List.mem_of_getElem? (i := 0) rfl))), gotF (Cond.eq_ints ec (Term.int_eval (0))) (not_v (Cond.before_iff.mp (hsets _ (List.mem_of_getElem? (i := 2) rfl))))⟩
  obtain ⟨n, o, h1, h2, h3, _, L, rfl, ⟨rfl, N, -⟩, hq⟩ := own_law l s _ hw s.heap.size i0 i1 i2 i3 i4 i5 s.heap (Old.start s) CS tables_1 p e ha hc hk s m _ below hf ((Spec.applies_iff_loose hf).mp happ).1 ⟨rfl, State.Warmed39.refl s, rfl⟩ trivial
  refine ⟨n, _, h1, h2, h3, hpost _ _ _ _ _ _ ⟨Cond.after_iff.mpr rfl, Cond.after_iff.mpr (eq_i res_at (Term.int_eval (1)) rfl), trivial⟩ ⟨hq.1, hq.2.1, (hq.2.2.sift fun y hy => Or.inr (N y hy)).mono (by decide) (by decide)⟩⟩
theorem main_1_1 : Claimed_1_1 := comes_1 fun _ _ _ _ _ _ h hF => ⟨h.1, hF⟩
theorem main_1_2 : Claimed_1_2 := comes_1 fun _ _ _ _ _ _ h hF => ⟨h.2.1, hF⟩
end Jvm.Pilot.@@N@@
namespace Jvm.Pilot.@@N@@
open Jvm Jvm.ClassFile Sem Op Lib Jvm.Free Jvm.Stand Jvm.Pilot.@@N@@.Jvm.D
/-! MADE BY PROGRAM (witnessworld.py) out of the Statement's table words and the real class files: 20 classes; the members and pool entries that the words name. The judged class is class 1, her method 1. -/
namespace start1
open Jvm.ClassFile
def u (s : String) : CpInfo := .utf8 (stringToUtf16 s)
/-- a pool by its gaps: so many unusable entries, then the entry; so many at the end -/
def gap : Nat → List CpInfo → List CpInfo
  | 0, r => r
  | n + 1, r => .unusable :: gap n r
def poolList (es : List (Nat × CpInfo)) (last : Nat) : List CpInfo := es.foldr (fun e r => gap e.1 (e.2 :: r)) (gap last [])
def pool (es : List (Nat × CpInfo)) (last : Nat) : Array CpInfo := ⟨poolList es last⟩
def fileOf (pool : Array CpInfo) (this : Nat) (attrs : Array Attribute := #[]) (ms : Array MethodInfo := #[]) (fl : Nat := 33) (sup : Nat := 0) (ifs : Array Nat := #[]) (fds : Array FieldInfo := #[]) : ClassFile where
  minorVersion := 0
  majorVersion := 65
  constantPool := pool
  accessFlags := fl
  thisClass := this
  superClass := sup
  interfaces := ifs
  fields := fds
  methods := ms
  attributes := attrs
def plain (name : String) (sup : Option ClassId) : Class where
  name := name
  kind := .ordinary
  loader := none
  accessFlags := 33
  super := sup
  interfaces := #[]
  cf := none
  fields := #[]
  methods := #[]
  instanceTypes := #[]
  staticTypes := #[]
  resolved := #[]
  callSites := []
  init := .initialized
  statics := none
  mirror := none

def pool0 : Array CpInfo := pool [(5, u "<init>"), (0, u "()V"), (1, .class_ 10), (1, u "java/lang/Object")] 113

def k0c0 : Code := { maxStack := 0, maxLocals := 1, code := object_method_1_code, exceptionTable := #[], attributes := #[] }
def k0m0 : Method := { name := "<init>", desc := "()V", sig := { parameters := [], returnType := none }, accessFlags := 1, code := some k0c0 }
/-- java/lang/Object -/
def k0 : Class := { plain "java/lang/Object" none with
  accessFlags := 33
  interfaces := #[]
  cf := some (fileOf pool0 8 #[] #[{ accessFlags := 1, nameIndex := 5, descriptorIndex := 6, attributes := #[] }] 33 0 #[] #[])
  fields := #[]
  methods := #[k0m0]
  instanceTypes := #[]
  staticTypes := #[]
  resolved := Array.replicate 124 none
  statics := none }

def pool1 : Array CpInfo := pool [(2, .class_ 4), (1, u "java/lang/Object"), (0, u "<init>"), (0, u "()V"), (0, .class_ 8), (0, u "java/lang/String"), (0, .methodref 7 10), (0, .nameAndType 5 11), (0, u "([C)V"), (0, .class_ 13), (0, u "com/example/darja/darja/Standing"), (0, .methodref 12 15), (0, .nameAndType 5 16), (0, u "(ILjava/lang/String;J)V"), (0, .methodref 12 18), (0, .nameAndType 19 20), (0, u "equals"), (0, u "(Ljava/lang/Object;)Z"), (0, .class_ 22), (0, u "com/example/darja/darja/StandingEqualsPinLaw"), (2, u "law"), (0, u "(IIJJII)Z")] 5

def k1m0 : Method := { name := "<init>", desc := "()V", sig := { parameters := [], returnType := none }, accessFlags := 1, code := none }
def k1c1 : Code := { maxStack := 6, maxLocals := 29, code := code, exceptionTable := #[], attributes := #[] }
def k1m1 : Method := { name := "law", desc := "(IIJJII)Z", sig := { parameters := [.int, .int, .long, .long, .int, .int], returnType := some .boolean }, accessFlags := 9, code := some k1c1 }
/-- com/example/darja/darja/StandingEqualsPinLaw -/
def k1 : Class := { plain "com/example/darja/darja/StandingEqualsPinLaw" (some 0) with
  accessFlags := 49
  interfaces := #[]
  cf := some (fileOf pool1 21 #[] #[{ accessFlags := 1, nameIndex := 5, descriptorIndex := 6, attributes := #[] }, { accessFlags := 9, nameIndex := 25, descriptorIndex := 26, attributes := #[] }] 49 2 #[] #[])
  fields := #[]
  methods := #[k1m0, k1m1]
  instanceTypes := #[]
  staticTypes := #[]
  resolved := Array.replicate 32 none
  statics := none }

def pool2 : Array CpInfo := pool [(1, .class_ 2), (0, u "java/io/Serializable"), (0, .class_ 4), (0, u "java/lang/Object")] 2

/-- java/io/Serializable -/
def k2 : Class := { plain "java/io/Serializable" (some 0) with
  accessFlags := 1537
  interfaces := #[]
  cf := some (fileOf pool2 1 #[] #[] 1537 3 #[] #[])
  fields := #[]
  methods := #[]
  instanceTypes := #[]
  staticTypes := #[]
  resolved := Array.replicate 7 none
  statics := none }

def pool3 : Array CpInfo := pool [(1, .class_ 2), (0, u "java/lang/Comparable"), (0, .class_ 4), (0, u "java/lang/Object")] 7

/-- java/lang/Comparable -/
def k3 : Class := { plain "java/lang/Comparable" (some 0) with
  accessFlags := 1537
  interfaces := #[]
  cf := some (fileOf pool3 1 #[] #[] 1537 3 #[] #[])
  fields := #[]
  methods := #[]
  instanceTypes := #[]
  staticTypes := #[]
  resolved := Array.replicate 12 none
  statics := none }

def pool4 : Array CpInfo := pool [(2, .class_ 4), (1, u "java/lang/CharSequence"), (42, .class_ 48), (0, u "java/lang/CharSequence$1CodePointIterator"), (10, .class_ 60), (0, u "java/lang/CharSequence$1CharIterator"), (5, .class_ 67), (0, u "java/lang/Object")] 63

/-- java/lang/CharSequence -/
def k4 : Class := { plain "java/lang/CharSequence" (some 0) with
  accessFlags := 1537
  interfaces := #[]
  cf := some (fileOf pool4 2 #[.nestMembers #[47, 59]] #[] 1537 66 #[] #[])
  fields := #[]
  methods := #[]
  instanceTypes := #[]
  staticTypes := #[]
  resolved := Array.replicate 131 none
  statics := none }

def pool5 : Array CpInfo := pool [(1, .class_ 2), (0, u "java/lang/constant/Constable"), (0, .class_ 4), (0, u "java/lang/Object")] 6

/-- java/lang/constant/Constable -/
def k5 : Class := { plain "java/lang/constant/Constable" (some 0) with
  accessFlags := 1537
  interfaces := #[]
  cf := some (fileOf pool5 1 #[] #[] 1537 3 #[] #[])
  fields := #[]
  methods := #[]
  instanceTypes := #[]
  staticTypes := #[]
  resolved := Array.replicate 11 none
  statics := none }

def pool6 : Array CpInfo := pool [(1, .class_ 2), (0, u "java/lang/constant/ConstantDesc"), (0, .class_ 4), (0, u "java/lang/Object")] 32

/-- java/lang/constant/ConstantDesc -/
def k6 : Class := { plain "java/lang/constant/ConstantDesc" (some 0) with
  accessFlags := 1537
  interfaces := #[]
  cf := some (fileOf pool6 1 #[] #[] 1537 3 #[] #[])
  fields := #[]
  methods := #[]
  instanceTypes := #[]
  staticTypes := #[]
  resolved := Array.replicate 37 none
  statics := none }

def pool7 : Array CpInfo := pool [(1, .methodref 2 3), (0, .class_ 4), (0, .nameAndType 5 6), (0, u "java/lang/Object"), (0, u "<init>"), (0, u "()V"), (2, .fieldref 10 11), (0, .class_ 12), (0, .nameAndType 13 14), (0, u "java/lang/String"), (0, u "value"), (0, u "[B"), (0, .fieldref 10 16), (0, .nameAndType 17 18), (0, u "coder"), (0, u "B"), (2, u "hash"), (0, u "I"), (2, u "hashIsZero"), (0, u "Z"), (0, .methodref 10 28), (0, .nameAndType 5 29), (0, u "([CIILjava/lang/Void;)V"), (8, .fieldref 10 39), (0, .nameAndType 40 26), (0, u "COMPACT_STRINGS"), (1, .class_ 44), (1, u "java/lang/StringUTF16"), (0, u "compress"), (1, .methodref 42 48), (0, .nameAndType 49 50), (0, u "coderFromArrayLen"), (0, u "([BI)B"), (56, .class_ 109), (1, u "java/lang/StringLatin1"), (67, .methodref 42 178), (0, .nameAndType 45 179), (0, u "([CII)[B"), (361, .methodref 107 542), (0, .nameAndType 543 544), (0, u "equals"), (0, u "([B[B)Z"), (28, u "(Ljava/lang/Object;)Z"), (1, .class_ 576), (0, u "java/lang/CharSequence"), (22, u "CASE_INSENSITIVE_ORDER"), (0, u "Ljava/util/Comparator;"), (409, u "([C)V"), (90, u "serialPersistentFields"), (0, u "[Ljava/io/ObjectStreamField;"), (0, .class_ 1104), (0, u "java/lang/String$CaseInsensitiveComparator"), (1, .class_ 1107), (0, u "java/io/Serializable"), (0, .class_ 1109), (0, u "java/lang/Comparable"), (0, .class_ 1111), (0, u "java/lang/constant/Constable"), (0, .class_ 1113), (0, u "java/lang/constant/ConstantDesc"), (2, u "serialVersionUID"), (0, u "J"), (3, u "REPL"), (0, u "C"), (2, u "LATIN1"), (1, u "UTF16")] 323

def k7m0 : Method := { name := "<init>", desc := "()V", sig := { parameters := [], returnType := none }, accessFlags := 1, code := none }
def k7c1 : Code := { maxStack := 5, maxLocals := 2, code := jdk_42_method_3_code, exceptionTable := #[], attributes := #[] }
def k7m1 : Method := { name := "<init>", desc := "([C)V", sig := { parameters := [(.array .char)], returnType := none }, accessFlags := 1, code := some k7c1 }
def k7c2 : Code := { maxStack := 2, maxLocals := 3, code := jdk_42_method_66_code, exceptionTable := #[], attributes := #[] }
def k7m2 : Method := { name := "equals", desc := "(Ljava/lang/Object;)Z", sig := { parameters := [(.object "java/lang/Object")], returnType := some .boolean }, accessFlags := 1, code := some k7c2 }
def k7c3 : Code := { maxStack := 4, maxLocals := 6, code := jdk_42_method_149_code, exceptionTable := #[], attributes := #[] }
def k7m3 : Method := { name := "<init>", desc := "([CIILjava/lang/Void;)V", sig := { parameters := [(.array .char), .int, .int, (.object "java/lang/Void")], returnType := none }, accessFlags := 2, code := some k7c3 }
/-- java/lang/String -/
def k7 : Class := { plain "java/lang/String" (some 0) with
  accessFlags := 49
  interfaces := #[2, 3, 4, 5, 6]
  cf := some (fileOf pool7 10 #[.nestMembers #[1103]] #[{ accessFlags := 1, nameIndex := 5, descriptorIndex := 6, attributes := #[] }, { accessFlags := 1, nameIndex := 5, descriptorIndex := 1010, attributes := #[] }, { accessFlags := 1, nameIndex := 543, descriptorIndex := 573, attributes := #[] }, { accessFlags := 2, nameIndex := 5, descriptorIndex := 29, attributes := #[] }] 49 2 #[1106, 1108, 575, 1110, 1112] #[{ accessFlags := 18, nameIndex := 13, descriptorIndex := 14, attributes := #[] }, { accessFlags := 18, nameIndex := 17, descriptorIndex := 18, attributes := #[] }, { accessFlags := 2, nameIndex := 21, descriptorIndex := 22, attributes := #[] }, { accessFlags := 2, nameIndex := 25, descriptorIndex := 26, attributes := #[] }, { accessFlags := 26, nameIndex := 1116, descriptorIndex := 1117, attributes := #[] }, { accessFlags := 24, nameIndex := 40, descriptorIndex := 26, attributes := #[] }, { accessFlags := 26, nameIndex := 1101, descriptorIndex := 1102, attributes := #[] }, { accessFlags := 26, nameIndex := 1121, descriptorIndex := 1122, attributes := #[] }, { accessFlags := 25, nameIndex := 599, descriptorIndex := 600, attributes := #[] }, { accessFlags := 24, nameIndex := 1125, descriptorIndex := 18, attributes := #[] }, { accessFlags := 24, nameIndex := 1127, descriptorIndex := 18, attributes := #[] }])
  fields := #[{ name := "value", type := (.array .byte), accessFlags := 18, slot := 0, constantValue := 0 }, { name := "coder", type := .byte, accessFlags := 18, slot := 1, constantValue := 0 }, { name := "hash", type := .int, accessFlags := 2, slot := 2, constantValue := 0 }, { name := "hashIsZero", type := .boolean, accessFlags := 2, slot := 3, constantValue := 0 }, { name := "serialVersionUID", type := .long, accessFlags := 26, slot := 0, constantValue := 0 }, { name := "COMPACT_STRINGS", type := .boolean, accessFlags := 24, slot := 1, constantValue := 0 }, { name := "serialPersistentFields", type := (.array (.object "java/io/ObjectStreamField")), accessFlags := 26, slot := 2, constantValue := 0 }, { name := "REPL", type := .char, accessFlags := 26, slot := 3, constantValue := 0 }, { name := "CASE_INSENSITIVE_ORDER", type := (.object "java/util/Comparator"), accessFlags := 25, slot := 4, constantValue := 0 }, { name := "LATIN1", type := .byte, accessFlags := 24, slot := 5, constantValue := 0 }, { name := "UTF16", type := .byte, accessFlags := 24, slot := 6, constantValue := 0 }]
  methods := #[k7m0, k7m1, k7m2, k7m3]
  instanceTypes := #[(.array .byte), .byte, .int, .boolean]
  staticTypes := #[.long, .boolean, (.array (.object "java/io/ObjectStreamField")), .char, (.object "java/util/Comparator"), .byte, .byte]
  resolved := Array.replicate 1451 none
  statics := some 0 }

def pool8 : Array CpInfo := pool [(6, .class_ 8), (1, u "java/lang/Object"), (0, u "<init>"), (0, u "()V"), (1, .class_ 14), (1, u "java/lang/StringUTF16"), (31, u "$assertionsDisabled"), (0, u "Z"), (13, u "HI_BYTE_SHIFT"), (0, u "I"), (2, u "LO_BYTE_SHIFT"), (49, .methodref 12 116), (0, .nameAndType 117 118), (0, u "compress"), (0, u "([CI[BII)I"), (3, u "([CII)[B"), (138, u "coderFromArrayLen"), (0, u "([BI)B"), (106, .class_ 371), (1, u "java/lang/StringUTF16$LinesSpliterator"), (58, u "MAX_LENGTH"), (196, .class_ 628), (0, u "java/lang/StringUTF16$CodePointsSpliterator"), (0, .class_ 630), (0, u "java/lang/StringUTF16$CharsSpliterator")] 4

def k8m0 : Method := { name := "<init>", desc := "()V", sig := { parameters := [], returnType := none }, accessFlags := 0, code := none }
def k8c1 : Code := { maxStack := 2, maxLocals := 2, code := jdk_52_method_15_code, exceptionTable := #[], attributes := #[] }
def k8m1 : Method := { name := "coderFromArrayLen", desc := "([BI)B", sig := { parameters := [(.array .byte), .int], returnType := some .byte }, accessFlags := 8, code := some k8c1 }
def k8c2 : Code := { maxStack := 5, maxLocals := 6, code := jdk_52_method_16_code, exceptionTable := #[], attributes := #[] }
def k8m2 : Method := { name := "compress", desc := "([CII)[B", sig := { parameters := [(.array .char), .int, .int], returnType := some (.array .byte) }, accessFlags := 9, code := some k8c2 }
def k8c3 : Code := { maxStack := 3, maxLocals := 7, code := jdk_52_method_21_code, exceptionTable := #[], attributes := #[] }
def k8m3 : Method := { name := "compress", desc := "([CI[BII)I", sig := { parameters := [(.array .char), .int, (.array .byte), .int, .int], returnType := some .int }, accessFlags := 9, code := some k8c3 }
/-- java/lang/StringUTF16 -/
def k8 : Class := { plain "java/lang/StringUTF16" (some 0) with
  accessFlags := 48
  interfaces := #[]
  cf := some (fileOf pool8 12 #[.nestMembers #[627, 629, 369]] #[{ accessFlags := 0, nameIndex := 9, descriptorIndex := 10, attributes := #[] }, { accessFlags := 8, nameIndex := 261, descriptorIndex := 262, attributes := #[] }, { accessFlags := 9, nameIndex := 117, descriptorIndex := 122, attributes := #[] }, { accessFlags := 9, nameIndex := 117, descriptorIndex := 118, attributes := #[] }] 48 6 #[] #[{ accessFlags := 26, nameIndex := 61, descriptorIndex := 62, attributes := #[] }, { accessFlags := 26, nameIndex := 65, descriptorIndex := 62, attributes := #[] }, { accessFlags := 24, nameIndex := 430, descriptorIndex := 62, attributes := #[] }, { accessFlags := 4120, nameIndex := 46, descriptorIndex := 47, attributes := #[] }])
  fields := #[{ name := "HI_BYTE_SHIFT", type := .int, accessFlags := 26, slot := 0, constantValue := 0 }, { name := "LO_BYTE_SHIFT", type := .int, accessFlags := 26, slot := 1, constantValue := 0 }, { name := "MAX_LENGTH", type := .int, accessFlags := 24, slot := 2, constantValue := 0 }, { name := "$assertionsDisabled", type := .boolean, accessFlags := 4120, slot := 3, constantValue := 0 }]
  methods := #[k8m0, k8m1, k8m2, k8m3]
  instanceTypes := #[]
  staticTypes := #[.int, .int, .int, .boolean]
  resolved := Array.replicate 635 none
  statics := none }

def pool9 : Array CpInfo := pool [(1, .methodref 2 3), (0, .class_ 4), (0, .nameAndType 5 6), (0, u "java/lang/Object"), (0, u "<init>"), (0, u "()V"), (0, .fieldref 8 9), (0, .class_ 10), (0, .nameAndType 11 12), (0, u "com/example/darja/darja/Standing"), (0, u "rank"), (0, u "I"), (0, .fieldref 8 14), (0, .nameAndType 15 16), (0, u "member"), (0, u "Ljava/lang/String;"), (0, .fieldref 8 18), (0, .nameAndType 19 20), (0, u "total"), (0, u "J"), (0, .methodref 22 23), (0, .class_ 24), (0, .nameAndType 25 26), (0, u "java/lang/String"), (0, u "equals"), (0, u "(Ljava/lang/Object;)Z"), (21, u "(ILjava/lang/String;J)V")] 25

def k9c0 : Code := { maxStack := 3, maxLocals := 5, code := prog_23_method_1_code, exceptionTable := #[], attributes := #[] }
def k9m0 : Method := { name := "<init>", desc := "(ILjava/lang/String;J)V", sig := { parameters := [.int, (.object "java/lang/String"), .long], returnType := none }, accessFlags := 0, code := some k9c0 }
def k9c1 : Code := { maxStack := 4, maxLocals := 3, code := prog_23_method_5_code, exceptionTable := #[], attributes := #[] }
def k9m1 : Method := { name := "equals", desc := "(Ljava/lang/Object;)Z", sig := { parameters := [(.object "java/lang/Object")], returnType := some .boolean }, accessFlags := 1, code := some k9c1 }
/-- com/example/darja/darja/Standing -/
def k9 : Class := { plain "com/example/darja/darja/Standing" (some 0) with
  accessFlags := 49
  interfaces := #[]
  cf := some (fileOf pool9 8 #[] #[{ accessFlags := 0, nameIndex := 5, descriptorIndex := 48, attributes := #[] }, { accessFlags := 1, nameIndex := 25, descriptorIndex := 26, attributes := #[] }] 49 2 #[] #[{ accessFlags := 18, nameIndex := 11, descriptorIndex := 12, attributes := #[] }, { accessFlags := 18, nameIndex := 15, descriptorIndex := 16, attributes := #[] }, { accessFlags := 18, nameIndex := 19, descriptorIndex := 20, attributes := #[] }])
  fields := #[{ name := "rank", type := .int, accessFlags := 18, slot := 0, constantValue := 0 }, { name := "member", type := (.object "java/lang/String"), accessFlags := 18, slot := 1, constantValue := 0 }, { name := "total", type := .long, accessFlags := 18, slot := 2, constantValue := 0 }]
  methods := #[k9m0, k9m1]
  instanceTypes := #[.int, (.object "java/lang/String"), .long]
  staticTypes := #[]
  resolved := Array.replicate 74 none
  statics := none }

def pool10 : Array CpInfo := pool [(4, .class_ 6), (1, u "java/lang/Object"), (0, u "<init>"), (0, u "()V"), (5, .class_ 16), (1, u "java/lang/StringLatin1"), (104, u "$assertionsDisabled"), (0, u "Z"), (98, .class_ 223), (1, u "java/lang/StringLatin1$LinesSpliterator"), (57, u "equals"), (0, u "([B[B)Z"), (107, .class_ 391), (0, u "java/lang/StringLatin1$CharsSpliterator")] 3

def k10m0 : Method := { name := "<init>", desc := "()V", sig := { parameters := [], returnType := none }, accessFlags := 0, code := none }
def k10c1 : Code := { maxStack := 3, maxLocals := 3, code := jdk_43_method_13_code, exceptionTable := #[], attributes := #[] }
def k10m1 : Method := { name := "equals", desc := "([B[B)Z", sig := { parameters := [(.array .byte), (.array .byte)], returnType := some .boolean }, accessFlags := 9, code := some k10c1 }
/-- java/lang/StringLatin1 -/
def k10 : Class := { plain "java/lang/StringLatin1" (some 0) with
  accessFlags := 48
  interfaces := #[]
  cf := some (fileOf pool10 14 #[.nestMembers #[390, 221]] #[{ accessFlags := 0, nameIndex := 7, descriptorIndex := 8, attributes := #[] }, { accessFlags := 9, nameIndex := 281, descriptorIndex := 282, attributes := #[] }] 48 4 #[] #[{ accessFlags := 4120, nameIndex := 121, descriptorIndex := 122, attributes := #[] }])
  fields := #[{ name := "$assertionsDisabled", type := .boolean, accessFlags := 4120, slot := 0, constantValue := 0 }]
  methods := #[k10m0, k10m1]
  instanceTypes := #[]
  staticTypes := #[.boolean]
  resolved := Array.replicate 395 none
  statics := none }

def pool11 : Array CpInfo := pool [(2, .class_ 4), (1, u "java/lang/Object"), (0, u "<init>"), (0, u "()V"), (17, .class_ 26), (1, u "jdk/internal/util/Preconditions"), (28, .class_ 56), (0, u "jdk/internal/util/Preconditions$4"), (57, .class_ 115), (0, u "jdk/internal/util/Preconditions$1"), (7, u "SIOOBE_FORMATTER"), (0, u "Ljava/util/function/BiFunction;"), (0, .class_ 126), (0, u "jdk/internal/util/Preconditions$2"), (3, u "AIOOBE_FORMATTER"), (0, .class_ 132), (0, u "jdk/internal/util/Preconditions$3"), (3, u "IOOBE_FORMATTER")] 57

def k11m0 : Method := { name := "<init>", desc := "()V", sig := { parameters := [], returnType := none }, accessFlags := 1, code := none }
/-- jdk/internal/util/Preconditions -/
def k11 : Class := { plain "jdk/internal/util/Preconditions" (some 0) with
  accessFlags := 33
  interfaces := #[]
  cf := some (fileOf pool11 24 #[.nestMembers #[55, 131, 125, 114]] #[{ accessFlags := 1, nameIndex := 5, descriptorIndex := 6, attributes := #[] }] 33 2 #[] #[{ accessFlags := 25, nameIndex := 123, descriptorIndex := 124, attributes := #[] }, { accessFlags := 25, nameIndex := 130, descriptorIndex := 124, attributes := #[] }, { accessFlags := 25, nameIndex := 136, descriptorIndex := 124, attributes := #[] }])
  fields := #[{ name := "SIOOBE_FORMATTER", type := (.object "java/util/function/BiFunction"), accessFlags := 25, slot := 0, constantValue := 0 }, { name := "AIOOBE_FORMATTER", type := (.object "java/util/function/BiFunction"), accessFlags := 25, slot := 1, constantValue := 0 }, { name := "IOOBE_FORMATTER", type := (.object "java/util/function/BiFunction"), accessFlags := 25, slot := 2, constantValue := 0 }]
  methods := #[k11m0]
  instanceTypes := #[]
  staticTypes := #[(.object "java/util/function/BiFunction"), (.object "java/util/function/BiFunction"), (.object "java/util/function/BiFunction")]
  resolved := Array.replicate 194 none
  statics := some 1 }

def pool12 : Array CpInfo := pool [(9, u "<init>"), (6, .class_ 18), (1, u "java/lang/Object"), (0, u "()V"), (1, .class_ 23), (1, u "jdk/internal/util/ArraysSupport"), (0, u "LOG2_ARRAY_LONG_INDEX_SCALE"), (0, u "I"), (2, u "U"), (0, u "Ljdk/internal/misc/Unsafe;"), (8, u "BIG_ENDIAN"), (0, u "Z"), (8, u "LOG2_BYTE_BIT_SIZE"), (4, u "LOG2_ARRAY_INT_INDEX_SCALE"), (54, u "JLA"), (0, u "Ljdk/internal/access/JavaLangAccess;"), (11, u "LOG2_ARRAY_BOOLEAN_INDEX_SCALE"), (9, u "LOG2_ARRAY_BYTE_INDEX_SCALE"), (5, u "LOG2_ARRAY_CHAR_INDEX_SCALE"), (5, u "LOG2_ARRAY_SHORT_INDEX_SCALE"), (18, u "LOG2_ARRAY_FLOAT_INDEX_SCALE"), (24, u "LOG2_ARRAY_DOUBLE_INDEX_SCALE"), (89, u "T_BOOLEAN"), (2, u "T_CHAR"), (1, u "T_FLOAT"), (1, u "T_DOUBLE"), (1, u "T_BYTE"), (1, u "T_SHORT"), (1, u "T_INT"), (1, u "T_LONG"), (1, u "SOFT_MAX_ARRAY_LENGTH")] 83

def k12m0 : Method := { name := "<init>", desc := "()V", sig := { parameters := [], returnType := none }, accessFlags := 2, code := none }
/-- jdk/internal/util/ArraysSupport -/
def k12 : Class := { plain "jdk/internal/util/ArraysSupport" (some 0) with
  accessFlags := 33
  interfaces := #[]
  cf := some (fileOf pool12 21 #[] #[{ accessFlags := 2, nameIndex := 9, descriptorIndex := 19, attributes := #[] }] 33 16 #[] #[{ accessFlags := 24, nameIndex := 28, descriptorIndex := 29, attributes := #[] }, { accessFlags := 26, nameIndex := 38, descriptorIndex := 39, attributes := #[] }, { accessFlags := 25, nameIndex := 121, descriptorIndex := 25, attributes := #[] }, { accessFlags := 25, nameIndex := 131, descriptorIndex := 25, attributes := #[] }, { accessFlags := 25, nameIndex := 137, descriptorIndex := 25, attributes := #[] }, { accessFlags := 25, nameIndex := 143, descriptorIndex := 25, attributes := #[] }, { accessFlags := 25, nameIndex := 53, descriptorIndex := 25, attributes := #[] }, { accessFlags := 25, nameIndex := 24, descriptorIndex := 25, attributes := #[] }, { accessFlags := 25, nameIndex := 162, descriptorIndex := 25, attributes := #[] }, { accessFlags := 25, nameIndex := 187, descriptorIndex := 25, attributes := #[] }, { accessFlags := 26, nameIndex := 48, descriptorIndex := 25, attributes := #[] }, { accessFlags := 25, nameIndex := 277, descriptorIndex := 25, attributes := #[] }, { accessFlags := 25, nameIndex := 280, descriptorIndex := 25, attributes := #[] }, { accessFlags := 25, nameIndex := 282, descriptorIndex := 25, attributes := #[] }, { accessFlags := 25, nameIndex := 284, descriptorIndex := 25, attributes := #[] }, { accessFlags := 25, nameIndex := 286, descriptorIndex := 25, attributes := #[] }, { accessFlags := 25, nameIndex := 288, descriptorIndex := 25, attributes := #[] }, { accessFlags := 25, nameIndex := 290, descriptorIndex := 25, attributes := #[] }, { accessFlags := 25, nameIndex := 292, descriptorIndex := 25, attributes := #[] }, { accessFlags := 26, nameIndex := 108, descriptorIndex := 109, attributes := #[] }, { accessFlags := 25, nameIndex := 294, descriptorIndex := 25, attributes := #[] }])
  fields := #[{ name := "U", type := (.object "jdk/internal/misc/Unsafe"), accessFlags := 24, slot := 0, constantValue := 0 }, { name := "BIG_ENDIAN", type := .boolean, accessFlags := 26, slot := 1, constantValue := 0 }, { name := "LOG2_ARRAY_BOOLEAN_INDEX_SCALE", type := .int, accessFlags := 25, slot := 2, constantValue := 0 }, { name := "LOG2_ARRAY_BYTE_INDEX_SCALE", type := .int, accessFlags := 25, slot := 3, constantValue := 0 }, { name := "LOG2_ARRAY_CHAR_INDEX_SCALE", type := .int, accessFlags := 25, slot := 4, constantValue := 0 }, { name := "LOG2_ARRAY_SHORT_INDEX_SCALE", type := .int, accessFlags := 25, slot := 5, constantValue := 0 }, { name := "LOG2_ARRAY_INT_INDEX_SCALE", type := .int, accessFlags := 25, slot := 6, constantValue := 0 }, { name := "LOG2_ARRAY_LONG_INDEX_SCALE", type := .int, accessFlags := 25, slot := 7, constantValue := 0 }, { name := "LOG2_ARRAY_FLOAT_INDEX_SCALE", type := .int, accessFlags := 25, slot := 8, constantValue := 0 }, { name := "LOG2_ARRAY_DOUBLE_INDEX_SCALE", type := .int, accessFlags := 25, slot := 9, constantValue := 0 }, { name := "LOG2_BYTE_BIT_SIZE", type := .int, accessFlags := 26, slot := 10, constantValue := 0 }, { name := "T_BOOLEAN", type := .int, accessFlags := 25, slot := 11, constantValue := 0 }, { name := "T_CHAR", type := .int, accessFlags := 25, slot := 12, constantValue := 0 }, { name := "T_FLOAT", type := .int, accessFlags := 25, slot := 13, constantValue := 0 }, { name := "T_DOUBLE", type := .int, accessFlags := 25, slot := 14, constantValue := 0 }, { name := "T_BYTE", type := .int, accessFlags := 25, slot := 15, constantValue := 0 }, { name := "T_SHORT", type := .int, accessFlags := 25, slot := 16, constantValue := 0 }, { name := "T_INT", type := .int, accessFlags := 25, slot := 17, constantValue := 0 }, { name := "T_LONG", type := .int, accessFlags := 25, slot := 18, constantValue := 0 }, { name := "JLA", type := (.object "jdk/internal/access/JavaLangAccess"), accessFlags := 26, slot := 19, constantValue := 0 }, { name := "SOFT_MAX_ARRAY_LENGTH", type := .int, accessFlags := 25, slot := 20, constantValue := 0 }]
  methods := #[k12m0]
  instanceTypes := #[]
  staticTypes := #[(.object "jdk/internal/misc/Unsafe"), .boolean, .int, .int, .int, .int, .int, .int, .int, .int, .int, .int, .int, .int, .int, .int, .int, .int, .int, (.object "jdk/internal/access/JavaLangAccess"), .int]
  resolved := Array.replicate 378 none
  statics := none }

def pool13 : Array CpInfo := pool [(1, u "java/lang/Cloneable"), (0, .class_ 1), (0, u "java/lang/Object"), (0, .class_ 3)] 3

/-- java/lang/Cloneable -/
def k13 : Class := { plain "java/lang/Cloneable" (some 0) with
  accessFlags := 1537
  interfaces := #[]
  cf := some (fileOf pool13 2 #[] #[] 1537 4 #[] #[])
  fields := #[]
  methods := #[]
  instanceTypes := #[]
  staticTypes := #[]
  resolved := Array.replicate 8 none
  statics := none }

/-- the primitive byte -/
def k14 : Class := { plain "byte" none with kind := .primitive 'B', accessFlags := 0x411 }
/-- [B -/
def k15 : Class := { plain "[B" (some 0) with kind := .array 14 .byte, interfaces := #[13, 2], accessFlags := 1041 }

/-- the primitive char -/
def k16 : Class := { plain "char" none with kind := .primitive 'C', accessFlags := 0x411 }
/-- [C -/
def k17 : Class := { plain "[C" (some 0) with kind := .array 16 .char, interfaces := #[13, 2], accessFlags := 1041 }

/-- the primitive int -/
def k18 : Class := { plain "int" none with kind := .primitive 'I', accessFlags := 0x411 }
/-- [I -/
def k19 : Class := { plain "[I" (some 0) with kind := .array 18 .int, interfaces := #[13, 2], accessFlags := 1041 }

def heap : Heap := #[{ cls := 7, slots := #[.long 0, .int 1, .null, .int 0, .null, .int 0, .int 0], vm := .statics 7 },
  { cls := 11, slots := #[.null, .null, .null], vm := .statics 11 }]
def classes : Array Class := #[k0, k1, k2, k3, k4, k5, k6, k7, k8, k9, k10, k11, k12, k13, k14, k15, k16, k17, k18, k19]
def interned : List (Array UInt16 × Addr) := []
def slotsUsed : Nat := 10
def theMethod : MethodId := ⟨1, 1⟩
def args0 : Array Value := #[.int 1, .int 2, .long 3, .long 4, .int 5, .int 6]
def aboutOver (below : List Frame) : State where
  vm := { classes := classes, interned := interned.toArray }
  heap := heap
  slotsUsed := slotsUsed
  threads := #[{ frames := .invoking theMethod args0 :: below }]
def below0 : List Frame := [.native { method := ⟨0, 0⟩, args := #[] }]
def about1 : State := aboutOver below0
def p0 : Program := .bare "" "" ""
def e0 : Env := launch0.env 0 0 0
theorem w_frames : about1.frames = Frame.invoking theMethod args0 :: below0 := rfl
set_option maxRecDepth 65536 in
theorem w_args : argsFit about1.vm theMethod args0 = true := by decide +kernel
set_option maxRecDepth 65536 in
theorem w_heap : heapFits about1 = true := by decide +kernel
set_option maxRecDepth 65536 in
theorem w_runnable : about1.curStatus? = some .runnable := by decide +kernel
set_option maxRecDepth 65536 in
theorem w_alone : about1.alone = true := by decide +kernel
set_option maxRecDepth 65536 in
theorem w_named : about1.methodNamed? x = some theMethod := by decide +kernel
set_option maxRecDepth 65536 in
theorem w_hears : about1.hears theMethod below0 = true := by decide +kernel
set_option maxRecDepth 65536 in
theorem w_ripe : about1.ripe theMethod args0 below0 = true := by decide +kernel
theorem w_running : about1.status = .running := rfl
set_option maxRecDepth 65536 in
theorem w_room : about1.hasRoom e0.platform room_1 = true :=
  launch0.hasRoom_least _ room_1 (by decide +kernel) (by decide +kernel) (by decide +kernel) (by decide +kernel) (by decide +kernel) (by decide +kernel)
theorem allAtoms_all (ts : List Jvm.Cond) (a : Array Jvm.Value) (st : Jvm.State) : (allAtoms ts).before a st = ts.all (fun c => c.before a st) := by
  induction ts with
  | nil => rfl
  | cons c t ih =>
    show (Jvm.Cond.and c (allAtoms t)).before a st = _
    rw [Jvm.Cond.before_and, ih, List.all_cons]
def words1 : List Jvm.Cond := Jvm.Cond.code x code maxLocals ret :: tables_1
/-- a 'code' word, met by the world's own term for the bytes: nothing is compared byte by byte -/
theorem code_word {y : MethodName} {bytes : ByteArray} {mx : Nat} {rt : Option FieldType} {a : Array Value} {s : State} {m : MethodId} {meth : Method} {c : Code} (h1 : s.methodNamed? y = some m) (h2 : s.vm.method? m = some meth) (h3 : meth.code = some c) (h4 : c.code = bytes)
    (h5 : (c.maxLocals == mx && c.exceptionTable.isEmpty && decide (c.maxStack ≤ mostOperands) && decide (meth.sig.returnType = rt) && !meth.locks && decide (parseMethodDescriptor y.desc = some meth.sig)) = true) : (Jvm.Cond.code y bytes mx rt).before a s = true := by
  simp only [Bool.and_eq_true, beq_iff_eq, Bool.not_eq_true', decide_eq_true_eq] at h5
  obtain ⟨⟨⟨⟨⟨g1, g2⟩, g3⟩, g4⟩, g5⟩, g6⟩ := h5
  simp [Cond.before, Cond.holds, Cond.value, h1, h2, h3, h4, g1, g2, g3, g4, g5, g6]
def isCode : Jvm.Cond → Bool
  | .code _ _ _ _ => true
  | _ => false
theorem all_split {L : List Jvm.Cond} {P : Jvm.Cond → Bool} (h1 : L.all (fun c => isCode c || P c) = true) (h2 : ∀ c ∈ L.filter isCode, P c = true) : L.all P = true := by
  refine List.all_eq_true.mpr fun c hc => ?_
  have h := List.all_eq_true.mp h1 c hc
  rcases Bool.eq_false_or_eq_true (isCode c) with hi | hi
  · exact h2 c (List.mem_filter.mpr ⟨hc, hi⟩)
  · simpa [hi] using h
set_option maxRecDepth 65536 in
theorem w_c0 : (Jvm.Cond.code x code maxLocals ret).before args0 about1 = true := code_word (m := ⟨1, 1⟩) (meth := k1m1) (c := k1c1) (by decide +kernel) rfl rfl rfl (by decide +kernel)
set_option maxRecDepth 65536 in
theorem w_c1 : (Jvm.Cond.code ({ cls := "java/lang/String", name := "<init>", desc := "([C)V" } : Jvm.MethodName) jdk_42_method_3_code (2 : Nat) (Option.none : Option Jvm.ClassFile.FieldType)).before args0 about1 = true := code_word (m := ⟨7, 1⟩) (meth := k7m1) (c := k7c1) (by decide +kernel) rfl rfl rfl (by decide +kernel)
set_option maxRecDepth 65536 in
theorem w_c2 : (Jvm.Cond.code ({ cls := "java/lang/String", name := "<init>", desc := "([CIILjava/lang/Void;)V" } : Jvm.MethodName) jdk_42_method_149_code (6 : Nat) (Option.none : Option Jvm.ClassFile.FieldType)).before args0 about1 = true := code_word (m := ⟨7, 3⟩) (meth := k7m3) (c := k7c3) (by decide +kernel) rfl rfl rfl (by decide +kernel)
set_option maxRecDepth 65536 in
theorem w_c3 : (Jvm.Cond.code ({ cls := "java/lang/Object", name := "<init>", desc := "()V" } : Jvm.MethodName) object_method_1_code (1 : Nat) (Option.none : Option Jvm.ClassFile.FieldType)).before args0 about1 = true := code_word (m := ⟨0, 0⟩) (meth := k0m0) (c := k0c0) (by decide +kernel) rfl rfl rfl (by decide +kernel)
set_option maxRecDepth 65536 in
theorem w_c4 : (Jvm.Cond.code ({ cls := "java/lang/StringUTF16", name := "compress", desc := "([CII)[B" } : Jvm.MethodName) jdk_52_method_16_code (6 : Nat) (Option.some (Jvm.ClassFile.FieldType.array Jvm.ClassFile.FieldType.byte))).before args0 about1 = true := code_word (m := ⟨8, 2⟩) (meth := k8m2) (c := k8c2) (by decide +kernel) rfl rfl rfl (by decide +kernel)
set_option maxRecDepth 65536 in
theorem w_c5 : (Jvm.Cond.code ({ cls := "java/lang/StringUTF16", name := "compress", desc := "([CI[BII)I" } : Jvm.MethodName) jdk_52_method_21_code (7 : Nat) (Option.some Jvm.ClassFile.FieldType.int)).before args0 about1 = true := code_word (m := ⟨8, 3⟩) (meth := k8m3) (c := k8c3) (by decide +kernel) rfl rfl rfl (by decide +kernel)
set_option maxRecDepth 65536 in
theorem w_c6 : (Jvm.Cond.code ({ cls := "java/lang/StringUTF16", name := "coderFromArrayLen", desc := "([BI)B" } : Jvm.MethodName) jdk_52_method_15_code (2 : Nat) (Option.some Jvm.ClassFile.FieldType.byte)).before args0 about1 = true := code_word (m := ⟨8, 1⟩) (meth := k8m1) (c := k8c1) (by decide +kernel) rfl rfl rfl (by decide +kernel)
set_option maxRecDepth 65536 in
theorem w_c7 : (Jvm.Cond.code ({ cls := "com/example/darja/darja/Standing", name := "<init>", desc := "(ILjava/lang/String;J)V" } : Jvm.MethodName) prog_23_method_1_code (5 : Nat) (Option.none : Option Jvm.ClassFile.FieldType)).before args0 about1 = true := code_word (m := ⟨9, 0⟩) (meth := k9m0) (c := k9c0) (by decide +kernel) rfl rfl rfl (by decide +kernel)
set_option maxRecDepth 65536 in
theorem w_c8 : (Jvm.Cond.code ({ cls := "com/example/darja/darja/Standing", name := "equals", desc := "(Ljava/lang/Object;)Z" } : Jvm.MethodName) prog_23_method_5_code (3 : Nat) (Option.some Jvm.ClassFile.FieldType.boolean)).before args0 about1 = true := code_word (m := ⟨9, 1⟩) (meth := k9m1) (c := k9c1) (by decide +kernel) rfl rfl rfl (by decide +kernel)
set_option maxRecDepth 65536 in
theorem w_c9 : (Jvm.Cond.code ({ cls := "java/lang/String", name := "equals", desc := "(Ljava/lang/Object;)Z" } : Jvm.MethodName) jdk_42_method_66_code (3 : Nat) (Option.some Jvm.ClassFile.FieldType.boolean)).before args0 about1 = true := code_word (m := ⟨7, 2⟩) (meth := k7m2) (c := k7c2) (by decide +kernel) rfl rfl rfl (by decide +kernel)
set_option maxRecDepth 65536 in
theorem w_c10 : (Jvm.Cond.code ({ cls := "java/lang/StringLatin1", name := "equals", desc := "([B[B)Z" } : Jvm.MethodName) jdk_43_method_13_code (3 : Nat) (Option.some Jvm.ClassFile.FieldType.boolean)).before args0 about1 = true := code_word (m := ⟨10, 1⟩) (meth := k10m1) (c := k10c1) (by decide +kernel) rfl rfl rfl (by decide +kernel)
def codes1 : List Jvm.Cond := [Jvm.Cond.code x code maxLocals ret, Jvm.Cond.code ({ cls := "java/lang/String", name := "<init>", desc := "([C)V" } : Jvm.MethodName) jdk_42_method_3_code (2 : Nat) (Option.none : Option Jvm.ClassFile.FieldType), Jvm.Cond.code ({ cls := "java/lang/String", name := "<init>", desc := "([CIILjava/lang/Void;)V" } : Jvm.MethodName) jdk_42_method_149_code (6 : Nat) (Option.none : Option Jvm.ClassFile.FieldType), Jvm.Cond.code ({ cls := "java/lang/Object", name := "<init>", desc := "()V" } : Jvm.MethodName) object_method_1_code (1 : Nat) (Option.none : Option Jvm.ClassFile.FieldType), Jvm.Cond.code ({ cls := "java/lang/StringUTF16", name := "compress", desc := "([CII)[B" } : Jvm.MethodName) jdk_52_method_16_code (6 : Nat) (Option.some (Jvm.ClassFile.FieldType.array Jvm.ClassFile.FieldType.byte)), Jvm.Cond.code ({ cls := "java/lang/StringUTF16", name := "compress", desc := "([CI[BII)I" } : Jvm.MethodName) jdk_52_method_21_code (7 : Nat) (Option.some Jvm.ClassFile.FieldType.int), Jvm.Cond.code ({ cls := "java/lang/StringUTF16", name := "coderFromArrayLen", desc := "([BI)B" } : Jvm.MethodName) jdk_52_method_15_code (2 : Nat) (Option.some Jvm.ClassFile.FieldType.byte), Jvm.Cond.code ({ cls := "com/example/darja/darja/Standing", name := "<init>", desc := "(ILjava/lang/String;J)V" } : Jvm.MethodName) prog_23_method_1_code (5 : Nat) (Option.none : Option Jvm.ClassFile.FieldType), Jvm.Cond.code ({ cls := "com/example/darja/darja/Standing", name := "equals", desc := "(Ljava/lang/Object;)Z" } : Jvm.MethodName) prog_23_method_5_code (3 : Nat) (Option.some Jvm.ClassFile.FieldType.boolean), Jvm.Cond.code ({ cls := "java/lang/String", name := "equals", desc := "(Ljava/lang/Object;)Z" } : Jvm.MethodName) jdk_42_method_66_code (3 : Nat) (Option.some Jvm.ClassFile.FieldType.boolean), Jvm.Cond.code ({ cls := "java/lang/StringLatin1", name := "equals", desc := "([B[B)Z" } : Jvm.MethodName) jdk_43_method_13_code (3 : Nat) (Option.some Jvm.ClassFile.FieldType.boolean)]
set_option maxRecDepth 65536 in
theorem codes_eq : words1.filter isCode = codes1 := rfl
theorem w_codes : ∀ c ∈ words1.filter isCode, c.before args0 about1 = true := by
  rw [codes_eq]
  intro c hc
  simp only [codes1, List.mem_cons, List.not_mem_nil, or_false] at hc
  rcases hc with rfl | rfl | rfl | rfl | rfl | rfl | rfl | rfl | rfl | rfl | rfl
  · exact w_c0
  · exact w_c1
  · exact w_c2
  · exact w_c3
  · exact w_c4
  · exact w_c5
  · exact w_c6
  · exact w_c7
  · exact w_c8
  · exact w_c9
  · exact w_c10
set_option maxRecDepth 65536 in
theorem w_t1 : (words1.take 24).all (fun c => isCode c || c.before args0 about1) = true := by decide +kernel
set_option maxRecDepth 65536 in
theorem w_t2 : ((words1.drop 24).take 24).all (fun c => isCode c || c.before args0 about1) = true := by decide +kernel
set_option maxRecDepth 65536 in
theorem w_t3 : ((words1.drop 24).drop 24).all (fun c => isCode c || c.before args0 about1) = true := by decide +kernel
theorem w_tables : (allAtoms (Jvm.Cond.code x code maxLocals ret :: tables_1)).before args0 about1 = true := by
  rw [allAtoms_all]
  show words1.all (fun c => c.before args0 about1) = true
  refine all_split ?_ w_codes
  rw [← List.take_append_drop 24 words1, List.all_append, w_t1, ← List.take_append_drop 24 (words1.drop 24), List.all_append, w_t2, w_t3]
  rfl
set_option maxRecDepth 65536 in
theorem w_rest : rest_1_c.before args0 about1 = true := by decide +kernel
set_option maxRecDepth 65536 in
theorem w_case : (Jvm.Cond.and given_1 narrow_1).before args0 about1 = true := by decide +kernel
theorem w_applies : (headSpec (Jvm.Cond.code x code maxLocals ret :: tables_1) room_1).applies x e0.platform about1 = true :=
  (Spec.applies_iff w_frames).mpr ⟨w_running, w_runnable, w_alone, w_named, w_hears, w_ripe, w_room, w_tables⟩
theorem atStart : AtStart classFile x code maxLocals ret World_1 tables_1 room_1 Calls_1 rest_1 Pre_1 launch0 p0 e0 about1 theMethod args0 below0 :=
  ⟨lists_1, trivial, launch0.admits_env _ _ _, launch0.least_env, fairChoices_fair.cas, fairChoices_fair.clock, w_frames, w_args, w_heap, w_applies, trivial, w_rest, w_case⟩
end start1
theorem witness_1 : WitnessClaimed_1 := ⟨start1.p0, start1.e0, start1.about1, start1.theMethod, start1.args0, start1.below0, start1.atStart⟩
end Jvm.Pilot.@@N@@
