import JvmDerived
import JvmDerived.Pilot.@@N@@Statement
import JvmDerived.Pilot.@@N@@Code
set_option linter.unusedVariables false
set_option linter.unusedSimpArgs false
/- laws to paste: Road.backV, Road.eqW, Road.lenW, Road.empW, Road.chN, Road.codOf (cut by pick.py; bodies as the Statement names them) -/
namespace Jvm.Pilot.@@N@@
namespace StrChars
open Jvm Sem ClassFile Op Lib Jvm.Stand Jvm.Free.XT Jvm.Free.ALB Jvm.Free.JM Jvm.Free
open Jvm.Lib.Cold (StaticIs)
/-- a char array whose places are chars -/
def Ch (a : Addr) (A : Cell) (U : State) : Prop := Arr .char a A U ∧ Typed .char A
theorem Ch.mv {a : Addr} {A : Cell} {U U' : State} (h : Ch a A U) (hal : U.vm.Alike U'.vm) (hh : U'.heap = U.heap) : Ch a A U' := ⟨h.1.mv hal hh, h.2⟩
theorem Ch.keep {a : Addr} {A : Cell} {U U' : State} (h : Ch a A U) (hal : U.vm.Alike U'.vm) (hk : U'.heap[a]? = some A) : Ch a A U' := ⟨h.1.keep hal hk, h.2⟩
/-- what place i of a char[]'s cell holds -/
def cv (A : Cell) (i : Nat) : Int32 := match A.slots[i]? with | some (.int x) => x | _ => 0
theorem Ch.get {a : Addr} {A : Cell} {U : State} (h : Ch a A U) {i : Nat} (hi : i < A.slots.size) : A.slots[i]? = some (.int (cv A i)) := by
  have e := Array.getElem?_eq_getElem hi
  have f := h.2 i _ e
  unfold cv; rw [e]
  generalize A.slots[i] = v at f
  cases v <;> simp [fits] at f ⊢
/-- the byte that i2b leaves of a char -/
def lo8 (x : Int32) : Int32 := x.toInt8.toInt32
theorem fits_lo8 (y : Int32) : fits .byte (.int (lo8 y)) = true := by
  have h1 := y.toInt8.le_toInt
  have h2 := y.toInt8.toInt_lt
  simp only [lo8, fits, Bool.and_eq_true, decide_eq_true_eq, Int32.le_iff_toInt_le, Int8.toInt_toInt32, show (-128 : Int32).toInt = -128 from by decide, show (127 : Int32).toInt = 127 from by decide]
  omega
/-- A' is A but that each place j of lo .. hi - 1 holds f j -/
def Laid (A A' : Cell) (lo hi : Nat) (f : Nat → Value) : Prop := A'.cls = A.cls ∧ A'.vm = A.vm ∧ A'.slots.size = A.slots.size ∧ ∀ i, A'.slots[i]? = if lo ≤ i ∧ i < hi then some (f i) else A.slots[i]?
theorem Laid.zero (A : Cell) (lo : Nat) (f : Nat → Value) : Laid A A lo (lo + 0) f := ⟨rfl, rfl, rfl, fun i => by rw [if_neg (by omega)]⟩
theorem Laid.step {A Ak : Cell} {lo k : Nat} {f : Nat → Value} {v : Value} (h : Laid A Ak lo k f) (hlo : lo ≤ k) (hk : k < Ak.slots.size) (hv : v = f k) : Laid A (Ak.setSlot k v) lo (k + 1) f := by
  refine ⟨h.1, h.2.1, by simpa [Cell.setSlot] using h.2.2.1, fun i => ?_⟩
  by_cases e : k = i
  · subst e; rw [Cell.slots_setSlot_self v hk, if_pos (by omega), hv]
  · rw [Cell.slots_setSlot_ne v e, h.2.2.2 i]
    by_cases q : lo ≤ i ∧ i < k
    · rw [if_pos q, if_pos (by omega)]
    · rw [if_neg q, if_neg (by omega)]
def U16 : String := "java/lang/StringUTF16"
namespace Cmp5
def yN : MethodName := ⟨"java/lang/StringUTF16", "compress", "([CI[BII)I"⟩
abbrev yB : ByteArray := jdk_52_method_21_code
theorem d0 : decode yB 0 = .ok (.iconst 0, 1) := by decide +kernel
theorem d1 : decode yB 1 = .ok (.istore 5, 2) := by decide +kernel
theorem d3 : decode yB 3 = .ok (.iload 5, 2) := by decide +kernel
theorem d5 : decode yB 5 = .ok (.iload 4, 2) := by decide +kernel
theorem d7 : decode yB 7 = .ok (.if_icmp (.ge) 37, 3) := by decide +kernel
theorem d10 : decode yB 10 = .ok (.aload_n 0, 1) := by decide +kernel
theorem d11 : decode yB 11 = .ok (.iload_n 1, 1) := by decide +kernel
theorem d12 : decode yB 12 = .ok (.caload, 1) := by decide +kernel
theorem d13 : decode yB 13 = .ok (.istore 6, 2) := by decide +kernel
theorem d15 : decode yB 15 = .ok (.iload 6, 2) := by decide +kernel
theorem d17 : decode yB 17 = .ok (.sipush 255, 3) := by decide +kernel
theorem d20 : decode yB 20 = .ok (.if_icmp (.le) 6, 3) := by decide +kernel
theorem d26 : decode yB 26 = .ok (.aload_n 2, 1) := by decide +kernel
theorem d27 : decode yB 27 = .ok (.iload_n 3, 1) := by decide +kernel
theorem d28 : decode yB 28 = .ok (.iload 6, 2) := by decide +kernel
theorem d30 : decode yB 30 = .ok (.i2b, 1) := by decide +kernel
theorem d31 : decode yB 31 = .ok (.bastore, 1) := by decide +kernel
theorem d32 : decode yB 32 = .ok (.iinc 1 1, 3) := by decide +kernel
theorem d35 : decode yB 35 = .ok (.iinc 3 1, 3) := by decide +kernel
theorem d38 : decode yB 38 = .ok (.iinc 5 1, 3) := by decide +kernel
theorem d41 : decode yB 41 = .ok (.goto (-38), 3) := by decide +kernel
theorem d44 : decode yB 44 = .ok (.iload 4, 2) := by decide +kernel
theorem d46 : decode yB 46 = .ok (.ireturn, 1) := by decide +kernel
def site : List Cond := []
def tab : Cond := tabOf yN yB 7 (some .int) site
def P (b : Addr) (A : Cell) (d : Addr) (B : Cell) (o q len : Nat) (args : Array Value) (s : State) : Prop := args = #[.ref b, .int (Int32.ofNat o), .ref d, .int (Int32.ofNat q), .int (Int32.ofNat len)] ∧ Ch b A s ∧ Arr .byte d B s ∧ b ≠ d ∧ o + len ≤ A.slots.size ∧ q + len ≤ B.slots.size ∧ ∀ i, i < len → ¬ 255 < cv A (o + i)
def E (b : Addr) (A : Cell) (d : Addr) (B : Cell) (o q len : Nat) (r : Option Value) (s u : State) : Prop := r = some (.int (Int32.ofNat len)) ∧ ∃ B', Put d B' s u ∧ Laid B B' q (q + len) (fun j => Value.int (lo8 (cv A (o + (j - q)))))
/-- no char of the range above 255: len; the places written hold each char's low byte -/
theorem law (l : Launch) (b : Addr) (A : Cell) (d : Addr) (B : Cell) (o q len : Nat) : Law l yN 5 5 0 0 yB 7 (some .int) site (P b A d B o q len) (E b A d B o q len) (copyLocs d q len) 0 0 := by
  refine Law.of_walk (plainFor_of_name (by decide +kernel)) (by decide +kernel) (by decide +kernel) (by decide) (fun _ _ h => by rw [h.1]; rfl) (fun _ U U' hal hh h => ⟨h.1, h.2.1.mv hal hh, h.2.2.1.mv hal hh, h.2.2.2⟩) (fun r U U' V V' h1 hal h2 h => ⟨h.1, h.2.elim fun B' q => ⟨B', q.1.mv h1 h2, q.2⟩⟩) ?_
  intro p e s m args below meth c s₁ X0 hexec hbytes hml hret hlk hnm hown hh0 W hP
  obtain ⟨rfl, hA, hB, hne, l1, l2, hp⟩ := hP
  have c1 : Steps p.tables e below (s₁.setTop (entryFrame m #[.ref b, .int (Int32.ofNat o), .ref d, .int (Int32.ofNat q), .int (Int32.ofNat len)] 7)) (s₁.setTop (mkF m 0 #[.val (.ref b), .val (.int (Int32.ofNat o)), .val (.ref d), .val (.int (Int32.ofNat q)), .val (.int (Int32.ofNat len)), .unset, .unset] [])) := entry rfl
  have hA0 := hA.1.mv X0.warmed.alike hh0
  have hB0 := hB.mv X0.warmed.alike hh0
  have a31 := hA.1.2.2.2
  have c2 : Steps p.tables e below (s₁.setTop (entryFrame m #[.ref b, .int (Int32.ofNat o), .ref d, .int (Int32.ofNat q), .int (Int32.ofNat len)] 7)) (s₁.setTop (mkF m 3 #[.val (.ref b), .val (.int (Int32.ofNat o)), .val (.ref d), .val (.int (Int32.ofNat q)), .val (.int (Int32.ofNat len)), .val (.int 0), .unset] [])) := c1.trans (by
    refine iconstV X0.here hexec rfl 0 (hb hbytes d0) (by decide) ?_
    refine XS.istore X0.here hexec rfl (hb hbytes d1) rfl rfl ?_
    exact Steps.refl _)
  have loop : ∀ (r i : Nat), i + r = len → ∀ (z : Slot), (z = .unset ∨ ∃ w, z = .val w ∧ w.category = 1) → ∀ (Tl : State) (Bk : Cell), Stand p l e { frames := 0, locals := 0, cells := 0, slots := 0 } s m #[.ref b, .int (Int32.ofNat o), .ref d, .int (Int32.ofNat q), .int (Int32.ofNat len)] below meth c Tl ([] ++ copyLocs d q i) 0 0 → Put d Bk s₁ Tl → Laid B Bk q (q + i) (fun j => Value.int (lo8 (cv A (o + (j - q))))) →
      Steps p.tables e below (s₁.setTop (entryFrame m #[.ref b, .int (Int32.ofNat o), .ref d, .int (Int32.ofNat q), .int (Int32.ofNat len)] 7)) (Tl.setTop (mkF m 3 #[.val (.ref b), .val (.int (Int32.ofNat (o + i))), .val (.ref d), .val (.int (Int32.ofNat (q + i))), .val (.int (Int32.ofNat len)), .val (.int (Int32.ofNat i)), z] [])) → ∃ (T' : State) (B' : Cell) (z' : Slot), Stand p l e { frames := 0, locals := 0, cells := 0, slots := 0 } s m #[.ref b, .int (Int32.ofNat o), .ref d, .int (Int32.ofNat q), .int (Int32.ofNat len)] below meth c T' ([] ++ copyLocs d q len) 0 0 ∧ Put d B' s₁ T' ∧ Laid B B' q (q + len) (fun j => Value.int (lo8 (cv A (o + (j - q))))) ∧
      Steps p.tables e below (s₁.setTop (entryFrame m #[.ref b, .int (Int32.ofNat o), .ref d, .int (Int32.ofNat q), .int (Int32.ofNat len)] 7)) (T'.setTop (mkF m 3 #[.val (.ref b), .val (.int (Int32.ofNat (o + len))), .val (.ref d), .val (.int (Int32.ofNat (q + len))), .val (.int (Int32.ofNat len)), .val (.int (Int32.ofNat len)), z'] [])) := by
    intro r
    induction r with
    | zero =>
      intro i hi z hz Tl Bk Xl pl fl cl
      have hil : i = len := by omega
      rw [hil] at Xl fl cl
      exact ⟨Tl, Bk, z, Xl, pl, fl, cl⟩
    | succ r ih =>
      intro i hi z hz Tl Bk Xl pl fl cl
      have all := X0.warmed.alike.symm.trans Xl.warmed.alike
      have hAl := hA0.keep all (pl.other hne hA0.1)
      have hBk := hB0.like all pl.1 fl.1 fl.2.1 fl.2.2.1
      have hlt : q + i < Bk.slots.size := by rw [fl.2.2.1]; omega
      have c3 : Steps p.tables e below (s₁.setTop (entryFrame m #[.ref b, .int (Int32.ofNat o), .ref d, .int (Int32.ofNat q), .int (Int32.ofNat len)] 7)) (Tl.setTop (mkF m 12 #[.val (.ref b), .val (.int (Int32.ofNat (o + i))), .val (.ref d), .val (.int (Int32.ofNat (q + i))), .val (.int (Int32.ofNat len)), .val (.int (Int32.ofNat i)), z] [.int (Int32.ofNat (o + i)), .ref b])) := cl.trans (by
        refine XS.iload Xl.here hexec rfl (hb hbytes d3) rfl ?_
        refine XS.iload Xl.here hexec rfl (hb hbytes d5) rfl ?_
        refine XS.icmpNo Xl.here hexec rfl (hb hbytes d7) rfl (ii_ge_f (lt32 (by omega) (by omega))) ?_
        refine XS.aloadN Xl.here hexec rfl (hb hbytes d10) rfl rfl ?_
        refine XS.iloadN Xl.here hexec rfl (hb hbytes d11) rfl ?_
        exact Steps.refl _)
      have c4 : Steps p.tables e below (s₁.setTop (entryFrame m #[.ref b, .int (Int32.ofNat o), .ref d, .int (Int32.ofNat q), .int (Int32.ofNat len)] 7)) (Tl.setTop (mkF m 13 #[.val (.ref b), .val (.int (Int32.ofNat (o + i))), .val (.ref d), .val (.int (Int32.ofNat (q + i))), .val (.int (Int32.ofNat len)), .val (.int (Int32.ofNat i)), z] [.int (cv A (o + i))])) := c3.trans (by
        refine Xl.aget hexec hAl rfl (hA.get (i := o + i) (by omega)) rfl rfl (hb hbytes d12) ?_
        exact Steps.refl _)
      have c5 : Steps p.tables e below (s₁.setTop (entryFrame m #[.ref b, .int (Int32.ofNat o), .ref d, .int (Int32.ofNat q), .int (Int32.ofNat len)] 7)) (Tl.setTop (mkF m 15 #[.val (.ref b), .val (.int (Int32.ofNat (o + i))), .val (.ref d), .val (.int (Int32.ofNat (q + i))), .val (.int (Int32.ofNat len)), .val (.int (Int32.ofNat i)), .val (.int (cv A (o + i)))] [])) := c4.trans (by
        refine XS.istoreS Xl.here hexec rfl (hb hbytes d13) rfl rfl hz ?_
        exact Steps.refl _)
      have c6 : Steps p.tables e below (s₁.setTop (entryFrame m #[.ref b, .int (Int32.ofNat o), .ref d, .int (Int32.ofNat q), .int (Int32.ofNat len)] 7)) (Tl.setTop (mkF m 31 #[.val (.ref b), .val (.int (Int32.ofNat (o + i))), .val (.ref d), .val (.int (Int32.ofNat (q + i))), .val (.int (Int32.ofNat len)), .val (.int (Int32.ofNat i)), .val (.int (cv A (o + i)))] [.int (lo8 (cv A (o + i))), .int (Int32.ofNat (q + i)), .ref d])) := c5.trans (by
        refine XS.iload Xl.here hexec rfl (hb hbytes d15) rfl ?_
        refine sipushV Xl.here hexec rfl 255 (hb hbytes d17) (by decide) ?_
        refine XS.icmpYes Xl.here hexec rfl (pc0 := 20) rfl (hb hbytes d20) rfl (ii_le_t (hp i (by omega))) (by decide) rfl ?_
        refine XS.aloadN Xl.here hexec rfl (hb hbytes d26) rfl rfl ?_
        refine XS.iloadN Xl.here hexec rfl (hb hbytes d27) rfl ?_
        refine XS.iload Xl.here hexec rfl (hb hbytes d28) rfl ?_
        refine i2b Xl.here hexec rfl (hb hbytes d30) rfl ?_
        exact Steps.refl _)
      obtain ⟨T7, X7, p7, st7⟩ := Xl.aput hexec hBk rfl hlt rfl (fits_lo8 (cv A (o + i))) (g := (mkF m 31 #[.val (.ref b), .val (.int (Int32.ofNat (o + i))), .val (.ref d), .val (.int (Int32.ofNat (q + i))), .val (.int (Int32.ofNat len)), .val (.int (Int32.ofNat i)), .val (.int (cv A (o + i)))] [.int (lo8 (cv A (o + i))), .int (Int32.ofNat (q + i)), .ref d])) rfl (rest := []) rfl (hb hbytes d31)
      have c8 : Steps p.tables e below (s₁.setTop (entryFrame m #[.ref b, .int (Int32.ofNat o), .ref d, .int (Int32.ofNat q), .int (Int32.ofNat len)] 7)) (T7.setTop (mkF m 32 #[.val (.ref b), .val (.int (Int32.ofNat (o + i))), .val (.ref d), .val (.int (Int32.ofNat (q + i))), .val (.int (Int32.ofNat len)), .val (.int (Int32.ofNat i)), .val (.int (cv A (o + i)))] [])) := c6.trans (st7 _ (Steps.refl _))
      have c9 : Steps p.tables e below (s₁.setTop (entryFrame m #[.ref b, .int (Int32.ofNat o), .ref d, .int (Int32.ofNat q), .int (Int32.ofNat len)] 7)) (T7.setTop (mkF m 3 #[.val (.ref b), .val (.int (Int32.ofNat (o + i) + 1)), .val (.ref d), .val (.int (Int32.ofNat (q + i) + 1)), .val (.int (Int32.ofNat len)), .val (.int (Int32.ofNat i + 1)), .val (.int (cv A (o + i)))] [])) := c8.trans (by
        refine iincV X7.here hexec rfl 1 (hb hbytes d32) (by decide) rfl rfl ?_
        refine iincV X7.here hexec rfl 1 (hb hbytes d35) (by decide) rfl rfl ?_
        refine iincV X7.here hexec rfl 1 (hb hbytes d38) (by decide) rfl rfl ?_
        refine XS.goto X7.here hexec rfl (pc0 := 41) rfl (hb hbytes d41) (by decide) rfl ?_
        exact Steps.refl _)
      have c10 : Steps p.tables e below (s₁.setTop (entryFrame m #[.ref b, .int (Int32.ofNat o), .ref d, .int (Int32.ofNat q), .int (Int32.ofNat len)] 7)) (T7.setTop (mkF m 3 #[.val (.ref b), .val (.int (Int32.ofNat (o + (i + 1)))), .val (.ref d), .val (.int (Int32.ofNat (q + (i + 1)))), .val (.int (Int32.ofNat len)), .val (.int (Int32.ofNat (i + 1))), .val (.int (cv A (o + i)))] [])) := by
        have := c9
        rw [succ32, succ32, succ32] at this
        exact this
      exact ih (i + 1) (by omega) _ (Or.inr ⟨_, rfl, rfl⟩) T7 _ (by rw [copyLocs_step, ← List.append_assoc]; exact X7) (pl.trans p7) (fl.step (by omega) hlt (by simp)) c10
  obtain ⟨T9, B9, z9, X9, p9, f9, g9⟩ := loop len 0 (by omega) .unset (Or.inl rfl) s₁ B (by simpa [copyLocs] using X0) ⟨hB0.1, fun _ _ => rfl, rfl⟩ (Laid.zero _ _ _) c2
  have c11 : Steps p.tables e below (s₁.setTop (entryFrame m #[.ref b, .int (Int32.ofNat o), .ref d, .int (Int32.ofNat q), .int (Int32.ofNat len)] 7)) (T9.setTop (mkF m 46 #[.val (.ref b), .val (.int (Int32.ofNat (o + len))), .val (.ref d), .val (.int (Int32.ofNat (q + len))), .val (.int (Int32.ofNat len)), .val (.int (Int32.ofNat len)), z9] [.int (Int32.ofNat len)])) := g9.trans (by
    refine XS.iload X9.here hexec rfl (hb hbytes d3) rfl ?_
    refine XS.iload X9.here hexec rfl (hb hbytes d5) rfl ?_
    refine XS.icmpYes X9.here hexec rfl (pc0 := 7) rfl (hb hbytes d7) rfl (ii_ge_t (nlt32 (by omega) (Nat.le_refl _))) (by decide) rfl ?_
    refine XS.iload X9.here hexec rfl (hb hbytes d44) rfl ?_
    exact Steps.refl _)
  exact ⟨T9, some (.int (Int32.ofNat len)), _, _, _, X9, by simp, rfl, rfl, (fun h => by cases h), ⟨rfl, B9, p9.from hh0, f9⟩, fun fs hl => c11.trans (X9.ireturnOut hexec hret rfl (Or.inl rfl) (hb hbytes d46) hl)⟩
end Cmp5
namespace Cmp3
def yN : MethodName := ⟨"java/lang/StringUTF16", "compress", "([CII)[B"⟩
abbrev yB : ByteArray := jdk_52_method_16_code
theorem d0 : decode yB 0 = .ok (.iload_n 2, 1) := by decide +kernel
theorem d1 : decode yB 1 = .ok (.newarray .byte, 2) := by decide +kernel
theorem d3 : decode yB 3 = .ok (.astore_n 3, 1) := by decide +kernel
theorem d4 : decode yB 4 = .ok (.aload_n 0, 1) := by decide +kernel
theorem d5 : decode yB 5 = .ok (.iload_n 1, 1) := by decide +kernel
theorem d6 : decode yB 6 = .ok (.aload_n 3, 1) := by decide +kernel
theorem d7 : decode yB 7 = .ok (.iconst 0, 1) := by decide +kernel
theorem d8 : decode yB 8 = .ok (.iload_n 2, 1) := by decide +kernel
theorem d9 : decode yB 9 = .ok (.invokestatic 115, 3) := by decide +kernel
theorem d12 : decode yB 12 = .ok (.istore 4, 2) := by decide +kernel
theorem d14 : decode yB 14 = .ok (.iload 4, 2) := by decide +kernel
theorem d16 : decode yB 16 = .ok (.iload_n 2, 1) := by decide +kernel
theorem d17 : decode yB 17 = .ok (.if_icmp (.eq) 40, 3) := by decide +kernel
theorem d57 : decode yB 57 = .ok (.aload_n 3, 1) := by decide +kernel
theorem d58 : decode yB 58 = .ok (.areturn, 1) := by decide +kernel
def site : List Cond := [.arrayClass .byte, Cmp5.tab] ++ staticW U16 115 Cmp5.yN
def tab : Cond := tabOf yN yB 6 (some (.array .byte)) site
def P (b : Addr) (A : Cell) (o len : Nat) (args : Array Value) (s : State) : Prop := args = #[.ref b, .int (Int32.ofNat o), .int (Int32.ofNat len)] ∧ Ch b A s ∧ o + len ≤ A.slots.size ∧ len ≤ 536870912 ∧ ∀ i, i < len → ¬ 255 < cv A (o + i)
def E (b : Addr) (A : Cell) (o len : Nat) (r : Option Value) (s u : State) : Prop := NewArr .byte "[B" len (fun j => .int (lo8 (cv A (o + j)))) r s u ∧ u.heap.size = s.heap.size + 1
/-- no char of the range above 255: a new byte[] of their low bytes -/
theorem law (l : Launch) (b : Addr) (A : Cell) (o len : Nat) : Law l yN 3 3 1 18 yB 6 (some (.array .byte)) site (P b A o len) (E b A o len) [] 1 len := by
  refine Law.of_walk (plainFor_of_name (by decide +kernel)) (by decide +kernel) (by decide +kernel) (by decide) (fun _ _ h => by rw [h.1]; rfl) (fun _ U U' hal hh h => ⟨h.1, h.2.1.mv hal hh, h.2.2⟩) (fun r U U' V V' h1 hal h2 h => ⟨NewArr.mv r U U' V V' h1 hal h2 h.1, by rw [h1, h2]; exact h.2⟩) ?_
  intro p e s m args below meth c s₁ X0 hexec hbytes hml hret hlk hnm hown hh0 W hP
  obtain ⟨rfl, hA, l1, l2, hp⟩ := hP
  have a31 := hA.1.2.2.2
  have c1 : Steps p.tables e below (s₁.setTop (entryFrame m #[.ref b, .int (Int32.ofNat o), .int (Int32.ofNat len)] 6)) (s₁.setTop (mkF m 0 #[.val (.ref b), .val (.int (Int32.ofNat o)), .val (.int (Int32.ofNat len)), .unset, .unset, .unset] [])) := entry rfl
  have c2 : Steps p.tables e below (s₁.setTop (entryFrame m #[.ref b, .int (Int32.ofNat o), .int (Int32.ofNat len)] 6)) (s₁.setTop (mkF m 1 #[.val (.ref b), .val (.int (Int32.ofNat o)), .val (.int (Int32.ofNat len)), .unset, .unset, .unset] [.int (Int32.ofNat len)])) := c1.trans (by
    refine XS.iloadN X0.here hexec rfl (hb hbytes d0) rfl ?_
    exact Steps.refl _)
  obtain ⟨T3, B3, X3, ba3, bs3, bv3, bh3, bf3, st3⟩ := X0.anew hexec (atype := .byte) (wk W (.arrayClass .byte)) rfl (by show len * 1 ≤ _; omega) (by omega) (g := (mkF m 1 #[.val (.ref b), .val (.int (Int32.ofNat o)), .val (.int (Int32.ofNat len)), .unset, .unset, .unset] [.int (Int32.ofNat len)])) rfl (hb hbytes d1) (rest := []) rfl (Nat.le_refl _) (by show 0 + len ≤ len; omega)
  rw [hh0] at ba3 st3
  have kp3 : XT.Kept s T3 := (XT.Kept.of_eq hh0).push bh3
  have hA3 := hA.keep X3.warmed.alike (kp3 _ _ hA.1.1)
  have hne : b ≠ s.heap.size := hA.1.ne
  have c4 : Steps p.tables e below (s₁.setTop (entryFrame m #[.ref b, .int (Int32.ofNat o), .int (Int32.ofNat len)] 6)) (T3.setTop (mkF m 3 #[.val (.ref b), .val (.int (Int32.ofNat o)), .val (.int (Int32.ofNat len)), .unset, .unset, .unset] [.ref s.heap.size])) := c2.trans (st3 _ (Steps.refl _))
  have c5 : Steps p.tables e below (s₁.setTop (entryFrame m #[.ref b, .int (Int32.ofNat o), .int (Int32.ofNat len)] 6)) (T3.setTop (mkF m 9 #[.val (.ref b), .val (.int (Int32.ofNat o)), .val (.int (Int32.ofNat len)), .val (.ref s.heap.size), .unset, .unset] [.int (Int32.ofNat len), .int 0, .ref s.heap.size, .int (Int32.ofNat o), .ref b])) := c4.trans (by
    refine XS.astoreN X3.here hexec rfl (hb hbytes d3) rfl rfl rfl ?_
    refine XS.aloadN X3.here hexec rfl (hb hbytes d4) rfl rfl ?_
    refine XS.iloadN X3.here hexec rfl (hb hbytes d5) rfl ?_
    refine XS.aloadN X3.here hexec rfl (hb hbytes d6) rfl rfl ?_
    refine iconstV X3.here hexec rfl 0 (hb hbytes d7) (by decide) ?_
    refine XS.iloadN X3.here hexec rfl (hb hbytes d8) rfl ?_
    exact Steps.refl _)
  obtain ⟨v6, T6, X6, E6, g6⟩ := X3.callS hexec (Cmp5.law l b A s.heap.size B3 o 0 len) hown (wks W (staticW U16 115 Cmp5.yN)) (wk W Cmp5.tab) (W := 0) (Nat.le_of_ble_eq_true rfl) (Nat.le_of_ble_eq_true rfl) (Nat.le_refl _) (by show 0 + len + 0 ≤ len; omega) (g := (mkF m 9 #[.val (.ref b), .val (.int (Int32.ofNat o)), .val (.int (Int32.ofNat len)), .val (.ref s.heap.size), .unset, .unset] [.int (Int32.ofNat len), .int (Int32.ofNat 0), .ref s.heap.size, .int (Int32.ofNat o), .ref b])) rfl (by rw [hml]; rfl) c5 (argsL := [.ref b, .int (Int32.ofNat o), .ref s.heap.size, .int (Int32.ofNat 0), .int (Int32.ofNat len)]) (rest := []) rfl rfl (by show 2 * 0 + 0 ≤ _; decide) (hb hbytes d9) (⟨rfl, hA3, ba3, hne, l1, by rw [bs3]; simp, hp⟩)
  obtain ⟨rfl, B6, p6, f6⟩ := E6
  have c7 : Steps p.tables e below (s₁.setTop (entryFrame m #[.ref b, .int (Int32.ofNat o), .int (Int32.ofNat len)] 6)) (T6.setTop (mkF m 12 #[.val (.ref b), .val (.int (Int32.ofNat o)), .val (.int (Int32.ofNat len)), .val (.ref s.heap.size), .unset, .unset] [.int (Int32.ofNat len)])) := g6
  have c8 : Steps p.tables e below (s₁.setTop (entryFrame m #[.ref b, .int (Int32.ofNat o), .int (Int32.ofNat len)] 6)) (T6.setTop (mkF m 58 #[.val (.ref b), .val (.int (Int32.ofNat o)), .val (.int (Int32.ofNat len)), .val (.ref s.heap.size), .val (.int (Int32.ofNat len)), .unset] [.ref s.heap.size])) := c7.trans (by
    refine XS.istore X6.here hexec rfl (hb hbytes d12) rfl rfl ?_
    refine XS.iload X6.here hexec rfl (hb hbytes d14) rfl ?_
    refine XS.iloadN X6.here hexec rfl (hb hbytes d16) rfl ?_
    refine XS.icmpYes X6.here hexec rfl (pc0 := 17) rfl (hb hbytes d17) rfl (ii_eq_t rfl) (by decide) rfl ?_
    refine XS.aloadN X6.here hexec rfl (hb hbytes d57) rfl rfl ?_
    exact Steps.refl _)
  have X8 := X6.wide (L' := []) (cells' := 1) (slots' := len) (fun x hx hlt => by
    simp only [List.nil_append, copyLocs, List.mem_map, List.mem_range] at hx
    obtain ⟨i, -, rfl⟩ := hx
    exact absurd hlt (Nat.lt_irrefl _)) (Nat.le_refl _) (by omega)
  exact ⟨T6, some (.ref s.heap.size), _, _, _, X8, rfl, rfl, rfl, (fun h => by cases h), ⟨⟨rfl, B6, ba3.like (X3.warmed.alike.symm.trans X6.warmed.alike) p6.1 f6.1 f6.2.1 f6.2.2.1, f6.2.1.trans bv3, by rw [X6.warmed.alike.findClass, f6.1]; exact bf3, by rw [f6.2.2.1, bs3]; simp, fun j hj => by rw [f6.2.2.2 j, if_pos (by omega)]; rfl, kp3.put p6 (Nat.le_refl _)⟩, by rw [p6.2.2, bh3, hh0]; simp⟩, fun fs hl => c8.trans (X8.areturnOut hexec rfl hret rfl (hb hbytes d58) hl)⟩
end Cmp3
namespace CodL
def yN : MethodName := ⟨"java/lang/StringUTF16", "coderFromArrayLen", "([BI)B"⟩
abbrev yB : ByteArray := jdk_52_method_15_code
theorem d0 : decode yB 0 = .ok (.iload_n 1, 1) := by decide +kernel
theorem d1 : decode yB 1 = .ok (.aload_n 0, 1) := by decide +kernel
theorem d2 : decode yB 2 = .ok (.arraylength, 1) := by decide +kernel
theorem d3 : decode yB 3 = .ok (.isub, 1) := by decide +kernel
theorem d4 : decode yB 4 = .ok (.bipush 31, 2) := by decide +kernel
theorem d6 : decode yB 6 = .ok (.iushr, 1) := by decide +kernel
theorem d7 : decode yB 7 = .ok (.i2b, 1) := by decide +kernel
theorem d8 : decode yB 8 = .ok (.ireturn, 1) := by decide +kernel
def site : List Cond := []
def tab : Cond := tabOf yN yB 2 (some .byte) site
def P (d : Addr) (B : Cell) (args : Array Value) (s : State) : Prop := args = #[.ref d, .int (Int32.ofNat B.slots.size)] ∧ Arr .byte d B s
def E (r : Option Value) (s u : State) : Prop := XT.PureE (some (.int 0)) r s u
/-- an array as long as the number of chars: LATIN1 -/
theorem law (l : Launch) (d : Addr) (B : Cell) : Law l yN 2 2 0 0 yB 2 (some .byte) site (P d B) E [] 0 0 := by
  refine Law.of_walk (plainFor_of_name (by decide +kernel)) (by decide +kernel) (by decide +kernel) (by decide) (fun _ _ h => by rw [h.1]; rfl) (fun _ U U' hal hh h => ⟨h.1, h.2.mv hal hh⟩) (fun r U U' V V' h1 hal h2 h => XT.PureE.mv r U U' V V' h1 hal h2 h) ?_
  intro p e s m args below meth c s₁ X0 hexec hbytes hml hret hlk hnm hown hh0 W hP
  obtain ⟨rfl, hB⟩ := hP
  have hB0 := hB.mv X0.warmed.alike hh0
  have c1 : Steps p.tables e below (s₁.setTop (entryFrame m #[.ref d, .int (Int32.ofNat B.slots.size)] 2)) (s₁.setTop (mkF m 0 #[.val (.ref d), .val (.int (Int32.ofNat B.slots.size))] [])) := entry rfl
  have c2 : Steps p.tables e below (s₁.setTop (entryFrame m #[.ref d, .int (Int32.ofNat B.slots.size)] 2)) (s₁.setTop (mkF m 2 #[.val (.ref d), .val (.int (Int32.ofNat B.slots.size))] [.ref d, .int (Int32.ofNat B.slots.size)])) := c1.trans (by
    refine XS.iloadN X0.here hexec rfl (hb hbytes d0) rfl ?_
    refine XS.aloadN X0.here hexec rfl (hb hbytes d1) rfl rfl ?_
    exact Steps.refl _)
  have c3 : Steps p.tables e below (s₁.setTop (entryFrame m #[.ref d, .int (Int32.ofNat B.slots.size)] 2)) (s₁.setTop (mkF m 8 #[.val (.ref d), .val (.int (Int32.ofNat B.slots.size))] [.int (lo8 (ushr (Int32.ofNat B.slots.size - Int32.ofNat B.slots.size) 31))])) := c2.trans (by
    refine X0.alen hexec hB0 rfl rfl (hb hbytes d2) ?_
    refine XS.isub X0.here hexec rfl (hb hbytes d3) rfl ?_
    refine bipushV X0.here hexec rfl 31 (hb hbytes d4) (by decide) ?_
    refine iushr X0.here hexec rfl (hb hbytes d6) rfl ?_
    refine i2b X0.here hexec rfl (hb hbytes d7) rfl ?_
    exact Steps.refl _)
  have e0 : lo8 (ushr (Int32.ofNat B.slots.size - Int32.ofNat B.slots.size) 31) = 0 := by rw [Int32.sub_self]; decide
  rw [e0] at c3
  exact ⟨s₁, some (.int 0), _, _, _, X0, rfl, rfl, rfl, (fun h => by cases h), ⟨rfl, hh0⟩, fun fs hl => c3.trans (X0.ireturnOut hexec hret rfl (Or.inr (Or.inr (Or.inl rfl))) (hb hbytes d8) hl)⟩
end CodL
/-- the String at a is Latin-1 over a new byte[] (the heap's one new cell): the low bytes of the len chars of A from o on; every cell but a is kept -/
def Got (a : Addr) (D : Cell) (fV fC : Field) (A : Cell) (o len : Nat) (r : Option Value) (s u : State) : Prop := r = none ∧ ∃ D' V : Cell, Blank "java/lang/String" a D' u ∧ Same D D' [fV.slot, fC.slot] ∧ D'.slots[fV.slot]? = some (.ref s.heap.size) ∧ D'.slots[fC.slot]? = some (.int 0) ∧ Arr .byte s.heap.size V u ∧ V.vm = .none ∧ u.vm.findClass "[B" = some V.cls ∧ V.slots.size = len ∧ (∀ j, j < len → V.slots[j]? = some (.int (lo8 (cv A (o + j))))) ∧ (∀ (y : Addr) (c : Cell), y ≠ a → s.heap[y]? = some c → u.heap[y]? = some c) ∧ u.heap.size = s.heap.size + 1
theorem Got.mv {a : Addr} {D A : Cell} {fV fC : Field} {o len : Nat} : ∀ r (U U' V V' : State), U'.heap = U.heap → V.vm.Alike V'.vm → V'.heap = V.heap → Got a D fV fC A o len r U V → Got a D fV fC A o len r U' V' :=
  fun r U U' V V' h1 hal h2 ⟨e0, D', X, a1, a2, a3, a4, a5, a6, a7, a8, a9, a10, a11⟩ => ⟨e0, D', X, a1.mv hal h2, a2, by rw [h1]; exact a3, a4, by rw [h1]; exact a5.mv hal h2, a6, by rw [hal.findClass]; exact a7, a8, a9, by rw [h1, h2]; exact a10, by rw [h1, h2]; exact a11⟩
namespace New4
def yN : MethodName := ⟨"java/lang/String", "<init>", "([CIILjava/lang/Void;)V"⟩
abbrev yB : ByteArray := jdk_42_method_149_code
theorem d0 : decode yB 0 = .ok (.aload_n 0, 1) := by decide +kernel
theorem d1 : decode yB 1 = .ok (.invokespecial 1, 3) := by decide +kernel
theorem d4 : decode yB 4 = .ok (.iload_n 3, 1) := by decide +kernel
theorem d5 : decode yB 5 = .ok (.ifCond (.ne) 22, 3) := by decide +kernel
theorem d27 : decode yB 27 = .ok (.getstatic 38, 3) := by decide +kernel
theorem d30 : decode yB 30 = .ok (.ifCond (.eq) 28, 3) := by decide +kernel
theorem d33 : decode yB 33 = .ok (.aload_n 1, 1) := by decide +kernel
theorem d34 : decode yB 34 = .ok (.iload_n 2, 1) := by decide +kernel
theorem d35 : decode yB 35 = .ok (.iload_n 3, 1) := by decide +kernel
theorem d36 : decode yB 36 = .ok (.invokestatic 177, 3) := by decide +kernel
theorem d39 : decode yB 39 = .ok (.astore 5, 2) := by decide +kernel
theorem d41 : decode yB 41 = .ok (.aload_n 0, 1) := by decide +kernel
theorem d42 : decode yB 42 = .ok (.aload 5, 2) := by decide +kernel
theorem d44 : decode yB 44 = .ok (.iload_n 3, 1) := by decide +kernel
theorem d45 : decode yB 45 = .ok (.invokestatic 47, 3) := by decide +kernel
theorem d48 : decode yB 48 = .ok (.putfield 15, 3) := by decide +kernel
theorem d51 : decode yB 51 = .ok (.aload_n 0, 1) := by decide +kernel
theorem d52 : decode yB 52 = .ok (.aload 5, 2) := by decide +kernel
theorem d54 : decode yB 54 = .ok (.putfield 9, 3) := by decide +kernel
theorem d57 : decode yB 57 = .ok (.return_, 1) := by decide +kernel
def site : List Cond := [.fieldLink "java/lang/String" 38 "java/lang/String" "COMPACT_STRINGS" "Z", Cmp3.tab, CodL.tab, .laysFinal "java/lang/String" "java/lang/String" "value" "[B", .fieldLink "java/lang/String" 9 "java/lang/String" "value" "[B", .laysFinal "java/lang/String" "java/lang/String" "coder" "B", .fieldLink "java/lang/String" 15 "java/lang/String" "coder" "B"] ++ objW "java/lang/String" 1 ++ staticW "java/lang/String" 177 Cmp3.yN ++ staticW "java/lang/String" 47 CodL.yN
def tab : Cond := tabOf yN yB 6 none site
def P (a : Addr) (D : Cell) (fV fC : Field) (b : Addr) (A : Cell) (z : Int32) (o len : Nat) (args : Array Value) (s : State) : Prop := args = #[.ref a, .ref b, .int (Int32.ofNat o), .int (Int32.ofNat len), .null] ∧ Blank "java/lang/String" a D s ∧ Found "java/lang/String" "value" "[B" fV s ∧ Found "java/lang/String" "coder" "B" fC s ∧ Ch b A s ∧ StaticIs s "java/lang/String" "COMPACT_STRINGS" "Z" (.int z) ∧ ¬ z = 0 ∧ 0 < len ∧ o + len ≤ A.slots.size ∧ len ≤ 536870912 ∧ ∀ i, i < len → ¬ 255 < cv A (o + i)
def E (a : Addr) (D : Cell) (fV fC : Field) (A : Cell) (o len : Nat) (r : Option Value) (s u : State) : Prop := Got a D fV fC A o len r s u
/-- len > 0, no char of the range above 255: a Latin-1 String of their low bytes -/
theorem law (l : Launch) (a : Addr) (D : Cell) (fV fC : Field) (b : Addr) (A : Cell) (z : Int32) (o len : Nat) : Law l yN 5 4 2 35 yB 6 none site (P a D fV fC b A z o len) (E a D fV fC A o len) [⟨a, fC.slot⟩, ⟨a, fV.slot⟩] 1 len := by
  refine Law.of_walk (plainFor_of_name (by decide +kernel)) (by decide +kernel) (by decide +kernel) (by decide) (fun _ _ h => by rw [h.1]; rfl) (fun _ U U' hal hh h => ⟨h.1, h.2.1.mv hal hh, h.2.2.1.al hal, h.2.2.2.1.al hal, h.2.2.2.2.1.mv hal hh, h.2.2.2.2.2.1.there hal hh, h.2.2.2.2.2.2⟩) (fun r U U' V V' h1 hal h2 h => Got.mv r U U' V V' h1 hal h2 h) ?_
  intro p e s m args below meth c s₁ X0 hexec hbytes hml hret hlk hnm hown hh0 W hP
  obtain ⟨rfl, hB, f1, f2, hA, s1, hz, l0, l1, l2, hp⟩ := hP
  have a31 := hA.1.2.2.2
  have c1 : Steps p.tables e below (s₁.setTop (entryFrame m #[.ref a, .ref b, .int (Int32.ofNat o), .int (Int32.ofNat len), .null] 6)) (s₁.setTop (mkF m 0 #[.val (.ref a), .val (.ref b), .val (.int (Int32.ofNat o)), .val (.int (Int32.ofNat len)), .val .null, .unset] [])) := entry rfl
  have c2 : Steps p.tables e below (s₁.setTop (entryFrame m #[.ref a, .ref b, .int (Int32.ofNat o), .int (Int32.ofNat len), .null] 6)) (s₁.setTop (mkF m 1 #[.val (.ref a), .val (.ref b), .val (.int (Int32.ofNat o)), .val (.int (Int32.ofNat len)), .val .null, .unset] [.ref a])) := c1.trans (by
    refine XS.aloadN X0.here hexec rfl (hb hbytes d0) rfl rfl ?_
    exact Steps.refl _)
  obtain ⟨T3, X3, q3, st3⟩ := X0.oinit hexec hown (wks W (objW "java/lang/String" 1)) (g := (mkF m 1 #[.val (.ref a), .val (.ref b), .val (.int (Int32.ofNat o)), .val (.int (Int32.ofNat len)), .val .null, .unset] [.ref a])) rfl (by rw [hml]; rfl) (rest := []) rfl (hb hbytes d1) (W := 0) (by show 2 * 0 + 0 ≤ _; decide) (Nat.le_of_ble_eq_true rfl) (Nat.le_of_ble_eq_true rfl)
  have hh3 := q3.trans hh0
  have c4 : Steps p.tables e below (s₁.setTop (entryFrame m #[.ref a, .ref b, .int (Int32.ofNat o), .int (Int32.ofNat len), .null] 6)) (T3.setTop (mkF m 27 #[.val (.ref a), .val (.ref b), .val (.int (Int32.ofNat o)), .val (.int (Int32.ofNat len)), .val .null, .unset] [])) := (c2.trans (st3 _ (Steps.refl _))).trans (by
    refine XS.iloadN X3.here hexec rfl (hb hbytes d4) rfl ?_
    refine XS.ifYes X3.here hexec rfl (pc0 := 5) rfl (hb hbytes d5) rfl (i0_ne_t (nz32 (by omega) l0)) (by decide) rfl ?_
    exact Steps.refl _)
  obtain ⟨T5, X5, q5, st5⟩ := X3.sget hexec hown (wk W (.fieldLink "java/lang/String" 38 "java/lang/String" "COMPACT_STRINGS" "Z")) s1 (fun _ _ h => by rw [hh3]; exact h) (g := (mkF m 27 #[.val (.ref a), .val (.ref b), .val (.int (Int32.ofNat o)), .val (.int (Int32.ofNat len)), .val .null, .unset] [])) rfl (hb hbytes d27)
  have hh5 := q5.trans hh3
  have c6 : Steps p.tables e below (s₁.setTop (entryFrame m #[.ref a, .ref b, .int (Int32.ofNat o), .int (Int32.ofNat len), .null] 6)) (T5.setTop (mkF m 30 #[.val (.ref a), .val (.ref b), .val (.int (Int32.ofNat o)), .val (.int (Int32.ofNat len)), .val .null, .unset] [.int z])) := c4.trans (st5 _ (Steps.refl _))
  have c7 : Steps p.tables e below (s₁.setTop (entryFrame m #[.ref a, .ref b, .int (Int32.ofNat o), .int (Int32.ofNat len), .null] 6)) (T5.setTop (mkF m 36 #[.val (.ref a), .val (.ref b), .val (.int (Int32.ofNat o)), .val (.int (Int32.ofNat len)), .val .null, .unset] [.int (Int32.ofNat len), .int (Int32.ofNat o), .ref b])) := c6.trans (by
    refine XS.ifNo X5.here hexec rfl (hb hbytes d30) rfl (i0_eq_f hz) ?_
    refine XS.aloadN X5.here hexec rfl (hb hbytes d33) rfl rfl ?_
    refine XS.iloadN X5.here hexec rfl (hb hbytes d34) rfl ?_
    refine XS.iloadN X5.here hexec rfl (hb hbytes d35) rfl ?_
    exact Steps.refl _)
  obtain ⟨v8, T8, X8, E8, g8⟩ := X5.callS hexec (Cmp3.law l b A o len) hown (wks W (staticW "java/lang/String" 177 Cmp3.yN)) (wk W Cmp3.tab) (W := 0) (Nat.le_of_ble_eq_true rfl) (Nat.le_of_ble_eq_true rfl) (Nat.le_refl _) (by show 0 + len ≤ len; omega) (g := (mkF m 36 #[.val (.ref a), .val (.ref b), .val (.int (Int32.ofNat o)), .val (.int (Int32.ofNat len)), .val .null, .unset] [.int (Int32.ofNat len), .int (Int32.ofNat o), .ref b])) rfl (by rw [hml]; rfl) c7 (argsL := [.ref b, .int (Int32.ofNat o), .int (Int32.ofNat len)]) (rest := []) rfl rfl (by show 2 * 0 + 0 ≤ _; decide) (hb hbytes d36) (⟨rfl, hA.mv X5.warmed.alike hh5, l1, l2, hp⟩)
  obtain ⟨e8, z8⟩ := E8
  obtain ⟨rfl, N, n1, n2, n3, n4, n5, n6⟩ := NewArr.mv _ T5 s _ _ hh5.symm (Vm.Alike.refl _) rfl e8
  rw [hh5] at z8
  have hB1 := hB.keep X8.warmed.alike (n6 _ _ hB.1)
  have hne : s.heap.size ≠ a := (Nat.ne_of_lt (Array.getElem?_eq_some_iff.mp hB.1).1).symm
  have c9 : Steps p.tables e below (s₁.setTop (entryFrame m #[.ref a, .ref b, .int (Int32.ofNat o), .int (Int32.ofNat len), .null] 6)) (T8.setTop (mkF m 39 #[.val (.ref a), .val (.ref b), .val (.int (Int32.ofNat o)), .val (.int (Int32.ofNat len)), .val .null, .unset] [.ref s.heap.size])) := g8
  have c10 : Steps p.tables e below (s₁.setTop (entryFrame m #[.ref a, .ref b, .int (Int32.ofNat o), .int (Int32.ofNat len), .null] 6)) (T8.setTop (mkF m 45 #[.val (.ref a), .val (.ref b), .val (.int (Int32.ofNat o)), .val (.int (Int32.ofNat len)), .val .null, .val (.ref s.heap.size)] [.int (Int32.ofNat N.slots.size), .ref s.heap.size, .ref a])) := by
    have hc : Steps p.tables e below (s₁.setTop (entryFrame m #[.ref a, .ref b, .int (Int32.ofNat o), .int (Int32.ofNat len), .null] 6)) (T8.setTop (mkF m 45 #[.val (.ref a), .val (.ref b), .val (.int (Int32.ofNat o)), .val (.int (Int32.ofNat len)), .val .null, .val (.ref s.heap.size)] [.int (Int32.ofNat len), .ref s.heap.size, .ref a])) := c9.trans (by
      refine XS.astore X8.here hexec rfl (hb hbytes d39) rfl rfl rfl ?_
      refine XS.aloadN X8.here hexec rfl (hb hbytes d41) rfl rfl ?_
      refine XS.aload X8.here hexec rfl (hb hbytes d42) rfl rfl ?_
      refine XS.iloadN X8.here hexec rfl (hb hbytes d44) rfl ?_
      exact Steps.refl _)
    rw [n4]; exact hc
  obtain ⟨v11, T11, X11, E11, g11⟩ := X8.callS hexec (CodL.law l s.heap.size N) hown (wks W (staticW "java/lang/String" 47 CodL.yN)) (wk W CodL.tab) (W := 1) (Nat.le_of_ble_eq_true rfl) (Nat.le_of_ble_eq_true rfl) (Nat.le_refl _) (by show 0 + len + 0 ≤ len; omega) (g := (mkF m 45 #[.val (.ref a), .val (.ref b), .val (.int (Int32.ofNat o)), .val (.int (Int32.ofNat len)), .val .null, .val (.ref s.heap.size)] [.int (Int32.ofNat N.slots.size), .ref s.heap.size, .ref a])) rfl (by rw [hml]; rfl) c10 (argsL := [.ref s.heap.size, .int (Int32.ofNat N.slots.size)]) (rest := [.ref a]) rfl rfl (by show 2 * 0 + (1 + 0) ≤ _; decide) (hb hbytes d45) (⟨rfl, n1⟩)
  obtain ⟨rfl, q11⟩ := E11
  have hB11 := hB1.mv (X8.warmed.alike.symm.trans X11.warmed.alike) q11
  have c12 : Steps p.tables e below (s₁.setTop (entryFrame m #[.ref a, .ref b, .int (Int32.ofNat o), .int (Int32.ofNat len), .null] 6)) (T11.setTop (mkF m 48 #[.val (.ref a), .val (.ref b), .val (.int (Int32.ofNat o)), .val (.int (Int32.ofNat len)), .val .null, .val (.ref s.heap.size)] [.int 0, .ref a])) := g11
  obtain ⟨T13, X13, p13, bl13, sl13, st13⟩ := X11.finit hexec hown (wk W (.fieldLink "java/lang/String" 15 "java/lang/String" "coder" "B")) (Or.inr ⟨_, (wk W (.laysFinal "java/lang/String" "java/lang/String" "coder" "B"))⟩) (Or.inl ⟨rfl, hnm⟩) f2 (Or.inl rfl) hB11 (t := .byte) (by decide +kernel) rfl (g := (mkF m 48 #[.val (.ref a), .val (.ref b), .val (.int (Int32.ofNat o)), .val (.int (Int32.ofNat len)), .val .null, .val (.ref s.heap.size)] [.int 0, .ref a])) rfl (rest := []) rfl (hb hbytes d48)
  have c14 : Steps p.tables e below (s₁.setTop (entryFrame m #[.ref a, .ref b, .int (Int32.ofNat o), .int (Int32.ofNat len), .null] 6)) (T13.setTop (mkF m 54 #[.val (.ref a), .val (.ref b), .val (.int (Int32.ofNat o)), .val (.int (Int32.ofNat len)), .val .null, .val (.ref s.heap.size)] [.ref s.heap.size, .ref a])) := (c12.trans (st13 _ (Steps.refl _))).trans (by
    refine XS.aloadN X13.here hexec rfl (hb hbytes d51) rfl rfl ?_
    refine XS.aload X13.here hexec rfl (hb hbytes d52) rfl rfl ?_
    exact Steps.refl _)
  obtain ⟨T15, X15, p15, bl15, sl15, st15⟩ := X13.finit hexec hown (wk W (.fieldLink "java/lang/String" 9 "java/lang/String" "value" "[B")) (Or.inr ⟨_, (wk W (.laysFinal "java/lang/String" "java/lang/String" "value" "[B"))⟩) (Or.inl ⟨rfl, hnm⟩) f1 (Or.inl rfl) bl13 (t := (.array .byte)) (by decide +kernel) rfl (g := (mkF m 54 #[.val (.ref a), .val (.ref b), .val (.int (Int32.ofNat o)), .val (.int (Int32.ofNat len)), .val .null, .val (.ref s.heap.size)] [.ref s.heap.size, .ref a])) rfl (rest := []) rfl (hb hbytes d54)
  have c16 : Steps p.tables e below (s₁.setTop (entryFrame m #[.ref a, .ref b, .int (Int32.ofNat o), .int (Int32.ofNat len), .null] 6)) (T15.setTop (mkF m 57 #[.val (.ref a), .val (.ref b), .val (.int (Int32.ofNat o)), .val (.int (Int32.ofNat len)), .val .null, .val (.ref s.heap.size)] [])) := c14.trans (st15 _ (Steps.refl _))
  have ap := apart (Or.inr ⟨_, (wk W (.laysFinal "java/lang/String" "java/lang/String" "value" "[B"))⟩) (Or.inr ⟨_, (wk W (.laysFinal "java/lang/String" "java/lang/String" "coder" "B"))⟩) f1 f2 (t₁ := .array .byte) (t₂ := .byte) (by decide +kernel) (by decide +kernel) (by decide)
  have al := X8.warmed.alike.symm.trans X15.warmed.alike
  have n7 : T11.heap[s.heap.size]? = some N := by rw [q11]; exact n1.1
  exact ⟨T15, none, _, _, _, X15, by simp, rfl, by omega, (fun _ => rfl), ⟨rfl, _, N, bl15, ((Same.refl D _).set _ (by simp)).set _ (by simp), sl15, (Cell.slots_setSlot_ne _ ap).trans sl13, n1.keep al (p15.other hne (p13.other hne n7)), n2, by rw [al.findClass]; exact n3, n4, n5, fun y c h1 h2 => p15.other h1 (p13.other h1 (by rw [q11]; exact n6 y c h2)), by rw [p15.2.2, p13.2.2, q11]; exact z8⟩, fun fs hl => c16.trans (X15.returnOut hexec hret (hb hbytes d57) hl)⟩
end New4
namespace New1
def yN : MethodName := ⟨"java/lang/String", "<init>", "([C)V"⟩
abbrev yB : ByteArray := jdk_42_method_3_code
theorem d0 : decode yB 0 = .ok (.aload_n 0, 1) := by decide +kernel
theorem d1 : decode yB 1 = .ok (.aload_n 1, 1) := by decide +kernel
theorem d2 : decode yB 2 = .ok (.iconst 0, 1) := by decide +kernel
theorem d3 : decode yB 3 = .ok (.aload_n 1, 1) := by decide +kernel
theorem d4 : decode yB 4 = .ok (.arraylength, 1) := by decide +kernel
theorem d5 : decode yB 5 = .ok (.aconst_null, 1) := by decide +kernel
theorem d6 : decode yB 6 = .ok (.invokespecial 27, 3) := by decide +kernel
theorem d9 : decode yB 9 = .ok (.return_, 1) := by decide +kernel
def site : List Cond := [New4.tab] ++ initW "java/lang/String" 27 New4.yN
def tab : Cond := tabOf yN yB 2 none site
def P (a : Addr) (D : Cell) (fV fC : Field) (b : Addr) (A : Cell) (z : Int32) (args : Array Value) (s : State) : Prop := args = #[.ref a, .ref b] ∧ Blank "java/lang/String" a D s ∧ Found "java/lang/String" "value" "[B" fV s ∧ Found "java/lang/String" "coder" "B" fC s ∧ Ch b A s ∧ StaticIs s "java/lang/String" "COMPACT_STRINGS" "Z" (.int z) ∧ ¬ z = 0 ∧ 0 < A.slots.size ∧ A.slots.size ≤ 536870912 ∧ ∀ i, i < A.slots.size → ¬ 255 < cv A i
def E (a : Addr) (D : Cell) (fV fC : Field) (A : Cell) (r : Option Value) (s u : State) : Prop := Got a D fV fC A 0 A.slots.size r s u
/-- new String(chars), not empty, no char above 255: a Latin-1 String of their low bytes -/
theorem law (l : Launch) (a : Addr) (D : Cell) (fV fC : Field) (b : Addr) (A : Cell) (z : Int32) : Law l yN 2 1 3 52 yB 2 none site (P a D fV fC b A z) (E a D fV fC A) [⟨a, fC.slot⟩, ⟨a, fV.slot⟩] 1 A.slots.size := by
  refine Law.of_walk (plainFor_of_name (by decide +kernel)) (by decide +kernel) (by decide +kernel) (by decide) (fun _ _ h => by rw [h.1]; rfl) (fun _ U U' hal hh h => ⟨h.1, h.2.1.mv hal hh, h.2.2.1.al hal, h.2.2.2.1.al hal, h.2.2.2.2.1.mv hal hh, h.2.2.2.2.2.1.there hal hh, h.2.2.2.2.2.2⟩) (fun r U U' V V' h1 hal h2 h => Got.mv r U U' V V' h1 hal h2 h) ?_
  intro p e s m args below meth c s₁ X0 hexec hbytes hml hret hlk hnm hown hh0 W hP
  obtain ⟨rfl, hB, f1, f2, hA, s1, hz, l0, l2, hp⟩ := hP
  have c1 : Steps p.tables e below (s₁.setTop (entryFrame m #[.ref a, .ref b] 2)) (s₁.setTop (mkF m 0 #[.val (.ref a), .val (.ref b)] [])) := entry rfl
  have c2 : Steps p.tables e below (s₁.setTop (entryFrame m #[.ref a, .ref b] 2)) (s₁.setTop (mkF m 6 #[.val (.ref a), .val (.ref b)] [.null, .int (Int32.ofNat A.slots.size), .int 0, .ref b, .ref a])) := c1.trans (by
    refine XS.aloadN X0.here hexec rfl (hb hbytes d0) rfl rfl ?_
    refine XS.aloadN X0.here hexec rfl (hb hbytes d1) rfl rfl ?_
    refine iconstV X0.here hexec rfl 0 (hb hbytes d2) (by decide) ?_
    refine XS.aloadN X0.here hexec rfl (hb hbytes d3) rfl rfl ?_
    refine X0.alen hexec (hA.1.mv X0.warmed.alike hh0) rfl rfl (hb hbytes d4) ?_
    refine XS.aconstNull X0.here hexec rfl (hb hbytes d5) ?_
    exact Steps.refl _)
  obtain ⟨v3, T3, X3, E3, g3⟩ := X0.callN hexec (New4.law l a D fV fC b A z 0 A.slots.size) rfl hown (wks W (initW "java/lang/String" 27 New4.yN)) (W New4.tab (by simp only [site, List.mem_cons, List.mem_append, true_or, or_true])) (W := 0) (Nat.le_of_ble_eq_true rfl) (Nat.le_of_ble_eq_true rfl) (Nat.le_refl _) (by show 0 + A.slots.size ≤ A.slots.size; omega) (g := (mkF m 6 #[.val (.ref a), .val (.ref b)] [.null, .int (Int32.ofNat A.slots.size), .int (Int32.ofNat 0), .ref b, .ref a])) rfl (by rw [hml]; rfl) c2 (argsL := [.ref b, .int (Int32.ofNat 0), .int (Int32.ofNat A.slots.size), .null]) (rest := []) rfl rfl (by show 2 * 0 + 0 ≤ _; decide) (hb hbytes d6) (⟨rfl, hB.mv X0.warmed.alike hh0, f1.al X0.warmed.alike, f2.al X0.warmed.alike, hA.mv X0.warmed.alike hh0, s1.there X0.warmed.alike hh0, hz, l0, by omega, l2, fun i hi => by rw [Nat.zero_add]; exact hp i hi⟩)
  have e0 := Got.mv _ s₁ s _ _ hh0.symm (Vm.Alike.refl _) rfl E3
  obtain rfl := e0.1
  have c4 : Steps p.tables e below (s₁.setTop (entryFrame m #[.ref a, .ref b] 2)) (T3.setTop (mkF m 9 #[.val (.ref a), .val (.ref b)] [])) := g3
  exact ⟨T3, none, _, _, _, X3, by simp, rfl, by omega, (fun _ => rfl), e0, fun fs hl => c4.trans (X3.returnOut hexec hret (hb hbytes d9) hl)⟩
theorem pays {l : Launch} {R : Room} {p : Program} {e : Env} {below : List Frame} {s : State} {sargs : Array Value} {len W : Nat} (a : Addr) (D : Cell) (fV fC : Field) (b : Addr) (A : Cell) (z : Int32) (htab : tab.before sargs s = true) (hfr : 4 ≤ R.frames) (hlo : W + 65 ≤ R.locals) :
    Back l R p e below s sargs yN len W (fun A₁ a₁ => A₁.cells + 1 ≤ R.cells ∧ A₁.slots + A.slots.size ≤ R.slots ∧ P a D fV fC b A z a₁ A₁.U) (fun A₁ _ v₁ B₁ => E a D fV fC A v₁ A₁.U B₁.U ∧ B₁.locs = A₁.locs ++ [⟨a, fC.slot⟩, ⟨a, fV.slot⟩] ∧ B₁.cells = A₁.cells + 1 ∧ B₁.slots = A₁.slots + A.slots.size) :=
  (law l a D fV fC b A z).pays htab hfr (by omega)
end New1
/-- the byte, read back as charAt reads it, is the char -/
theorem lo8_mask {x : Int32} (h0 : ¬ x < 0) (h1 : ¬ 255 < x) : lo8 x &&& 255 = x := by
  have t : ∀ k : Fin 256, lo8 (Int32.ofNat k.val) &&& 255 = Int32.ofNat k.val := by decide +kernel
  rw [Int32.lt_iff_toInt_lt] at h0 h1
  have e0 : (0 : Int32).toInt = 0 := rfl
  have e1 : (255 : Int32).toInt = 255 := rfl
  obtain ⟨k, hk⟩ : ∃ k : Nat, x.toInt = k := ⟨x.toInt.toNat, by omega⟩
  have hx : x = Int32.ofNat k := Int32.toInt_inj.mp (by rw [hk, Int32.toInt_ofNat_small (by omega)])
  rw [hx]
  exact t ⟨k, by omega⟩
end StrChars
namespace StrChars.Road
open Jvm Sem ClassFile Op Lib Jvm.Stand Jvm.Free Jvm.Free.XT
open Jvm.Lib.Cold (StaticIs)
abbrev ST : String := "java/lang/String"
/-- every table word that New1's law asks, flat -/
abbrev words : List Jvm.Cond := [.code New1.yN New1.yB 2 none, .initialized ST, .methodLink ST 27 New4.yN, .instanceMethod New4.yN,
  .code New4.yN New4.yB 6 none, .fieldLink ST 38 ST "COMPACT_STRINGS" "Z", .laysFinal ST ST "value" "[B", .fieldLink ST 9 ST "value" "[B", .laysFinal ST ST "coder" "B", .fieldLink ST 15 ST "coder" "B",
  .methodLink ST 1 Lib.objectInit, .instanceMethod Lib.objectInit, .code Lib.objectInit ⟨#[0xb1]⟩ 1 none, .methodLink ST 177 Cmp3.yN, .static Cmp3.yN, .methodLink ST 47 CodL.yN, .static CodL.yN,
  .code Cmp3.yN Cmp3.yB 6 (some (.array .byte)), .initialized U16, .arrayClass .byte, .methodLink U16 115 Cmp5.yN, .static Cmp5.yN, .code Cmp5.yN Cmp5.yB 7 (some .int), .code CodL.yN CodL.yB 2 (some .byte)]
theorem tab_of {a : Array Value} {s : State} (h : ∀ w ∈ words, w.before a s = true) : New1.tab.before a s = true := by
  have h5 : Cmp5.tab.before a s = true := unparts (wk h (.code Cmp5.yN Cmp5.yB 7 (some .int))) (wks h (.initialized Cmp5.yN.cls :: Cmp5.site))
  have hc : CodL.tab.before a s = true := unparts (wk h (.code CodL.yN CodL.yB 2 (some .byte))) (wks h (.initialized CodL.yN.cls :: CodL.site))
  have q5 : ∀ w ∈ Cmp5.tab :: words, w.before a s = true := fun w hw => (List.mem_cons.mp hw).elim (fun e => e ▸ h5) (h w)
  have h3 : Cmp3.tab.before a s = true := unparts (wk q5 (.code Cmp3.yN Cmp3.yB 6 (some (.array .byte)))) (wks q5 (.initialized Cmp3.yN.cls :: Cmp3.site))
  have q3 : ∀ w ∈ Cmp3.tab :: CodL.tab :: words, w.before a s = true := fun w hw => (List.mem_cons.mp hw).elim (fun e => e ▸ h3) fun hw => (List.mem_cons.mp hw).elim (fun e => e ▸ hc) (h w)
  have h4 : New4.tab.before a s = true := unparts (wk q3 (.code New4.yN New4.yB 6 none)) (wks q3 (.initialized New4.yN.cls :: New4.site))
  have q4 : ∀ w ∈ New4.tab :: words, w.before a s = true := fun w hw => (List.mem_cons.mp hw).elim (fun e => e ▸ h4) (h w)
  exact unparts (wk q4 (.code New1.yN New1.yB 2 none)) (wks q4 (.initialized New1.yN.cls :: New1.site))
/-- the words ride from the start Z to the walk's own state -/
theorem moved {Z s : State} {a0 args : Array Value} (hZ : Z.Warmed39 s.vm) (hw : ∀ d ∈ words, d.before a0 Z = true) : ∀ d ∈ words, d.before args s = true := fun d hd => by
  have q := hw d hd
  have t : ∀ d ∈ words, d = .arrayClass .byte ∨ (d.onTables && d.keepsFace) = true := by decide +kernel
  rcases t d hd with rfl | t
  · exact RoadKit.mvA hZ q
  · exact RoadKit.mv hZ q t
/-- WHAT COMES BACK, over the tables of the start Z: h the heap at the call, h' behind it -/
def Q (Z : State) (x : Addr) (A : Cell) (h : Heap) (v : Option Value) (h' : Heap) (L : List Loc) : Prop := v = none ∧ (∀ y ∈ L, y.base = x) ∧ RoadKit.Keep h h' [x] ∧ h'.size = h.size + 1 ∧ RoadKit.Exa Z h' x ST ∧ RoadKit.Fld Z h' x ST "value" "[B" (.ref h.size) ∧ RoadKit.Fld Z h' x ST "coder" "B" (.int 0) ∧
  (∃ V : Cell, RoadKit.Arr Z h' h.size V .byte ∧ V.vm = .none ∧ Z.vm.findClass "[B" = some V.cls ∧ V.slots.size = A.slots.size ∧ ∀ j, j < A.slots.size → V.slots[j]? = some (.int (lo8 (cv A j)))) ∧
  ∀ (O n d : String) (w : Value), RoadKit.Fld Z h x O n d w → RoadKit.slotOf Z O n d ≠ RoadKit.slotOf Z ST "value" "[B" → RoadKit.slotOf Z O n d ≠ RoadKit.slotOf Z ST "coder" "B" → RoadKit.Fld Z h' x O n d w
/-- **new String(chars) AT A CALL, IN THE ROAD'S FORM**: for specialBack behind newO: x the fresh String, b the char[] with the cell A -/
theorem back {p : Program} {l : Launch} {e : Env} {R : Room} {s : State} {args : Array Value} {below : List Frame} {len W : Nat} {Z : State} {a0 : Array Value} {h : Heap} (hZ : Z.Warmed39 s.vm) (hw : ∀ d ∈ words, d.before a0 Z = true) {kI : Nat} (wi : (Jvm.Cond.instantiable ST kI).before a0 Z = true)
    {x b : Addr} {A : Cell} {z : Int32} {v0 c0 : Value} (E : RoadKit.Exa Z h x ST) (V : RoadKit.Fld Z h x ST "value" "[B" v0) (C : RoadKit.Fld Z h x ST "coder" "B" c0) (K : RoadKit.Arr Z h b A .char) (hty : Typed .char A) (S : RoadKit.Sta Z h ST "COMPACT_STRINGS" "Z" (.int z)) (hz : ¬ z = 0)
    (l0 : 0 < A.slots.size) (l2 : A.slots.size ≤ 536870912) (hp : ∀ i, i < A.slots.size → ¬ 255 < cv A i) (hfr : 4 ≤ R.frames) (hlo : W + 65 ≤ R.locals) :
    Back l R p e below s args New1.yN len W (fun P a => a = #[.ref x, .ref b] ∧ P.U.heap = h ∧ P.cells + 1 ≤ R.cells ∧ P.slots + A.slots.size ≤ R.slots)
      (fun P _ v B => ∃ L, Q Z x A h v B.U.heap L ∧ B.locs = P.locs ++ L ∧ B.cells = P.cells + 1 ∧ B.slots = P.slots + A.slots.size) := by
  intro m meth c P g ig mk a X hg hsize hdg hW hn hp'
  obtain ⟨rfl, rfl, r1, r2⟩ := hp'
  have al : Z.vm.Alike P.U.vm := hZ.alike.trans X.warmed.alike
  obtain ⟨D, cfV, kV, iV, fV, hD, gV, stV, knV, obV, asV, slV⟩ := id V
  obtain ⟨D', cfC, kC, iC, fC, hD', gC, stC, -, -, asC, slC⟩ := id C
  cases hD.symm.trans hD'
  obtain ⟨D2, kD, e1, e2, e3, e4, e5⟩ := id E
  cases hD.symm.trans e1
  obtain ⟨c2, k2, i1, i2, i3, -⟩ := Cond.instantiable_spec wi
  cases e2.symm.trans i1
  cases e3.symm.trans i2
  obtain ⟨kU, u1, u2⟩ := al.2.2 _ _ e3
  have hB : Blank ST x D P.U := ⟨hD, ⟨knV, fun q hq => by rw [hq] at obV; cases obV⟩, by rw [al.findClass]; exact e2, kU, u1, by rw [u2]; exact i3, by rw [u2]; exact e5 i3⟩
  have F1 : Found ST "value" "[B" fV P.U := ⟨SBG.found_only al ⟨cfV, kV, iV, gV⟩, stV⟩
  have F2 : Found ST "coder" "B" fC P.U := ⟨SBG.found_only al ⟨cfC, kC, iC, gC⟩, stC⟩
  have hA : Ch b A P.U := ⟨⟨K.1, State.isArrayOf_alike al K.2.1, K.2.2, by omega⟩, hty⟩
  have hS : StaticIs P.U ST "COMPACT_STRINGS" "Z" (.int z) := by
    obtain ⟨cfS, iS, kS, fS, st, cS, t1, t2, t3, t4, t5, t6, t7⟩ := S
    exact StaticIs.there (s := { Z with heap := P.U.heap }) ⟨cfS, iS, kS, fS, st, cS, t1, t2, t3, t4, t5, (fun q => by rw [q] at t6; cases t6), t7⟩ al rfl
  obtain ⟨v, B, X', ⟨⟨hv, E', V', q1, q2, q3, q4, q5, q6, q7, q8, q9, q10, q11⟩, hl, hc, hs⟩, st⟩ := New1.pays x D fV fC b A z (tab_of (moved hZ hw)) hfr hlo m meth c P g ig mk _ X hg hsize hdg hW hn ⟨r1, r2, rfl, hB, F1, F2, hA, hS, hz, l0, l2, hp⟩
  have al' : Z.vm.Alike B.U.vm := hZ.alike.trans X'.warmed.alike
  have hsz : E'.slots.size = D.slots.size := by
    obtain ⟨-, -, -, kB, w1, w2, w3⟩ := q1
    obtain ⟨kB', y1, y2⟩ := al'.2.2 _ _ e3
    rw [q2.2.1] at w1
    cases w1.symm.trans y1
    rw [w3, e5 i3, y2]
  refine ⟨v, B, X', ⟨_, ⟨hv, ?_, ⟨by omega, fun y cy hy hn' => q10 y cy (by simpa using hn') hy, fun y cy hy => ?_⟩, q11, ⟨E', _, q1.1, by rw [q2.2.1]; exact e2, by rw [q2.2.1]; exact e3, by rw [q2.1]; exact obV, fun _ => by rw [hsz]; exact e5 i3⟩,
    ⟨E', cfV, kV, iV, fV, q1.1, gV, stV, by rw [q2.1]; exact knV, by rw [q2.1]; exact obV, by rw [q2.2.1]; exact asV, q3⟩, ⟨E', cfC, kC, iC, fC, q1.1, gC, stC, by rw [q2.1]; exact knV, by rw [q2.1]; exact obV, by rw [q2.2.1]; exact asC, q4⟩,
    ⟨V', ⟨q5.1, State.isArrayOf_alike al'.symm q5.2.1, q5.2.2.1⟩, q6, by rw [← al'.findClass]; exact q7, q8, fun j hj => by have := q9 j hj; rwa [Nat.zero_add] at this⟩, fun O n d w F n1 n2 => ?_⟩, hl, hc, hs⟩, st⟩
  · intro y hy
    simp only [List.mem_cons, List.not_mem_nil, or_false] at hy
    rcases hy with rfl | rfl <;> rfl
  · by_cases q : y = x
    · subst q
      cases hD.symm.trans hy
      exact ⟨E', q1.1, q2.2.1, q2.1, hsz⟩
    · exact ⟨cy, q10 y cy q hy, rfl, rfl, rfl⟩
  · obtain ⟨D3, cf, k, i, f, g1, g2, g3, g4, g5, g6, g7⟩ := F
    cases hD.symm.trans g1
    simp only [RoadKit.slotOf, g2, gV, gC, Option.map_some, Option.getD_some] at n1 n2
    exact ⟨E', cf, k, i, f, q1.1, g2, g3, by rw [q2.1]; exact g4, by rw [q2.1]; exact g5, by rw [q2.2.1]; exact g6, by rw [q2.2.2 f.slot (by simp [n1, n2])]; exact g7⟩
end StrChars.Road
namespace StrChars.Road
open Jvm Sem ClassFile Op Lib Jvm.Stand Jvm.Free Jvm.Free.XT
/-- WHAT COMES BACK, the byte[] as a list of values -/
def QA (Z : State) (x : Addr) (zn : Int32) (cs : List Int32) (h : Heap) (v : Option Value) (h' : Heap) (L : List Loc) : Prop := v = none ∧ (∀ y ∈ L, y.base = x) ∧ RoadKit.Keep h h' [x] ∧ h'.size = h.size + 1 ∧ RoadKit.Exa Z h' x ST ∧ RoadKit.Fld Z h' x ST "value" "[B" (.ref h.size) ∧ RoadKit.Fld Z h' x ST "coder" "B" (.int 0) ∧
  (∃ kb, Z.vm.findClass "[B" = some kb ∧ RoadKit.Arv Z h' h.size kb .byte zn (cs.map fun c => .int (lo8 c)) (.int 0)) ∧
  ∀ (O n d : String) (w : Value), RoadKit.Fld Z h x O n d w → RoadKit.slotOf Z O n d ≠ RoadKit.slotOf Z ST "value" "[B" → RoadKit.slotOf Z O n d ≠ RoadKit.slotOf Z ST "coder" "B" → RoadKit.Fld Z h' x O n d w
/-- **new String(chars) AT A CALL, THE ARRAYS AS LISTS**: the char[] at b holds cs, not empty, no char above 255 -/
theorem backArv {p : Program} {l : Launch} {e : Env} {R : Room} {s : State} {args : Array Value} {below : List Frame} {len W : Nat} {Z : State} {a0 : Array Value} {h : Heap} (hZ : Z.Warmed39 s.vm) (hw : ∀ d ∈ words, d.before a0 Z = true) {kI : Nat} (wi : (Jvm.Cond.instantiable ST kI).before a0 Z = true)
    {x b : Addr} {k : ClassId} {zn z : Int32} {cs : List Int32} {dv v0 c0 : Value} (E : RoadKit.Exa Z h x ST) (V : RoadKit.Fld Z h x ST "value" "[B" v0) (C : RoadKit.Fld Z h x ST "coder" "B" c0) (K : RoadKit.Arv Z h b k .char zn (cs.map Value.int) dv) (S : RoadKit.Sta Z h ST "COMPACT_STRINGS" "Z" (.int z)) (hz : ¬ z = 0)
    (hlen : zn.toNatClampNeg = cs.length) (h0 : 0 < cs.length) (hbig : cs.length ≤ 536870912) (hall : ∀ c ∈ cs, ¬ 255 < c) (hfr : 4 ≤ R.frames) (hlo : W + 65 ≤ R.locals) :
    Back l R p e below s args New1.yN len W (fun P a => a = #[.ref x, .ref b] ∧ P.U.heap = h ∧ P.cells + 1 ≤ R.cells ∧ P.slots + cs.length ≤ R.slots)
      (fun P _ v B => ∃ L, QA Z x zn cs h v B.U.heap L ∧ B.locs = P.locs ++ L ∧ B.cells = P.cells + 1 ∧ B.slots = P.slots + cs.length) := by
  obtain ⟨A, K1, K2, K3, K4, K5, K6⟩ := K
  have e : A.slots.size = cs.length := K3.trans hlen
  have hat : ∀ (i : Nat) (hi : i < cs.length), A.slots[i]? = some (.int cs[i]) := fun i hi => by rw [K5 i (by omega)]; simp [List.getD_eq_getElem?_getD, hi]
  have hcv : ∀ (i : Nat) (hi : i < cs.length), cv A i = cs[i] := fun i hi => by unfold cv; rw [hat i hi]
  have hty : Typed .char A := fun i v hv => by
    have hi : i < A.slots.size := (Array.getElem?_eq_some_iff.mp hv).1
    have q := K5 i hi
    rw [hv] at q
    rw [Option.some.inj q]
    exact K6 i hi
  refine Back.mono (back hZ hw wi E V C K1 hty S hz (by omega) (by omega) (fun i hi => by rw [hcv i (by omega)]; exact hall _ (List.getElem_mem _)) hfr hlo) (fun P a hp => ⟨hp.1, hp.2.1, hp.2.2.1, by rw [e]; exact hp.2.2.2⟩) (fun P a v B hp hq => ?_)
  obtain ⟨L, ⟨q1, q2, q3, q4, q5, q6, q7, ⟨V', v1, v2, v3, v4, v5⟩, q9⟩, hl, hc, hs⟩ := hq
  refine ⟨L, ⟨q1, q2, q3, q4, q5, q6, q7, ⟨V'.cls, v3, V', v1, rfl, by rw [v4, e, hlen], K4, fun i hi => ?_, fun i hi => ?_⟩, q9⟩, hl, hc, by rw [hs, e]⟩
  · have hi' : i < cs.length := by omega
    rw [v5 i (by omega), hcv i hi']; simp [List.getD_eq_getElem?_getD, hi']
  · have hi' : i < cs.length := by omega
    simp only [List.getD_eq_getElem?_getD, List.getElem?_map, List.getElem?_eq_getElem hi', Option.map_some, Option.getD_some]
    exact fits_lo8 _
end StrChars.Road
namespace StrChars.Road
open Jvm Sem ClassFile Op Lib Jvm.Stand Jvm.Free Jvm.Free.XT
/-- WHAT COMES BACK, in the writer's own shape -/
def QV (Z : State) (x : Addr) (N : Int32) (bs : List Int32) (h : Heap) (n0 : Nat) (v : Option Value) (h' : Heap) (L : List Loc) : Prop := v = none ∧ RoadKit.Fr n0 L ∧ RoadKit.Keep h h' [x] ∧ RoadKit.Exa Z h' x ST ∧ RoadKit.Fld Z h' x ST "coder" "B" (.int 0) ∧
  ∃ (t : Addr) (kb : ClassId), n0 ≤ t ∧ h.size ≤ t ∧ ¬ t = x ∧ RoadKit.Fld Z h' x ST "value" "[B" (.ref t) ∧ RoadKit.Arv Z h' t kb .byte N (bs.map Value.int) (.int 0)
/-- **new String(chars) AT A CALL, FOR THE WRITER**: a char[] of n known ints, each 0 to 255 -/
theorem backV {p : Program} {l : Launch} {e : Env} {R : Room} {s : State} {args : Array Value} {below : List Frame} {len W : Nat} {Z : State} {a0 : Array Value} {h : Heap} (hZ : Z.Warmed39 s.vm) (hw : ∀ d ∈ words, d.before a0 Z = true) {kI : Nat} (wi : (Jvm.Cond.instantiable ST kI).before a0 Z = true)
    {x b : Addr} {kC : ClassId} {cs bs : List Int32} {d v0 c0 : Value} {z N : Int32} {n n0 : Nat} (hx0 : n0 ≤ x) (hh0 : n0 ≤ h.size) (E : RoadKit.Exa Z h x ST) (V : RoadKit.Fld Z h x ST "value" "[B" v0) (C : RoadKit.Fld Z h x ST "coder" "B" c0) (K : RoadKit.Arv Z h b kC .char N (cs.map Value.int) d) (S : RoadKit.Sta Z h ST "COMPACT_STRINGS" "Z" (.int z)) (hz : ¬ z = 0)
    (hn : cs.length = n) (hN : N = Int32.ofNat n) (l0 : 0 < n) (l2 : n ≤ 4000) (hp : ∀ c ∈ cs, ¬ c < 0 ∧ ¬ (255 : Int32) < c) (hb : bs = cs.map (fun c => c.toInt8.toInt32)) (hfr : 4 ≤ R.frames) (hlo : W + 65 ≤ R.locals) :
    Back l R p e below s args (⟨"java/lang/String", "<init>", "([C)V"⟩ : MethodName) len W (fun P a => a = #[.ref x, .ref b] ∧ P.U.heap = h ∧ P.cells + 1 ≤ R.cells ∧ P.slots + n ≤ R.slots)
      (fun P _ v B => ∃ L, QV Z x N bs h n0 v B.U.heap L ∧ B.locs = P.locs ++ L ∧ B.cells = P.cells + 1 ∧ B.slots = P.slots + n) := by
  subst hn hN hb
  refine Back.mono (backArv hZ hw wi E V C K S hz (n32 (by omega)) l0 (by omega) (fun c hc => (hp c hc).2) hfr hlo) (fun P a hp => hp) (fun P a v B hp hq => ?_)
  obtain ⟨L, ⟨q1, q2, q3, q4, q5, q6, q7, ⟨kb, v1, v2⟩, q9⟩, hl, hc, hs⟩ := hq
  exact ⟨L, ⟨q1, fun y hy => by rw [q2 y hy]; exact hx0, q3, q5, q7, h.size, kb, hh0, Nat.le_refl _, Nat.ne_of_gt E.lt, q6, by rw [List.map_map]; exact v2⟩, hl, hc, hs⟩
end StrChars.Road
namespace StrChars
open Jvm Sem ClassFile Op Lib Jvm.Stand Jvm.Free.XT Jvm.Free.ALB Jvm.Free.JM Jvm.Free
open Jvm.Lib.Cold (StaticIs)
def hi8 (x : Int32) : Int32 := lo8 (x >>> ((8 : Int32) &&& 31))
/-- what StringUTF16.getChar makes of two bytes -/
def pairCh (u v : Int32) : Int32 := (((u &&& 255) <<< ((0 : Int32) &&& 31)) ||| ((v &&& 255) <<< ((8 : Int32) &&& 31))).toUInt32.toUInt16.toUInt32.toInt32
theorem shr0 (c : Int32) : c >>> ((0 : Int32) &&& 31) = c := by
  have e : ((0 : Int32) &&& 31) = 0 := by decide
  rw [e]
  apply Int32.toBitVec_inj.mp
  rw [Int32.toBitVec_shiftRight]
  have e1 : ((0 : Int32).toBitVec.smod 32) = 0#32 := by decide
  rw [e1, BitVec.sshiftRight_eq']
  exact BitVec.sshiftRight_zero
theorem lo8_and (x : Int32) : (lo8 x &&& 255).toBitVec.toNat = x.toBitVec.toNat % 256 := by
  have h : (lo8 x).toBitVec = (x.toBitVec.signExtend 8).signExtend 32 := by rw [lo8, Int8.toBitVec_toInt32, Int32.toBitVec_toInt8]
  rw [Int32.toBitVec_and, BitVec.toNat_and, h]
  have e : ((x.toBitVec.signExtend 8).signExtend 32).toNat % 256 = x.toBitVec.toNat % 256 := by
    rw [BitVec.toNat_signExtend]
    have hlt := x.toBitVec.isLt
    simp only [BitVec.toNat_setWidth, BitVec.toNat_signExtend]
    split <;> split <;> omega
  rw [← e]
  exact Nat.and_two_pow_sub_one_eq_mod _ 8
theorem pair_says {c : Int32} (h0 : ¬ c < 0) (h1 : ¬ 65535 < c) : pairCh (lo8 c) (hi8 c) = c := by
  rw [Int32.lt_iff_toInt_lt] at h0 h1
  have e0 : (0 : Int32).toInt = 0 := rfl
  have e1 : (65535 : Int32).toInt = 65535 := rfl
  have hc : c.toInt = c.toBitVec.toNat := by
    have := c.toBitVec.isLt
    have e : c.toInt = c.toBitVec.toInt := rfl
    rw [e] at h0 h1
    rw [e]
    rw [BitVec.toInt_eq_toNat_cond] at h0 h1 ⊢
    split at h0 <;> split <;> omega
  have hn : c.toBitVec.toNat < 65536 := by omega
  have a1 := lo8_and c
  have a2 : (hi8 c &&& 255).toBitVec.toNat = c.toBitVec.toNat / 256 := by
    rw [hi8, lo8_and]
    have e : ((8 : Int32) &&& 31) = 8 := by decide
    rw [e, Int32.toBitVec_shiftRight]
    have e2 : ((8 : Int32).toBitVec.smod 32) = 8#32 := by decide
    rw [e2, BitVec.sshiftRight_eq', BitVec.toNat_sshiftRight_of_msb_false (by rw [BitVec.msb_eq_false_iff_two_mul_lt]; omega)]
    show c.toBitVec.toNat >>> 8 % 256 = _
    rw [Nat.shiftRight_eq_div_pow]
    omega
  unfold pairCh
  apply Int32.toBitVec_inj.mp
  apply BitVec.eq_of_toNat_eq
  have f0 : ((0 : Int32) &&& 31) = 0 := by decide
  have f8 : ((8 : Int32) &&& 31) = 8 := by decide
  rw [f0, f8]
  have g : (((lo8 c &&& 255) <<< (0 : Int32)) ||| ((hi8 c &&& 255) <<< (8 : Int32))).toBitVec.toNat = c.toBitVec.toNat := by
    rw [Int32.toBitVec_or, Int32.toBitVec_shiftLeft, Int32.toBitVec_shiftLeft]
    have s0 : ((0 : Int32).toBitVec.smod 32) = 0#32 := by decide
    have s8 : ((8 : Int32).toBitVec.smod 32) = 8#32 := by decide
    rw [s0, s8, BitVec.toNat_or]
    simp only [BitVec.shiftLeft_eq', BitVec.toNat_shiftLeft, a1, a2]
    show (c.toBitVec.toNat % 256) <<< 0 % 2 ^ 32 ||| (c.toBitVec.toNat / 256) <<< 8 % 2 ^ 32 = _
    rw [Nat.shiftLeft_zero, Nat.mod_eq_of_lt (show c.toBitVec.toNat % 256 < 2 ^ 32 by omega), Nat.mod_eq_of_lt (show (c.toBitVec.toNat / 256) <<< 8 < 2 ^ 32 by rw [Nat.shiftLeft_eq]; omega), Nat.or_comm, ← Nat.shiftLeft_add_eq_or_of_lt (by omega), Nat.shiftLeft_eq]
    omega
  show BitVec.toNat (((((lo8 c &&& 255) <<< (0 : Int32)) ||| ((hi8 c &&& 255) <<< (8 : Int32))).toBitVec.setWidth 16).setWidth 32) = _
  rw [BitVec.toNat_setWidth, BitVec.toNat_setWidth, g]
  omega
end StrChars
namespace StrChars
open Jvm Sem ClassFile Op Lib Jvm.Stand Jvm.Free.XT Jvm.Free.ALB Jvm.Free.JM Jvm.Free
open Jvm.Lib.Cold (StaticIs)
theorem shr1 {n : Nat} (h : 2 * n < 2 ^ 31) : Int32.ofNat (2 * n) >>> ((1 : Int32) &&& 31) = Int32.ofNat n := by
  have e : ((1 : Int32) &&& 31) = 1 := by decide
  rw [e]
  apply Int32.toBitVec_inj.mp
  rw [Int32.toBitVec_shiftRight]
  have e1 : ((1 : Int32).toBitVec.smod 32) = 1#32 := by decide
  have hm : (BitVec.ofNat 32 (2 * n)).toNat = 2 * n := by rw [BitVec.toNat_ofNat, Nat.mod_eq_of_lt (by omega)]
  rw [e1, BitVec.sshiftRight_eq']
  apply BitVec.eq_of_toNat_eq
  show ((BitVec.ofNat 32 (2 * n)).sshiftRight 1).toNat = (BitVec.ofNat 32 n).toNat
  rw [BitVec.toNat_sshiftRight_of_msb_false (by rw [BitVec.msb_eq_false_iff_two_mul_lt, hm]; omega), hm, BitVec.toNat_ofNat, Nat.shiftRight_eq_div_pow]
  omega
/-- charAt's cast of a byte read back -/
def chr8 (u : Int32) : Int32 := (u &&& 255).toUInt32.toUInt16.toUInt32.toInt32
theorem chr8_lo8 {c : Int32} (h0 : ¬ c < 0) (h1 : ¬ 255 < c) : chr8 (lo8 c) = c := by
  have t : ∀ k : Fin 256, (Int32.ofNat k.val).toUInt32.toUInt16.toUInt32.toInt32 = Int32.ofNat k.val := by decide +kernel
  unfold chr8
  rw [lo8_mask h0 h1]
  rw [Int32.lt_iff_toInt_lt] at h0 h1
  have e0 : (0 : Int32).toInt = 0 := rfl
  have e1 : (255 : Int32).toInt = 255 := rfl
  obtain ⟨k, hk⟩ : ∃ k : Nat, c.toInt = k := ⟨c.toInt.toNat, by omega⟩
  have hx : c = Int32.ofNat k := Int32.toInt_inj.mp (by rw [hk, Int32.toInt_ofNat_small (by omega)])
  rw [hx]
  exact t ⟨k, by omega⟩
theorem narrow_ch {c : Int32} (h0 : ¬ c < 0) (h1 : ¬ 65535 < c) : narrow .char (.int c) = .int c := by
  have q : narrow .char (.int (pairCh (lo8 c) (hi8 c))) = .int (pairCh (lo8 c) (hi8 c)) := narrow_c _
  rwa [pair_says h0 h1] at q
/-- the array's cell V codes the n chars f 0 .. f (n - 1) by the coder cd, as the JDK does: coder 1 just where some char is above 255 -/
def Cod (cd : Int32) (n : Nat) (f : Nat → Int32) (V : Cell) : Prop := (cd = 0 ∧ V.slots.size = n ∧ ∀ j, j < n → V.slots[j]? = some (.int (lo8 (f j))) ∧ ¬ 255 < f j) ∨ (cd = 1 ∧ V.slots.size = 2 * n ∧ (∀ j, j < n → V.slots[2 * j]? = some (.int (lo8 (f j))) ∧ V.slots[2 * j + 1]? = some (.int (hi8 (f j)))) ∧ ∃ j, j < n ∧ 255 < f j)
theorem Cod.cd {cd : Int32} {n : Nat} {f : Nat → Int32} {V : Cell} (h : Cod cd n f V) : cd = 0 ∨ cd = 1 := h.imp (fun q => q.1) fun q => q.1
theorem Cod.len {cd : Int32} {n : Nat} {f : Nat → Int32} {V : Cell} (h : Cod cd n f V) (hs : V.slots.size < 2 ^ 31) : Int32.ofNat V.slots.size >>> (cd &&& 31) = Int32.ofNat n := by
  rcases h with ⟨rfl, h, -⟩ | ⟨rfl, h, -⟩
  · rw [shr0, h]
  · rw [h, shr1 (by omega)]
/-- **x is a String of the n chars f 0 .. f (n - 1)**, Latin-1 or UTF-16; its array at t has the cell V -/
def Txt (x t : Addr) (V : Cell) (cd : Int32) (n : Nat) (f : Nat → Int32) (U : State) : Prop := Exact "java/lang/String" x U ∧ Has x "java/lang/String" "value" "[B" (.ref t) U ∧ Has x "java/lang/String" "coder" "B" (.int cd) U ∧ XT.Arr .byte t V U ∧ Cod cd n f V ∧ ∀ j, j < n → ¬ f j < 0 ∧ ¬ 65535 < f j
theorem Txt.mv {x t : Addr} {V : Cell} {cd : Int32} {n : Nat} {f : Nat → Int32} {U U' : State} (h : Txt x t V cd n f U) (hal : U.vm.Alike U'.vm) (hh : U'.heap = U.heap) : Txt x t V cd n f U' := ⟨h.1.mv hal hh, h.2.1.mv hal hh, h.2.2.1.mv hal hh, h.2.2.2.1.mv hal hh, h.2.2.2.2⟩
namespace Cdr
def yN : MethodName := ⟨"java/lang/String", "coder", "()B"⟩
abbrev yB : ByteArray := jdk_42_method_152_code
theorem d0 : decode yB 0 = .ok (.getstatic 38, 3) := by decide +kernel
theorem d3 : decode yB 3 = .ok (.ifCond (.eq) 10, 3) := by decide +kernel
theorem d6 : decode yB 6 = .ok (.aload_n 0, 1) := by decide +kernel
theorem d7 : decode yB 7 = .ok (.getfield 15, 3) := by decide +kernel
theorem d10 : decode yB 10 = .ok (.goto 4, 3) := by decide +kernel
theorem d14 : decode yB 14 = .ok (.ireturn, 1) := by decide +kernel
def site : List Cond := [.fieldLink "java/lang/String" 38 "java/lang/String" "COMPACT_STRINGS" "Z", .fieldLink "java/lang/String" 15 "java/lang/String" "coder" "B"]
def tab : Cond := tabOf yN yB 1 (some .byte) site
def P (x : Addr) (cd z : Int32) (args : Array Value) (s : State) : Prop := args = #[.ref x] ∧ Has x "java/lang/String" "coder" "B" (.int cd) s ∧ (cd = 0 ∨ cd = 1) ∧ StaticIs s "java/lang/String" "COMPACT_STRINGS" "Z" (.int z) ∧ ¬ z = 0
def E (cd : Int32) (r : Option Value) (s u : State) : Prop := XT.PureE (some (.int cd)) r s u
theorem law (l : Launch) (x : Addr) (cd z : Int32) : Law l yN 1 0 0 0 yB 1 (some .byte) site (P x cd z) (E cd) [] 0 0 := by
  refine Law.of_walk (plainFor_of_name (by decide +kernel)) (by decide +kernel) (by decide +kernel) (by decide) (fun _ _ h => by rw [h.1]; rfl) (fun _ U U' hal hh h => ⟨h.1, h.2.1.mv hal hh, h.2.2.1, h.2.2.2.1.there hal hh, h.2.2.2.2⟩) (fun r U U' V V' h1 hal h2 h => XT.PureE.mv r U U' V V' h1 hal h2 h) ?_
  intro p e s m args below meth c s₁ X0 hexec hbytes hml hret hlk hnm hown hh0 W hP
  obtain ⟨rfl, hx, hc, s1, hz⟩ := hP
  have c1 : Steps p.tables e below (s₁.setTop (entryFrame m #[.ref x] 1)) (s₁.setTop (mkF m 0 #[.val (.ref x)] [])) := entry rfl
  obtain ⟨T2, X2, q2, st2⟩ := X0.sget hexec hown (wk W (.fieldLink "java/lang/String" 38 "java/lang/String" "COMPACT_STRINGS" "Z")) s1 (fun _ _ h => by rw [hh0]; exact h) (g := (mkF m 0 #[.val (.ref x)] [])) rfl (hb hbytes d0)
  have hh2 := q2.trans hh0
  have c3 : Steps p.tables e below (s₁.setTop (entryFrame m #[.ref x] 1)) (T2.setTop (mkF m 7 #[.val (.ref x)] [.ref x])) := (c1.trans (st2 _ (Steps.refl _))).trans (by
    refine XS.ifNo X2.here hexec rfl (hb hbytes d3) rfl (i0_eq_f hz) ?_
    refine XS.aloadN X2.here hexec rfl (hb hbytes d6) rfl rfl ?_
    exact Steps.refl _)
  obtain ⟨T4, X4, q4, st4⟩ := X2.hget hexec hown (wk W (.fieldLink "java/lang/String" 15 "java/lang/String" "coder" "B")) (hx.mv X2.warmed.alike hh2) (g := (mkF m 7 #[.val (.ref x)] [.ref x])) rfl (rest := []) rfl (hb hbytes d7)
  have c5 : Steps p.tables e below (s₁.setTop (entryFrame m #[.ref x] 1)) (T4.setTop (mkF m 14 #[.val (.ref x)] [.int cd])) := (c3.trans (st4 _ (Steps.refl _))).trans (by
    refine XS.goto X4.here hexec rfl (pc0 := 10) rfl (hb hbytes d10) (by decide) rfl ?_
    exact Steps.refl _)
  exact ⟨T4, some (.int cd), _, _, _, X4, rfl, rfl, rfl, (fun h => by cases h), ⟨rfl, q4.trans hh2⟩, fun fs hl => c5.trans (X4.ireturnOut hexec hret (by rcases hc with rfl | rfl <;> rfl) (Or.inr (Or.inr (Or.inl rfl))) (hb hbytes d14) hl)⟩
end Cdr
namespace Len
def yN : MethodName := ⟨"java/lang/String", "length", "()I"⟩
abbrev yB : ByteArray := jdk_42_method_54_code
theorem d0 : decode yB 0 = .ok (.aload_n 0, 1) := by decide +kernel
theorem d1 : decode yB 1 = .ok (.getfield 9, 3) := by decide +kernel
theorem d4 : decode yB 4 = .ok (.arraylength, 1) := by decide +kernel
theorem d5 : decode yB 5 = .ok (.aload_n 0, 1) := by decide +kernel
theorem d6 : decode yB 6 = .ok (.invokevirtual 335, 3) := by decide +kernel
theorem d9 : decode yB 9 = .ok (.ishr, 1) := by decide +kernel
theorem d10 : decode yB 10 = .ok (.ireturn, 1) := by decide +kernel
def site : List Cond := [.fieldLink "java/lang/String" 9 "java/lang/String" "value" "[B", Cdr.tab] ++ virtW "java/lang/String" 335 "java/lang/String" Cdr.yN Cdr.yN
def tab : Cond := tabOf yN yB 1 (some .int) site
def P (x t : Addr) (V : Cell) (cd : Int32) (n : Nat) (f : Nat → Int32) (z : Int32) (args : Array Value) (s : State) : Prop := args = #[.ref x] ∧ Txt x t V cd n f s ∧ StaticIs s "java/lang/String" "COMPACT_STRINGS" "Z" (.int z) ∧ ¬ z = 0
def E (n : Nat) (r : Option Value) (s u : State) : Prop := XT.PureE (some (.int (Int32.ofNat n))) r s u
/-- length() of a String of n chars, in either coding -/
theorem law (l : Launch) (x t : Addr) (V : Cell) (cd : Int32) (n : Nat) (f : Nat → Int32) (z : Int32) : Law l yN 1 0 1 13 yB 1 (some .int) site (P x t V cd n f z) (E n) [] 0 0 := by
  refine Law.of_walk (plainFor_of_name (by decide +kernel)) (by decide +kernel) (by decide +kernel) (by decide) (fun _ _ h => by rw [h.1]; rfl) (fun _ U U' hal hh h => ⟨h.1, h.2.1.mv hal hh, h.2.2.1.there hal hh, h.2.2.2⟩) (fun r U U' V V' h1 hal h2 h => XT.PureE.mv r U U' V V' h1 hal h2 h) ?_
  intro p e s m args below meth c s₁ X0 hexec hbytes hml hret hlk hnm hown hh0 W hP
  obtain ⟨rfl, hx, s1, hz⟩ := hP
  have v31 := hx.2.2.2.1.2.2.2
  have c1 : Steps p.tables e below (s₁.setTop (entryFrame m #[.ref x] 1)) (s₁.setTop (mkF m 1 #[.val (.ref x)] [.ref x])) := Steps.trans (entry rfl) (by
    show Steps p.tables e below (s₁.setTop (mkF m 0 #[.val (.ref x)] [])) _
    refine XS.aloadN X0.here hexec rfl (hb hbytes d0) rfl rfl ?_
    exact Steps.refl _)
  obtain ⟨T2, X2, q2, st2⟩ := X0.hget hexec hown (wk W (.fieldLink "java/lang/String" 9 "java/lang/String" "value" "[B")) (hx.mv X0.warmed.alike hh0).2.1 (g := (mkF m 1 #[.val (.ref x)] [.ref x])) rfl (rest := []) rfl (hb hbytes d1)
  have hh2 := q2.trans hh0
  have hx2 := hx.mv X2.warmed.alike hh2
  have c3 : Steps p.tables e below (s₁.setTop (entryFrame m #[.ref x] 1)) (T2.setTop (mkF m 6 #[.val (.ref x)] [.ref x, .int (Int32.ofNat V.slots.size)])) := (c1.trans (st2 _ (Steps.refl _))).trans (by
    refine X2.alen hexec hx2.2.2.2.1 rfl rfl (hb hbytes d4) ?_
    refine XS.aloadN X2.here hexec rfl (hb hbytes d5) rfl rfl ?_
    exact Steps.refl _)
  obtain ⟨v4, T4, X4, E4, g4⟩ := X2.callV hexec (Cdr.law l x cd z) hown (wks W (virtW "java/lang/String" 335 "java/lang/String" Cdr.yN Cdr.yN)) rfl (by decide) (wk W Cdr.tab) (W := 1) (Nat.le_of_ble_eq_true rfl) (Nat.le_of_ble_eq_true rfl) (Nat.le_refl _) (Nat.le_refl _) (hx2.1.fc X2.warmed.alike) hx2.1.is (g := (mkF m 6 #[.val (.ref x)] [.ref x, .int (Int32.ofNat V.slots.size)])) rfl (by rw [hml]; rfl) c3 (argsL := []) (rest := [.int (Int32.ofNat V.slots.size)]) rfl rfl (by show 2 * 0 + (1 + 0) ≤ _; decide) (hb hbytes d6) (⟨rfl, hx2.2.2.1, hx.2.2.2.2.1.cd, s1.there X2.warmed.alike hh2, hz⟩)
  obtain ⟨rfl, q4⟩ := E4
  have c5 : Steps p.tables e below (s₁.setTop (entryFrame m #[.ref x] 1)) (T4.setTop (mkF m 10 #[.val (.ref x)] [.int (Int32.ofNat V.slots.size >>> (cd &&& 31))])) := Steps.trans g4 (by
    refine ishr X4.here hexec rfl (hb hbytes d9) rfl ?_
    exact Steps.refl _)
  rw [hx.2.2.2.2.1.len v31] at c5
  exact ⟨T4, some (.int (Int32.ofNat n)), _, _, _, X4, rfl, rfl, rfl, (fun h => by cases h), ⟨rfl, q4.trans hh2⟩, fun fs hl => c5.trans (X4.ireturnOut hexec hret rfl (Or.inl rfl) (hb hbytes d10) hl)⟩
theorem pays {l : Launch} {R : Room} {p : Program} {e : Env} {below : List Frame} {s : State} {sargs : Array Value} {len W : Nat} (x t : Addr) (V : Cell) (cd : Int32) (n : Nat) (f : Nat → Int32) (z : Int32) (htab : tab.before sargs s = true) (hfr : 2 ≤ R.frames) (hlo : W + 25 ≤ R.locals) :
    Back l R p e below s sargs yN len W (fun A₁ a₁ => A₁.cells + 0 ≤ R.cells ∧ A₁.slots + 0 ≤ R.slots ∧ P x t V cd n f z a₁ A₁.U) (fun A₁ _ v₁ B₁ => E n v₁ A₁.U B₁.U ∧ B₁.locs = A₁.locs ++ [] ∧ B₁.cells = A₁.cells + 0 ∧ B₁.slots = A₁.slots + 0) :=
  (law l x t V cd n f z).pays htab hfr (by omega)
end Len
namespace IsL
def yN : MethodName := ⟨"java/lang/String", "isLatin1", "()Z"⟩
abbrev yB : ByteArray := jdk_42_method_154_code
theorem d0 : decode yB 0 = .ok (.getstatic 38, 3) := by decide +kernel
theorem d3 : decode yB 3 = .ok (.ifCond (.eq) 14, 3) := by decide +kernel
theorem d6 : decode yB 6 = .ok (.aload_n 0, 1) := by decide +kernel
theorem d7 : decode yB 7 = .ok (.getfield 15, 3) := by decide +kernel
theorem d10 : decode yB 10 = .ok (.ifCond (.ne) 7, 3) := by decide +kernel
theorem d13 : decode yB 13 = .ok (.iconst 1, 1) := by decide +kernel
theorem d14 : decode yB 14 = .ok (.goto 4, 3) := by decide +kernel
theorem d17 : decode yB 17 = .ok (.iconst 0, 1) := by decide +kernel
theorem d18 : decode yB 18 = .ok (.ireturn, 1) := by decide +kernel
def site : List Cond := [.fieldLink "java/lang/String" 38 "java/lang/String" "COMPACT_STRINGS" "Z", .fieldLink "java/lang/String" 15 "java/lang/String" "coder" "B"]
def tab : Cond := tabOf yN yB 1 (some .boolean) site
def P (x : Addr) (cd z : Int32) (args : Array Value) (s : State) : Prop := args = #[.ref x] ∧ Has x "java/lang/String" "coder" "B" (.int cd) s ∧ (cd = 0 ∨ cd = 1) ∧ StaticIs s "java/lang/String" "COMPACT_STRINGS" "Z" (.int z) ∧ ¬ z = 0
def E (cd : Int32) (r : Option Value) (s u : State) : Prop := XT.PureE (some (.int (1 - cd))) r s u
theorem law (l : Launch) (x : Addr) (cd z : Int32) : Law l yN 1 0 0 0 yB 1 (some .boolean) site (P x cd z) (E cd) [] 0 0 := by
  refine Law.of_walk (plainFor_of_name (by decide +kernel)) (by decide +kernel) (by decide +kernel) (by decide) (fun _ _ h => by rw [h.1]; rfl) (fun _ U U' hal hh h => ⟨h.1, h.2.1.mv hal hh, h.2.2.1, h.2.2.2.1.there hal hh, h.2.2.2.2⟩) (fun r U U' V V' h1 hal h2 h => XT.PureE.mv r U U' V V' h1 hal h2 h) ?_
  intro p e s m args below meth c s₁ X0 hexec hbytes hml hret hlk hnm hown hh0 W hP
  obtain ⟨rfl, hx, hc, s1, hz⟩ := hP
  have c1 : Steps p.tables e below (s₁.setTop (entryFrame m #[.ref x] 1)) (s₁.setTop (mkF m 0 #[.val (.ref x)] [])) := entry rfl
  obtain ⟨T2, X2, q2, st2⟩ := X0.sget hexec hown (wk W (.fieldLink "java/lang/String" 38 "java/lang/String" "COMPACT_STRINGS" "Z")) s1 (fun _ _ h => by rw [hh0]; exact h) (g := (mkF m 0 #[.val (.ref x)] [])) rfl (hb hbytes d0)
  have hh2 := q2.trans hh0
  have c3 : Steps p.tables e below (s₁.setTop (entryFrame m #[.ref x] 1)) (T2.setTop (mkF m 7 #[.val (.ref x)] [.ref x])) := (c1.trans (st2 _ (Steps.refl _))).trans (by
    refine XS.ifNo X2.here hexec rfl (hb hbytes d3) rfl (i0_eq_f hz) ?_
    refine XS.aloadN X2.here hexec rfl (hb hbytes d6) rfl rfl ?_
    exact Steps.refl _)
  obtain ⟨T4, X4, q4, st4⟩ := X2.hget hexec hown (wk W (.fieldLink "java/lang/String" 15 "java/lang/String" "coder" "B")) (hx.mv X2.warmed.alike hh2) (g := (mkF m 7 #[.val (.ref x)] [.ref x])) rfl (rest := []) rfl (hb hbytes d7)
  have c5 : Steps p.tables e below (s₁.setTop (entryFrame m #[.ref x] 1)) (T4.setTop (mkF m 10 #[.val (.ref x)] [.int cd])) := c3.trans (st4 _ (Steps.refl _))
  have c6 : Steps p.tables e below (s₁.setTop (entryFrame m #[.ref x] 1)) (T4.setTop (mkF m 18 #[.val (.ref x)] [.int (1 - cd)])) := by
    rcases hc with rfl | rfl
    · exact c5.trans (by
        refine XS.ifNo X4.here hexec rfl (hb hbytes d10) rfl (i0_ne_f rfl) ?_
        refine iconstV X4.here hexec rfl 1 (hb hbytes d13) (by decide) ?_
        refine XS.goto X4.here hexec rfl (pc0 := 14) rfl (hb hbytes d14) (by decide) rfl ?_
        exact Steps.refl _)
    · exact c5.trans (by
        refine XS.ifYes X4.here hexec rfl (pc0 := 10) rfl (hb hbytes d10) rfl (i0_ne_t (by decide)) (by decide) rfl ?_
        refine iconstV X4.here hexec rfl 0 (hb hbytes d17) (by decide) ?_
        exact Steps.refl _)
  exact ⟨T4, some (.int (1 - cd)), _, _, _, X4, rfl, rfl, rfl, (fun h => by cases h), ⟨rfl, q4.trans hh2⟩, fun fs hl => c6.trans (X4.ireturnOut hexec hret (by rcases hc with rfl | rfl <;> rfl) (Or.inr (Or.inl rfl)) (hb hbytes d18) hl)⟩
end IsL
namespace LChA
def yN : MethodName := ⟨"java/lang/StringLatin1", "charAt", "([BI)C"⟩
abbrev yB : ByteArray := jdk_43_method_2_code
theorem d0 : decode yB 0 = .ok (.iload_n 1, 1) := by decide +kernel
theorem d1 : decode yB 1 = .ok (.aload_n 0, 1) := by decide +kernel
theorem d2 : decode yB 2 = .ok (.arraylength, 1) := by decide +kernel
theorem d3 : decode yB 3 = .ok (.invokestatic 9, 3) := by decide +kernel
theorem d6 : decode yB 6 = .ok (.aload_n 0, 1) := by decide +kernel
theorem d7 : decode yB 7 = .ok (.iload_n 1, 1) := by decide +kernel
theorem d8 : decode yB 8 = .ok (.baload, 1) := by decide +kernel
theorem d9 : decode yB 9 = .ok (.sipush 255, 3) := by decide +kernel
theorem d12 : decode yB 12 = .ok (.iand, 1) := by decide +kernel
theorem d13 : decode yB 13 = .ok (.i2c, 1) := by decide +kernel
theorem d14 : decode yB 14 = .ok (.ireturn, 1) := by decide +kernel
def site : List Cond := [JO.Str_checkIndex.tab] ++ staticW "java/lang/StringLatin1" 9 JO.Str_checkIndex.yN
def tab : Cond := tabOf yN yB 2 (some .char) site
def P (t : Addr) (V : Cell) (i : Nat) (u : Int32) (fm : Value) (args : Array Value) (s : State) : Prop := args = #[.ref t, .int (Int32.ofNat i)] ∧ XT.Arr .byte t V s ∧ V.slots[i]? = some (.int u) ∧ (StaticIs s "jdk/internal/util/Preconditions" "SIOOBE_FORMATTER" "Ljava/util/function/BiFunction;" fm ∧ fm.isRef = true)
def E (u : Int32) (r : Option Value) (s w : State) : Prop := XT.PureE (some (.int (chr8 u))) r s w
theorem law (l : Launch) (t : Addr) (V : Cell) (i : Nat) (u : Int32) (fm : Value) : Law l yN 2 2 2 27 yB 2 (some .char) site (P t V i u fm) (E u) [] 0 0 := by
  refine Law.of_walk (plainFor_of_name (by decide +kernel)) (by decide +kernel) (by decide +kernel) (by decide) (fun _ _ h => by rw [h.1]; rfl) (fun _ U U' hal hh h => ⟨h.1, h.2.1.mv hal hh, h.2.2.1, h.2.2.2.1.there hal hh, h.2.2.2.2⟩) (fun r U U' V V' h1 hal h2 h => XT.PureE.mv r U U' V V' h1 hal h2 h) ?_
  intro p e s m args below meth c s₁ X0 hexec hbytes hml hret hlk hnm hown hh0 W hP
  obtain ⟨rfl, hV, hu, s1, rf⟩ := hP
  have v31 := hV.2.2.2
  have hi : i < V.slots.size := (Array.getElem?_eq_some_iff.mp hu).1
  have c1 : Steps p.tables e below (s₁.setTop (entryFrame m #[.ref t, .int (Int32.ofNat i)] 2)) (s₁.setTop (mkF m 0 #[.val (.ref t), .val (.int (Int32.ofNat i))] [])) := entry rfl
  have c2 : Steps p.tables e below (s₁.setTop (entryFrame m #[.ref t, .int (Int32.ofNat i)] 2)) (s₁.setTop (mkF m 3 #[.val (.ref t), .val (.int (Int32.ofNat i))] [.int (Int32.ofNat V.slots.size), .int (Int32.ofNat i)])) := c1.trans (by
    refine XS.iloadN X0.here hexec rfl (hb hbytes d0) rfl ?_
    refine XS.aloadN X0.here hexec rfl (hb hbytes d1) rfl rfl ?_
    refine X0.alen hexec (hV.mv X0.warmed.alike hh0) rfl rfl (hb hbytes d2) ?_
    exact Steps.refl _)
  obtain ⟨v3, T3, X3, E3, g3⟩ := X0.callS hexec (JO.Str_checkIndex.law l (Int32.ofNat i) (Int32.ofNat V.slots.size) fm) hown (wks W (staticW "java/lang/StringLatin1" 9 JO.Str_checkIndex.yN)) (wk W JO.Str_checkIndex.tab) (W := 0) (Nat.le_of_ble_eq_true rfl) (Nat.le_of_ble_eq_true rfl) (Nat.le_refl _) (Nat.le_refl _) (g := (mkF m 3 #[.val (.ref t), .val (.int (Int32.ofNat i))] [.int (Int32.ofNat V.slots.size), .int (Int32.ofNat i)])) rfl (by rw [hml]; rfl) c2 (argsL := [.int (Int32.ofNat i), .int (Int32.ofNat V.slots.size)]) (rest := []) rfl rfl (by show 2 * 0 + 0 ≤ _; decide) (hb hbytes d3) (⟨rfl, rf, s1.there X0.warmed.alike hh0, Int32.ofNat_not_neg (by omega), lt32 v31 hi⟩)
  obtain ⟨rfl, q3⟩ := E3
  have hh3 := q3.trans hh0
  have c4 : Steps p.tables e below (s₁.setTop (entryFrame m #[.ref t, .int (Int32.ofNat i)] 2)) (T3.setTop (mkF m 14 #[.val (.ref t), .val (.int (Int32.ofNat i))] [.int (chr8 u)])) := Steps.trans g3 (by
    refine XS.aloadN X3.here hexec rfl (hb hbytes d6) rfl rfl ?_
    refine XS.iloadN X3.here hexec rfl (hb hbytes d7) rfl ?_
    refine X3.aget hexec (hV.mv X3.warmed.alike hh3) rfl hu rfl rfl (hb hbytes d8) ?_
    refine sipushV X3.here hexec rfl 255 (hb hbytes d9) (by decide) ?_
    refine XS.iand X3.here hexec rfl (hb hbytes d12) rfl ?_
    refine i2c X3.here hexec rfl (hb hbytes d13) rfl ?_
    exact Steps.refl _)
  exact ⟨T3, some (.int (chr8 u)), _, _, _, X3, rfl, rfl, rfl, (fun h => by cases h), ⟨rfl, hh3⟩, fun fs hl => c4.trans (X3.ireturnOut hexec hret (narrow_c _) (Or.inr (Or.inr (Or.inr (Or.inl rfl)))) (hb hbytes d14) hl)⟩
end LChA
end StrChars
namespace StrChars.Road
open Jvm Sem ClassFile Op Lib Jvm.Stand Jvm.Free Jvm.Free.XT
open Jvm.Lib.Cold (StaticIs)
theorem consq {a : Array Value} {s : State} {c : Jvm.Cond} {L : List Jvm.Cond} (h0 : c.before a s = true) (h : ∀ w ∈ L, w.before a s = true) : ∀ w ∈ c :: L, w.before a s = true := fun w hw => (List.mem_cons.mp hw).elim (fun e => e ▸ h0) (h w)
/-- the words of String.length(), either coding -/
abbrev wordsLen : List Jvm.Cond := [.code Len.yN Len.yB 1 (some .int), .initialized ST, .fieldLink ST 9 ST "value" "[B", .fieldLink ST 38 ST "COMPACT_STRINGS" "Z", .fieldLink ST 15 ST "coder" "B", .code Cdr.yN Cdr.yB 1 (some .byte), .methodLink ST 335 Cdr.yN, .declares Cdr.yN, .selects ST Cdr.yN Cdr.yN, .instanceMethod Cdr.yN]
theorem tabLen_of {a : Array Value} {s : State} (h : ∀ w ∈ wordsLen, w.before a s = true) : Len.tab.before a s = true := by
  have hc : Cdr.tab.before a s = true := unparts (wk h (.code Cdr.yN Cdr.yB 1 (some .byte))) (wks h (.initialized Cdr.yN.cls :: Cdr.site))
  have q := consq hc h
  exact unparts (wk q (.code Len.yN Len.yB 1 (some .int))) (wks q (.initialized Len.yN.cls :: Len.site))
theorem movedLen {Z s : State} {a0 args : Array Value} (hZ : Z.Warmed39 s.vm) (hw : ∀ d ∈ wordsLen, d.before a0 Z = true) : ∀ d ∈ wordsLen, d.before args s = true := fun d hd => by
  have q := hw d hd
  have t : ∀ d ∈ wordsLen, d = .arrayClass .byte ∨ (d.onTables && d.keepsFace) = true := by decide +kernel
  rcases t d hd with rfl | t
  · exact RoadKit.mvA hZ q
  · exact RoadKit.mv hZ q t
/-- the bytes of the chars cs, low before high -/
def wideBytes : List Int32 → List Value
  | [] => []
  | c :: cs => .int (lo8 c) :: .int (hi8 c) :: wideBytes cs
theorem wide_lo (d : Value) : ∀ (cs : List Int32) (j : Nat), j < cs.length → (wideBytes cs).getD (2 * j) d = .int (lo8 (cs.getD j 0))
  | [], j, h => absurd h (Nat.not_lt_zero j)
  | c :: cs, 0, _ => rfl
  | c :: cs, j + 1, h => by
    have q := wide_lo d cs j (by simpa using h)
    rw [show 2 * (j + 1) = 2 * j + 1 + 1 from by omega]
    simpa [wideBytes] using q
theorem wide_hi (d : Value) : ∀ (cs : List Int32) (j : Nat), j < cs.length → (wideBytes cs).getD (2 * j + 1) d = .int (hi8 (cs.getD j 0))
  | [], j, h => absurd h (Nat.not_lt_zero j)
  | c :: cs, 0, _ => rfl
  | c :: cs, j + 1, h => by
    have q := wide_hi d cs j (by simpa using h)
    rw [show 2 * (j + 1) + 1 = 2 * j + 1 + 1 + 1 from by omega]
    simpa [wideBytes] using q
theorem low_at (d : Value) (cs : List Int32) (j : Nat) (h : j < cs.length) : (cs.map fun c => Value.int (lo8 c)).getD j d = .int (lo8 (cs.getD j 0)) := by
  simp [List.getD_eq_getElem?_getD, h]
/-- an array of N2 bytes vs codes the chars cs by the coder cd -/
def CodA (cs : List Int32) (cd N2 : Int32) (vs : List Value) : Prop := (cd = 0 ∧ N2 = Int32.ofNat cs.length ∧ vs = (cs.map fun c => Value.int (lo8 c)) ∧ ∀ c ∈ cs, ¬ 255 < c) ∨ (cd = 1 ∧ N2 = Int32.ofNat (2 * cs.length) ∧ vs = wideBytes cs ∧ ∃ c ∈ cs, 255 < c)
theorem CodA.cod {cs : List Int32} {cd N2 : Int32} {vs : List Value} {V : Cell} (h : CodA cs cd N2 vs) (hn : 2 * cs.length < 2 ^ 31) (hs : V.slots.size = N2.toNatClampNeg) (hv : RoadKit.Has V vs (.int 0)) : Cod cd cs.length (fun j => cs.getD j 0) V := by
  rcases h with ⟨rfl, rfl, rfl, h⟩ | ⟨rfl, rfl, rfl, c, hc, hw⟩
  · rw [n32 (by omega)] at hs
    exact Or.inl ⟨rfl, hs, fun j hj => ⟨by rw [hv j (by omega), low_at _ _ _ hj], by
      have e : cs.getD j 0 = cs[j] := by simp [List.getD_eq_getElem?_getD, hj]
      show ¬ 255 < cs.getD j 0
      rw [e]; exact h _ (List.getElem_mem _)⟩⟩
  · rw [n32 (by omega)] at hs
    obtain ⟨j, hj, rfl⟩ := List.getElem_of_mem hc
    exact Or.inr ⟨rfl, hs, fun j hj => ⟨by rw [hv _ (by omega), wide_lo _ _ _ hj], by rw [hv _ (by omega), wide_hi _ _ _ hj]⟩, j, hj, by
      have e : cs.getD j 0 = cs[j] := by simp [List.getD_eq_getElem?_getD, hj]
      show 255 < cs.getD j 0
      rw [e]; exact hw⟩
/-- an object of exactly java/lang/String, its two fields found: as the laws ask it -/
theorem strObj {Z U : State} {a0 : Array Value} {kI : Nat} (wi : (Jvm.Cond.instantiable ST kI).before a0 Z = true) (al : Z.vm.Alike U.vm) {x : Addr} {v0 c0 : Value} (E : RoadKit.Exa Z U.heap x ST) (V : RoadKit.Fld Z U.heap x ST "value" "[B" v0) (C : RoadKit.Fld Z U.heap x ST "coder" "B" c0) :
    ∃ (D : Cell) (fV fC : Field), Blank ST x D U ∧ Found ST "value" "[B" fV U ∧ Found ST "coder" "B" fC U ∧ D.slots[fV.slot]? = some v0 ∧ D.slots[fC.slot]? = some c0 ∧ RoadKit.slotOf Z ST "value" "[B" = fV.slot ∧ RoadKit.slotOf Z ST "coder" "B" = fC.slot := by
  obtain ⟨D, cfV, kV, iV, fV, hD, gV, stV, knV, obV, asV, slV⟩ := V
  obtain ⟨D', cfC, kC, iC, fC, hD', gC, stC, -, -, asC, slC⟩ := C
  cases hD.symm.trans hD'
  obtain ⟨D2, kD, e1, e2, e3, e4, e5⟩ := E
  cases hD.symm.trans e1
  obtain ⟨c2, k2, i1, i2, i3, -⟩ := Cond.instantiable_spec wi
  cases e2.symm.trans i1
  cases e3.symm.trans i2
  obtain ⟨kU, u1, u2⟩ := al.2.2 _ _ e3
  exact ⟨D, fV, fC, ⟨hD, ⟨knV, fun q hq => by rw [hq] at obV; cases obV⟩, by rw [al.findClass]; exact e2, kU, u1, by rw [u2]; exact i3, by rw [u2]; exact e5 i3⟩, ⟨SBG.found_only al ⟨cfV, kV, iV, gV⟩, stV⟩, ⟨SBG.found_only al ⟨cfC, kC, iC, gC⟩, stC⟩, slV, slC, by simp [RoadKit.slotOf, gV], by simp [RoadKit.slotOf, gC]⟩
theorem sta_is {Z U : State} (al : Z.vm.Alike U.vm) {C n d : String} {v : Value} (S : RoadKit.Sta Z U.heap C n d v) : StaticIs U C n d v := by
  obtain ⟨cfS, iS, kS, fS, st, cS, t1, t2, t3, t4, t5, t6, t7⟩ := S
  exact StaticIs.there (s := { Z with heap := U.heap }) ⟨cfS, iS, kS, fS, st, cS, t1, t2, t3, t4, t5, (fun q => by rw [q] at t6; cases t6), t7⟩ al rfl
/-- **length() OF SUCH A STRING** -/
theorem lenW {p : Program} {l : Launch} {e : Env} {R : Room} {s : State} {args : Array Value} {below : List Frame} {len W : Nat} {Z : State} {a0 : Array Value} {h : Heap} (hZ : Z.Warmed39 s.vm) (hw : ∀ d ∈ wordsLen, d.before a0 Z = true) {kI : Nat} (wi : (Jvm.Cond.instantiable ST kI).before a0 Z = true)
    {x t : Addr} {kb : ClassId} {cs : List Int32} {cd N2 z : Int32} {vs : List Value} (E : RoadKit.Exa Z h x ST) (V : RoadKit.Fld Z h x ST "value" "[B" (.ref t)) (C : RoadKit.Fld Z h x ST "coder" "B" (.int cd)) (K : RoadKit.Arv Z h t kb .byte N2 vs (.int 0)) (hc : CodA cs cd N2 vs) (hb : ∀ c ∈ cs, ¬ c < 0 ∧ ¬ (65535 : Int32) < c)
    (S : RoadKit.Sta Z h ST "COMPACT_STRINGS" "Z" (.int z)) (hz : ¬ z = 0) (l2 : cs.length ≤ 4000) (hfr : 2 ≤ R.frames) (hlo : W + 25 ≤ R.locals) :
    Back l R p e below s args (⟨"java/lang/String", "length", "()I"⟩ : MethodName) len W (fun P a => a = #[.ref x] ∧ P.U.heap = h ∧ P.cells + 0 ≤ R.cells ∧ P.slots + 0 ≤ R.slots)
      (fun P _ v B => ∃ L, (v = some (.int (Int32.ofNat cs.length)) ∧ L = [] ∧ B.U.heap = h) ∧ B.locs = P.locs ++ L ∧ B.cells = P.cells + 0 ∧ B.slots = P.slots + 0) := by
  obtain ⟨A, K1, K2, K3, K4, K5, K6⟩ := K
  have hcod := hc.cod (by omega) K3 K5
  intro m meth c P g ig mk a X hg hsize hdg hW hn hp'
  obtain ⟨rfl, rfl, r1, r2⟩ := hp'
  have al : Z.vm.Alike P.U.vm := hZ.alike.trans X.warmed.alike
  obtain ⟨D, fV, fC, hB, F1, F2, g1, g2, -, -⟩ := strObj wi al E V C
  have hx : Txt x t A cd cs.length (fun j => cs.getD j 0) P.U := ⟨⟨_, hB.2.2.1, D, hB.1, rfl, by cases q : D.vm <;> first | rfl | exact absurd q (hB.2.1.2 _)⟩, Has.of hB F1 g1, Has.of hB F2 g2, ⟨K1.1, State.isArrayOf_alike al K1.2.1, K1.2.2, by rcases hcod with ⟨-, q, -⟩ | ⟨-, q, -⟩ <;> omega⟩, hcod, fun j hj => by
    have e : cs.getD j 0 = cs[j] := by simp [List.getD_eq_getElem?_getD, hj]
    show ¬ cs.getD j 0 < 0 ∧ ¬ 65535 < cs.getD j 0
    rw [e]; exact hb _ (List.getElem_mem _)⟩
  obtain ⟨v, B, X', ⟨⟨hv, hh⟩, hl, hk, hs⟩, st⟩ := Len.pays x t A cd cs.length (fun j => cs.getD j 0) z (tabLen_of (movedLen hZ hw)) hfr hlo m meth c P g ig mk _ X hg hsize hdg hW hn ⟨r1, r2, rfl, hx, sta_is al S, hz⟩
  exact ⟨v, B, X', ⟨[], ⟨hv, rfl, hh⟩, hl, hk, hs⟩, st⟩
end StrChars.Road
namespace StrChars
open Jvm Sem ClassFile Op Lib Jvm.Stand Jvm.Free.XT Jvm.Free.ALB Jvm.Free.JM Jvm.Free
open Jvm.Lib.Cold (StaticIs)
namespace Emp
def yN : MethodName := ⟨"java/lang/String", "isEmpty", "()Z"⟩
abbrev yB : ByteArray := jdk_42_method_55_code
theorem d0 : decode yB 0 = .ok (.aload_n 0, 1) := by decide +kernel
theorem d1 : decode yB 1 = .ok (.getfield 9, 3) := by decide +kernel
theorem d4 : decode yB 4 = .ok (.arraylength, 1) := by decide +kernel
theorem d5 : decode yB 5 = .ok (.ifCond (.ne) 7, 3) := by decide +kernel
theorem d8 : decode yB 8 = .ok (.iconst 1, 1) := by decide +kernel
theorem d9 : decode yB 9 = .ok (.goto 4, 3) := by decide +kernel
theorem d12 : decode yB 12 = .ok (.iconst 0, 1) := by decide +kernel
theorem d13 : decode yB 13 = .ok (.ireturn, 1) := by decide +kernel
def site : List Cond := [.fieldLink "java/lang/String" 9 "java/lang/String" "value" "[B"]
def tab : Cond := tabOf yN yB 1 (some .boolean) site
def P (x t : Addr) (V : Cell) (cd : Int32) (n : Nat) (f : Nat → Int32) (args : Array Value) (s : State) : Prop := args = #[.ref x] ∧ Txt x t V cd n f s
def E (n : Nat) (r : Option Value) (s u : State) : Prop := XT.PureE (some (.int (if n = 0 then 1 else 0))) r s u
/-- isEmpty() of a String of n chars -/
theorem law (l : Launch) (x t : Addr) (V : Cell) (cd : Int32) (n : Nat) (f : Nat → Int32) : Law l yN 1 0 0 0 yB 1 (some .boolean) site (P x t V cd n f) (E n) [] 0 0 := by
  refine Law.of_walk (plainFor_of_name (by decide +kernel)) (by decide +kernel) (by decide +kernel) (by decide) (fun _ _ h => by rw [h.1]; rfl) (fun _ U U' hal hh h => ⟨h.1, h.2.mv hal hh⟩) (fun r U U' V V' h1 hal h2 h => XT.PureE.mv r U U' V V' h1 hal h2 h) ?_
  intro p e s m args below meth c s₁ X0 hexec hbytes hml hret hlk hnm hown hh0 W hP
  obtain ⟨rfl, hx⟩ := hP
  have v31 := hx.2.2.2.1.2.2.2
  have c1 : Steps p.tables e below (s₁.setTop (entryFrame m #[.ref x] 1)) (s₁.setTop (mkF m 1 #[.val (.ref x)] [.ref x])) := Steps.trans (entry rfl) (by
    show Steps p.tables e below (s₁.setTop (mkF m 0 #[.val (.ref x)] [])) _
    refine XS.aloadN X0.here hexec rfl (hb hbytes d0) rfl rfl ?_
    exact Steps.refl _)
  obtain ⟨T2, X2, q2, st2⟩ := X0.hget hexec hown (wk W (.fieldLink "java/lang/String" 9 "java/lang/String" "value" "[B")) (hx.mv X0.warmed.alike hh0).2.1 (g := (mkF m 1 #[.val (.ref x)] [.ref x])) rfl (rest := []) rfl (hb hbytes d1)
  have hh2 := q2.trans hh0
  have hx2 := hx.mv X2.warmed.alike hh2
  have c3 : Steps p.tables e below (s₁.setTop (entryFrame m #[.ref x] 1)) (T2.setTop (mkF m 5 #[.val (.ref x)] [.int (Int32.ofNat V.slots.size)])) := (c1.trans (st2 _ (Steps.refl _))).trans (by
    refine X2.alen hexec hx2.2.2.2.1 rfl rfl (hb hbytes d4) ?_
    exact Steps.refl _)
  have hz : V.slots.size = 0 ↔ n = 0 := by
    rcases hx.2.2.2.2.1 with ⟨-, q, -⟩ | ⟨-, q, -⟩ <;> omega
  by_cases h0 : n = 0
  · have c4 : Steps p.tables e below (s₁.setTop (entryFrame m #[.ref x] 1)) (T2.setTop (mkF m 13 #[.val (.ref x)] [.int 1])) := c3.trans (by
      refine XS.ifNo X2.here hexec rfl (hb hbytes d5) rfl (i0_ne_f (by rw [hz.mpr h0]; rfl)) ?_
      refine iconstV X2.here hexec rfl 1 (hb hbytes d8) (by decide) ?_
      refine XS.goto X2.here hexec rfl (pc0 := 9) rfl (hb hbytes d9) (by decide) rfl ?_
      exact Steps.refl _)
    exact ⟨T2, some (.int 1), _, _, _, X2, rfl, rfl, rfl, (fun h => by cases h), ⟨by rw [if_pos h0], hh2⟩, fun fs hl => c4.trans (X2.ireturnOut hexec hret rfl (Or.inr (Or.inl rfl)) (hb hbytes d13) hl)⟩
  · have c4 : Steps p.tables e below (s₁.setTop (entryFrame m #[.ref x] 1)) (T2.setTop (mkF m 13 #[.val (.ref x)] [.int 0])) := c3.trans (by
      refine XS.ifYes X2.here hexec rfl (pc0 := 5) rfl (hb hbytes d5) rfl (i0_ne_t (nz32 v31 (by omega))) (by decide) rfl ?_
      refine iconstV X2.here hexec rfl 0 (hb hbytes d12) (by decide) ?_
      exact Steps.refl _)
    exact ⟨T2, some (.int 0), _, _, _, X2, rfl, rfl, rfl, (fun h => by cases h), ⟨by rw [if_neg h0], hh2⟩, fun fs hl => c4.trans (X2.ireturnOut hexec hret rfl (Or.inr (Or.inl rfl)) (hb hbytes d13) hl)⟩
theorem pays {l : Launch} {R : Room} {p : Program} {e : Env} {below : List Frame} {s : State} {sargs : Array Value} {len W : Nat} (x t : Addr) (V : Cell) (cd : Int32) (n : Nat) (f : Nat → Int32) (htab : tab.before sargs s = true) (hfr : 1 ≤ R.frames) (hlo : W + 12 ≤ R.locals) :
    Back l R p e below s sargs yN len W (fun A₁ a₁ => A₁.cells + 0 ≤ R.cells ∧ A₁.slots + 0 ≤ R.slots ∧ P x t V cd n f a₁ A₁.U) (fun A₁ _ v₁ B₁ => E n v₁ A₁.U B₁.U ∧ B₁.locs = A₁.locs ++ [] ∧ B₁.cells = A₁.cells + 0 ∧ B₁.slots = A₁.slots + 0) :=
  (law l x t V cd n f).pays htab hfr (by omega)
end Emp
/-- what place i of a byte[]'s cell holds -/
def yv (A : Cell) (i : Nat) : Int32 := match A.slots[i]? with | some (.int x) => x | _ => 0
theorem yv_get {a : Addr} {A : Cell} {U : State} (h : XT.Arr .byte a A U) (ht : Typed .byte A) {i : Nat} (hi : i < A.slots.size) : A.slots[i]? = some (.int (yv A i)) := by
  have e := Array.getElem?_eq_getElem hi
  have f := ht i _ e
  unfold yv; rw [e]
  generalize A.slots[i] = v at f
  cases v <;> simp [fits] at f ⊢
/-- the two arrays are equal, place for place -/
def EqC (A B : Cell) : Prop := A.slots.size = B.slots.size ∧ ∀ i, i < A.slots.size → yv A i = yv B i
/-- a boolean that says whether p -/
def Says01 (q : Prop) (r : Option Value) (s u : State) : Prop := ∃ v : Int32, r = some (.int v) ∧ u.heap = s.heap ∧ ((v = 1 ∧ q) ∨ (v = 0 ∧ ¬ q))
theorem Says01.mv {q : Prop} : ∀ r (U U' V V' : State), U'.heap = U.heap → V.vm.Alike V'.vm → V'.heap = V.heap → Says01 q r U V → Says01 q r U' V' :=
  fun r U U' V V' h1 _ h2 ⟨v, a, b, c⟩ => ⟨v, a, by rw [h1, h2]; exact b, c⟩
namespace LEq
def yN : MethodName := ⟨"java/lang/StringLatin1", "equals", "([B[B)Z"⟩
abbrev yB : ByteArray := jdk_43_method_13_code
theorem d0 : decode yB 0 = .ok (.aload_n 0, 1) := by decide +kernel
theorem d1 : decode yB 1 = .ok (.arraylength, 1) := by decide +kernel
theorem d2 : decode yB 2 = .ok (.aload_n 1, 1) := by decide +kernel
theorem d3 : decode yB 3 = .ok (.arraylength, 1) := by decide +kernel
theorem d4 : decode yB 4 = .ok (.if_icmp (.ne) 30, 3) := by decide +kernel
theorem d7 : decode yB 7 = .ok (.iconst 0, 1) := by decide +kernel
theorem d8 : decode yB 8 = .ok (.istore_n 2, 1) := by decide +kernel
theorem d9 : decode yB 9 = .ok (.iload_n 2, 1) := by decide +kernel
theorem d10 : decode yB 10 = .ok (.aload_n 0, 1) := by decide +kernel
theorem d11 : decode yB 11 = .ok (.arraylength, 1) := by decide +kernel
theorem d12 : decode yB 12 = .ok (.if_icmp (.ge) 20, 3) := by decide +kernel
theorem d15 : decode yB 15 = .ok (.aload_n 0, 1) := by decide +kernel
theorem d16 : decode yB 16 = .ok (.iload_n 2, 1) := by decide +kernel
theorem d17 : decode yB 17 = .ok (.baload, 1) := by decide +kernel
theorem d18 : decode yB 18 = .ok (.aload_n 1, 1) := by decide +kernel
theorem d19 : decode yB 19 = .ok (.iload_n 2, 1) := by decide +kernel
theorem d20 : decode yB 20 = .ok (.baload, 1) := by decide +kernel
theorem d21 : decode yB 21 = .ok (.if_icmp (.eq) 5, 3) := by decide +kernel
theorem d24 : decode yB 24 = .ok (.iconst 0, 1) := by decide +kernel
theorem d25 : decode yB 25 = .ok (.ireturn, 1) := by decide +kernel
theorem d26 : decode yB 26 = .ok (.iinc 2 1, 3) := by decide +kernel
theorem d29 : decode yB 29 = .ok (.goto (-20), 3) := by decide +kernel
theorem d32 : decode yB 32 = .ok (.iconst 1, 1) := by decide +kernel
theorem d33 : decode yB 33 = .ok (.ireturn, 1) := by decide +kernel
theorem d34 : decode yB 34 = .ok (.iconst 0, 1) := by decide +kernel
theorem d35 : decode yB 35 = .ok (.ireturn, 1) := by decide +kernel
def site : List Cond := []
def tab : Cond := tabOf yN yB 3 (some .boolean) site
def P (a : Addr) (A : Cell) (b : Addr) (B : Cell) (args : Array Value) (s : State) : Prop := args = #[.ref a, .ref b] ∧ XT.Arr .byte a A s ∧ Typed .byte A ∧ XT.Arr .byte b B s ∧ Typed .byte B
/-- whether two byte[] are equal, place for place -/
theorem law (l : Launch) (a : Addr) (A : Cell) (b : Addr) (B : Cell) : Law l yN 2 2 0 0 yB 3 (some .boolean) site (P a A b B) (Says01 (EqC A B)) [] 0 0 := by
  refine Law.of_walk (plainFor_of_name (by decide +kernel)) (by decide +kernel) (by decide +kernel) (by decide) (fun _ _ h => by rw [h.1]; rfl) (fun _ U U' hal hh h => ⟨h.1, h.2.1.mv hal hh, h.2.2.1, h.2.2.2.1.mv hal hh, h.2.2.2.2⟩) (fun r U U' V V' h1 hal h2 h => Says01.mv r U U' V V' h1 hal h2 h) ?_
  intro p e s m args below meth c s₁ X0 hexec hbytes hml hret hlk hnm hown hh0 W hP
  obtain ⟨rfl, hA, tA, hB, tB⟩ := hP
  have a31 := hA.2.2.2
  have b31 := hB.2.2.2
  have hA0 := hA.mv X0.warmed.alike hh0
  have hB0 := hB.mv X0.warmed.alike hh0
  have c1 : Steps p.tables e below (s₁.setTop (entryFrame m #[.ref a, .ref b] 3)) (s₁.setTop (mkF m 0 #[.val (.ref a), .val (.ref b), .unset] [])) := entry rfl
  have c2 : Steps p.tables e below (s₁.setTop (entryFrame m #[.ref a, .ref b] 3)) (s₁.setTop (mkF m 4 #[.val (.ref a), .val (.ref b), .unset] [.int (Int32.ofNat B.slots.size), .int (Int32.ofNat A.slots.size)])) := c1.trans (by
    refine XS.aloadN X0.here hexec rfl (hb hbytes d0) rfl rfl ?_
    refine X0.alen hexec hA0 rfl rfl (hb hbytes d1) ?_
    refine XS.aloadN X0.here hexec rfl (hb hbytes d2) rfl rfl ?_
    refine X0.alen hexec hB0 rfl rfl (hb hbytes d3) ?_
    exact Steps.refl _)
  by_cases hs : A.slots.size = B.slots.size
  · have c3 : Steps p.tables e below (s₁.setTop (entryFrame m #[.ref a, .ref b] 3)) (s₁.setTop (mkF m 9 #[.val (.ref a), .val (.ref b), .val (.int 0)] [])) := c2.trans (by
      refine XS.icmpNo X0.here hexec rfl (hb hbytes d4) rfl (ii_ne_f (by rw [hs])) ?_
      refine iconstV X0.here hexec rfl 0 (hb hbytes d7) (by decide) ?_
      refine XS.istoreN X0.here hexec rfl (hb hbytes d8) rfl rfl ?_
      exact Steps.refl _)
    have loop : ∀ (r i : Nat), i + r = A.slots.size → (∀ j, j < i → yv A j = yv B j) → Steps p.tables e below (s₁.setTop (entryFrame m #[.ref a, .ref b] 3)) (s₁.setTop (mkF m 9 #[.val (.ref a), .val (.ref b), .val (.int (Int32.ofNat i))] [])) → ∃ (pc : Nat) (Ls : Array Slot) (v : Int32), (pc = 25 ∨ pc = 33) ∧ ((v = 1 ∧ EqC A B) ∨ (v = 0 ∧ ¬ EqC A B)) ∧ Steps p.tables e below (s₁.setTop (entryFrame m #[.ref a, .ref b] 3)) (s₁.setTop (mkF m pc Ls [.int v])) := by
      intro r
      induction r with
      | zero =>
        intro i hi he cl
        exact ⟨33, _, 1, Or.inr rfl, Or.inl ⟨rfl, hs, fun j hj => he j (by omega)⟩, cl.trans (by
          refine XS.iloadN X0.here hexec rfl (hb hbytes d9) rfl ?_
          refine XS.aloadN X0.here hexec rfl (hb hbytes d10) rfl rfl ?_
          refine X0.alen hexec hA0 rfl rfl (hb hbytes d11) ?_
          refine XS.icmpYes X0.here hexec rfl (pc0 := 12) rfl (hb hbytes d12) rfl (ii_ge_t (nlt32 (by omega) (by omega))) (by decide) rfl ?_
          refine iconstV X0.here hexec rfl 1 (hb hbytes d32) (by decide) ?_
          exact Steps.refl _)⟩
      | succ r ih =>
        intro i hi he cl
        have c4 : Steps p.tables e below (s₁.setTop (entryFrame m #[.ref a, .ref b] 3)) (s₁.setTop (mkF m 21 #[.val (.ref a), .val (.ref b), .val (.int (Int32.ofNat i))] [.int (yv B i), .int (yv A i)])) := cl.trans (by
          refine XS.iloadN X0.here hexec rfl (hb hbytes d9) rfl ?_
          refine XS.aloadN X0.here hexec rfl (hb hbytes d10) rfl rfl ?_
          refine X0.alen hexec hA0 rfl rfl (hb hbytes d11) ?_
          refine XS.icmpNo X0.here hexec rfl (hb hbytes d12) rfl (ii_ge_f (lt32 (by omega) (by omega))) ?_
          refine XS.aloadN X0.here hexec rfl (hb hbytes d15) rfl rfl ?_
          refine XS.iloadN X0.here hexec rfl (hb hbytes d16) rfl ?_
          refine X0.aget hexec hA0 rfl (yv_get hA tA (i := i) (by omega)) rfl rfl (hb hbytes d17) ?_
          refine XS.aloadN X0.here hexec rfl (hb hbytes d18) rfl rfl ?_
          refine XS.iloadN X0.here hexec rfl (hb hbytes d19) rfl ?_
          refine X0.aget hexec hB0 rfl (yv_get hB tB (i := i) (by omega)) rfl rfl (hb hbytes d20) ?_
          exact Steps.refl _)
        by_cases hv : yv A i = yv B i
        · have c5 : Steps p.tables e below (s₁.setTop (entryFrame m #[.ref a, .ref b] 3)) (s₁.setTop (mkF m 9 #[.val (.ref a), .val (.ref b), .val (.int (Int32.ofNat i + 1))] [])) := c4.trans (by
            refine XS.icmpYes X0.here hexec rfl (pc0 := 21) rfl (hb hbytes d21) rfl (ii_eq_t hv) (by decide) rfl ?_
            refine iincV X0.here hexec rfl 1 (hb hbytes d26) (by decide) rfl rfl ?_
            refine XS.goto X0.here hexec rfl (pc0 := 29) rfl (hb hbytes d29) (by decide) rfl ?_
            exact Steps.refl _)
          rw [succ32] at c5
          exact ih (i + 1) (by omega) (fun j hj => by
            by_cases e : j = i
            · rw [e]; exact hv
            · exact he j (by omega)) c5
        · exact ⟨25, _, 0, Or.inl rfl, Or.inr ⟨rfl, fun q => hv (q.2 i (by omega))⟩, c4.trans (by
            refine XS.icmpNo X0.here hexec rfl (hb hbytes d21) rfl (ii_eq_f hv) ?_
            refine iconstV X0.here hexec rfl 0 (hb hbytes d24) (by decide) ?_
            exact Steps.refl _)⟩
    obtain ⟨pc, Ls, v, hpc, hv, cz⟩ := loop A.slots.size 0 (by omega) (fun j hj => absurd hj (Nat.not_lt_zero j)) c3
    have nv : narrow .boolean (.int v) = .int v := by rcases hv with ⟨rfl, -⟩ | ⟨rfl, -⟩ <;> rfl
    rcases hpc with rfl | rfl
    · exact ⟨s₁, some (.int v), _, _, _, X0, rfl, rfl, rfl, (fun h => by cases h), ⟨v, rfl, hh0, hv⟩, fun fs hl => cz.trans (X0.ireturnOut hexec hret nv (Or.inr (Or.inl rfl)) (hb hbytes d25) hl)⟩
    · exact ⟨s₁, some (.int v), _, _, _, X0, rfl, rfl, rfl, (fun h => by cases h), ⟨v, rfl, hh0, hv⟩, fun fs hl => cz.trans (X0.ireturnOut hexec hret nv (Or.inr (Or.inl rfl)) (hb hbytes d33) hl)⟩
  · have c3 : Steps p.tables e below (s₁.setTop (entryFrame m #[.ref a, .ref b] 3)) (s₁.setTop (mkF m 35 #[.val (.ref a), .val (.ref b), .unset] [.int 0])) := c2.trans (by
      refine XS.icmpYes X0.here hexec rfl (pc0 := 4) rfl (hb hbytes d4) rfl (ii_ne_t (ne32 a31 b31 hs)) (by decide) rfl ?_
      refine iconstV X0.here hexec rfl 0 (hb hbytes d34) (by decide) ?_
      exact Steps.refl _)
    exact ⟨s₁, some (.int 0), _, _, _, X0, rfl, rfl, rfl, (fun h => by cases h), ⟨0, rfl, hh0, Or.inr ⟨rfl, fun q => hs q.1⟩⟩, fun fs hl => c3.trans (X0.ireturnOut hexec hret rfl (Or.inr (Or.inl rfl)) (hb hbytes d35) hl)⟩
end LEq
theorem Cod.ty {cd : Int32} {n : Nat} {f : Nat → Int32} {V : Cell} (h : Cod cd n f V) : Typed .byte V := fun i v hv => by
  have hi : i < V.slots.size := (Array.getElem?_eq_some_iff.mp hv).1
  rcases h with ⟨-, k1, k2⟩ | ⟨-, k1, k2, -⟩
  · rw [(k2 i (by omega)).1] at hv; cases hv; exact fits_lo8 _
  · rcases Nat.mod_two_eq_zero_or_one i with e | e
    · obtain ⟨j, rfl⟩ : ∃ j, i = 2 * j := ⟨i / 2, by omega⟩
      rw [(k2 j (by omega)).1] at hv; cases hv; exact fits_lo8 _
    · obtain ⟨j, rfl⟩ : ∃ j, i = 2 * j + 1 := ⟨i / 2, by omega⟩
      rw [(k2 j (by omega)).2] at hv; cases hv; exact fits_lo8 _
/-- the same text -/
def SameT (n : Nat) (f : Nat → Int32) (k : Nat) (g : Nat → Int32) : Prop := n = k ∧ ∀ j, j < n → f j = g j
theorem lo8_inj {x y : Int32} (h0 : ¬ x < 0) (h1 : ¬ 255 < x) (k0 : ¬ y < 0) (k1 : ¬ 255 < y) (h : lo8 x = lo8 y) : x = y := by
  rw [← lo8_mask h0 h1, ← lo8_mask k0 k1, h]
/-- arrays coded by one coder are equal just where the texts are -/
theorem Cod.eqv {cd : Int32} {n k : Nat} {f g : Nat → Int32} {V V' : Cell} (h : Cod cd n f V) (h' : Cod cd k g V') (hf : ∀ j, j < n → ¬ f j < 0 ∧ ¬ 65535 < f j) (hg : ∀ j, j < k → ¬ g j < 0 ∧ ¬ 65535 < g j) : EqC V V' ↔ SameT n f k g := by
  have yvv : ∀ {W : Cell} {i : Nat} {x : Int32}, W.slots[i]? = some (.int x) → yv W i = x := fun q => by unfold yv; rw [q]
  rcases h with ⟨rfl, k1, k2⟩ | ⟨rfl, k1, k2, -⟩
  · rcases h' with ⟨-, m1, m2⟩ | ⟨e, -⟩
    · constructor
      · rintro ⟨e1, e2⟩
        refine ⟨by omega, fun j hj => ?_⟩
        have q := e2 j (by omega)
        rw [yvv (k2 j hj).1, yvv (m2 j (by omega)).1] at q
        exact lo8_inj (hf j hj).1 (k2 j hj).2 (hg j (by omega)).1 (m2 j (by omega)).2 q
      · rintro ⟨rfl, e2⟩
        refine ⟨by omega, fun j hj => ?_⟩
        rw [yvv (k2 j (by omega)).1, yvv (m2 j (by omega)).1, e2 j (by omega)]
    · exact absurd e (by decide)
  · rcases h' with ⟨e, -⟩ | ⟨-, m1, m2, -⟩
    · exact absurd e (by decide)
    · constructor
      · rintro ⟨e1, e2⟩
        refine ⟨by omega, fun j hj => ?_⟩
        have q1 := e2 (2 * j) (by omega)
        have q2 := e2 (2 * j + 1) (by omega)
        rw [yvv (k2 j hj).1, yvv (m2 j (by omega)).1] at q1
        rw [yvv (k2 j hj).2, yvv (m2 j (by omega)).2] at q2
        rw [← pair_says (hf j hj).1 (hf j hj).2, ← pair_says (hg j (by omega)).1 (hg j (by omega)).2, q1, q2]
      · rintro ⟨rfl, e2⟩
        refine ⟨by omega, fun i hi => ?_⟩
        rcases Nat.mod_two_eq_zero_or_one i with e | e
        · obtain ⟨j, rfl⟩ : ∃ j, i = 2 * j := ⟨i / 2, by omega⟩
          rw [yvv (k2 j (by omega)).1, yvv (m2 j (by omega)).1, e2 j (by omega)]
        · obtain ⟨j, rfl⟩ : ∃ j, i = 2 * j + 1 := ⟨i / 2, by omega⟩
          rw [yvv (k2 j (by omega)).2, yvv (m2 j (by omega)).2, e2 j (by omega)]
/-- two codings differ: so do the texts -/
theorem Cod.dif {cd cd' : Int32} {n k : Nat} {f g : Nat → Int32} {V V' : Cell} (h : Cod cd n f V) (h' : Cod cd' k g V') (hne : ¬ cd = cd') : ¬ SameT n f k g := by
  rintro ⟨rfl, e⟩
  rcases h with ⟨rfl, -, k2⟩ | ⟨rfl, -, -, j, hj, hw⟩
  · rcases h' with ⟨rfl, -⟩ | ⟨-, -, -, j, hj, hw⟩
    · exact hne rfl
    · exact (k2 j hj).2 (by rw [e j hj]; exact hw)
  · rcases h' with ⟨-, -, m2⟩ | ⟨rfl, -⟩
    · exact (m2 j hj).2 (by rw [← e j hj]; exact hw)
    · exact hne rfl
/-- an object of exactly C is an instance of C -/
theorem cinst {p : Program} {l : Launch} {e : Env} {R : Room} {s : State} {m : MethodId} {args : Array Value} {below : List Frame} {meth : Method} {c : Code} {T : State} {locs : List Loc} {cells slots : Nat} (X : Stand p l e R s m args below meth c T locs cells slots) (hexec : p.tables.exec = Jvm.exec) {own C : String} {index : Nat} (hown : s.vm.findClass own = some m.cls) (hlink : (Cond.classLink own index C).before args s = true) {a : Addr} (hE : Exact C a T)
    {g : JFrame} (hg : g.method = m) {rest : List Value} (hstack : g.stack = .ref a :: rest) (hdg : decode c.code g.pc = .ok (.instanceof index, 3)) :
    ∃ T', Stand p l e R s m args below meth c T' locs cells slots ∧ T'.heap = T.heap ∧ ∀ target, Steps p.tables e below (T'.setTop { g with pc := g.pc + 3, stack := .int 1 :: rest }) target → Steps p.tables e below (T.setTop g) target := by
  obtain ⟨cB, h1, D, h2, h3, h4⟩ := hE
  have h1' : s.vm.findClass C = some cB := by rw [← X.warmed.alike.findClass]; exact h1
  obtain ⟨vm', X', st⟩ := X.instanceofYes hexec hown hlink h2 h4 h1' (by rw [h3]; exact Jvm.Free.SB.assignable_self _ _) hg hstack hdg
  exact ⟨_, X', rfl, st⟩
theorem cself {p : Program} {l : Launch} {e : Env} {R : Room} {s : State} {m : MethodId} {args : Array Value} {below : List Frame} {meth : Method} {c : Code} {T : State} {locs : List Loc} {cells slots : Nat} (X : Stand p l e R s m args below meth c T locs cells slots) (hexec : p.tables.exec = Jvm.exec) {own C : String} {index : Nat} (hown : s.vm.findClass own = some m.cls) (hlink : (Cond.classLink own index C).before args s = true) {a : Addr} (hE : Exact C a T)
    {g : JFrame} (hg : g.method = m) {rest : List Value} (hstack : g.stack = .ref a :: rest) (hdg : decode c.code g.pc = .ok (.checkcast index, 3)) :
    ∃ T', Stand p l e R s m args below meth c T' locs cells slots ∧ T'.heap = T.heap ∧ ∀ target, Steps p.tables e below (T'.setTop { g with pc := g.pc + 3, stack := .ref a :: rest }) target → Steps p.tables e below (T.setTop g) target := by
  obtain ⟨cB, h1, D, h2, h3, h4⟩ := hE
  have h1' : s.vm.findClass C = some cB := by rw [← X.warmed.alike.findClass]; exact h1
  obtain ⟨vm', X', st⟩ := X.checkcastYes hexec hown hlink h2 h4 h1' (by rw [h3]; exact Jvm.Free.SB.assignable_self _ _) hg hstack hdg
  exact ⟨_, X', rfl, fun t h => st t (by rw [← hstack] at h; exact h)⟩
namespace SEq
def yN : MethodName := ⟨"java/lang/String", "equals", "(Ljava/lang/Object;)Z"⟩
abbrev yB : ByteArray := jdk_42_method_66_code
theorem d0 : decode yB 0 = .ok (.aload_n 0, 1) := by decide +kernel
theorem d1 : decode yB 1 = .ok (.aload_n 1, 1) := by decide +kernel
theorem d2 : decode yB 2 = .ok (.if_acmp (.ne) 5, 3) := by decide +kernel
theorem d5 : decode yB 5 = .ok (.iconst 1, 1) := by decide +kernel
theorem d6 : decode yB 6 = .ok (.ireturn, 1) := by decide +kernel
theorem d7 : decode yB 7 = .ok (.aload_n 1, 1) := by decide +kernel
theorem d8 : decode yB 8 = .ok (.instanceof 10, 3) := by decide +kernel
theorem d11 : decode yB 11 = .ok (.ifCond (.eq) 43, 3) := by decide +kernel
theorem d14 : decode yB 14 = .ok (.aload_n 1, 1) := by decide +kernel
theorem d15 : decode yB 15 = .ok (.checkcast 10, 3) := by decide +kernel
theorem d18 : decode yB 18 = .ok (.astore_n 2, 1) := by decide +kernel
theorem d19 : decode yB 19 = .ok (.getstatic 38, 3) := by decide +kernel
theorem d22 : decode yB 22 = .ok (.ifCond (.eq) 14, 3) := by decide +kernel
theorem d25 : decode yB 25 = .ok (.aload_n 0, 1) := by decide +kernel
theorem d26 : decode yB 26 = .ok (.getfield 15, 3) := by decide +kernel
theorem d29 : decode yB 29 = .ok (.aload_n 2, 1) := by decide +kernel
theorem d30 : decode yB 30 = .ok (.getfield 15, 3) := by decide +kernel
theorem d33 : decode yB 33 = .ok (.if_icmp (.ne) 21, 3) := by decide +kernel
theorem d36 : decode yB 36 = .ok (.aload_n 0, 1) := by decide +kernel
theorem d37 : decode yB 37 = .ok (.getfield 9, 3) := by decide +kernel
theorem d40 : decode yB 40 = .ok (.aload_n 2, 1) := by decide +kernel
theorem d41 : decode yB 41 = .ok (.getfield 9, 3) := by decide +kernel
theorem d44 : decode yB 44 = .ok (.invokestatic 541, 3) := by decide +kernel
theorem d47 : decode yB 47 = .ok (.ifCond (.eq) 7, 3) := by decide +kernel
theorem d50 : decode yB 50 = .ok (.iconst 1, 1) := by decide +kernel
theorem d51 : decode yB 51 = .ok (.goto 4, 3) := by decide +kernel
theorem d54 : decode yB 54 = .ok (.iconst 0, 1) := by decide +kernel
theorem d55 : decode yB 55 = .ok (.ireturn, 1) := by decide +kernel
def site : List Cond := [.classLink "java/lang/String" 10 "java/lang/String", .fieldLink "java/lang/String" 38 "java/lang/String" "COMPACT_STRINGS" "Z", .fieldLink "java/lang/String" 15 "java/lang/String" "coder" "B", .fieldLink "java/lang/String" 9 "java/lang/String" "value" "[B", LEq.tab] ++ staticW "java/lang/String" 541 LEq.yN
def tab : Cond := tabOf yN yB 3 (some .boolean) site
def P (x t : Addr) (V : Cell) (cd : Int32) (n : Nat) (f : Nat → Int32) (y t' : Addr) (V' : Cell) (cd' : Int32) (k : Nat) (g : Nat → Int32) (z : Int32) (args : Array Value) (s : State) : Prop := args = #[.ref x, .ref y] ∧ Txt x t V cd n f s ∧ Txt y t' V' cd' k g s ∧ StaticIs s "java/lang/String" "COMPACT_STRINGS" "Z" (.int z) ∧ ¬ z = 0
/-- equals(Object) of two Strings: whether the texts are the same -/
theorem law (l : Launch) (x t : Addr) (V : Cell) (cd : Int32) (n : Nat) (f : Nat → Int32) (y t' : Addr) (V' : Cell) (cd' : Int32) (k : Nat) (g : Nat → Int32) (z : Int32) : Law l yN 2 1 1 14 yB 3 (some .boolean) site (P x t V cd n f y t' V' cd' k g z) (Says01 (SameT n f k g)) [] 0 0 := by
  refine Law.of_walk (plainFor_of_name (by decide +kernel)) (by decide +kernel) (by decide +kernel) (by decide) (fun _ _ h => by rw [h.1]; rfl) (fun _ U U' hal hh h => ⟨h.1, h.2.1.mv hal hh, h.2.2.1.mv hal hh, h.2.2.2.1.there hal hh, h.2.2.2.2⟩) (fun r U U' V V' h1 hal h2 h => Says01.mv r U U' V V' h1 hal h2 h) ?_
  intro p e s m args below meth c s₁ X0 hexec hbytes hml hret hlk hnm hown hh0 W hP
  obtain ⟨rfl, hx, hy, s1, hz⟩ := hP
  have c1 : Steps p.tables e below (s₁.setTop (entryFrame m #[.ref x, .ref y] 3)) (s₁.setTop (mkF m 2 #[.val (.ref x), .val (.ref y), .unset] [.ref y, .ref x])) := Steps.trans (entry rfl) (by
    show Steps p.tables e below (s₁.setTop (mkF m 0 #[.val (.ref x), .val (.ref y), .unset] [])) _
    refine XS.aloadN X0.here hexec rfl (hb hbytes d0) rfl rfl ?_
    refine XS.aloadN X0.here hexec rfl (hb hbytes d1) rfl rfl ?_
    exact Steps.refl _)
  by_cases hxy : x = y
  · have c2 : Steps p.tables e below (s₁.setTop (entryFrame m #[.ref x, .ref y] 3)) (s₁.setTop (mkF m 6 #[.val (.ref x), .val (.ref y), .unset] [.int 1])) := c1.trans (by
      refine acmpNo X0.here hexec rfl (hb hbytes d2) rfl rfl rfl (by simp [acmp, hxy]) ?_
      refine iconstV X0.here hexec rfl 1 (hb hbytes d5) (by decide) ?_
      exact Steps.refl _)
    subst hxy
    have ec : cd = cd' := by
      obtain ⟨D, fd, a1, a2, a3⟩ := hx.2.2.1
      obtain ⟨D', fd', b1, b2, b3⟩ := hy.2.2.1
      cases a1.symm.trans b1
      obtain ⟨q1, q2, q3, q4⟩ := a2.1
      obtain ⟨r1, r2, r3, r4⟩ := b2.1
      cases q4.symm.trans r4
      cases a3.symm.trans b3; rfl
    have et : t = t' := by
      obtain ⟨D, fd, a1, a2, a3⟩ := hx.2.1
      obtain ⟨D', fd', b1, b2, b3⟩ := hy.2.1
      cases a1.symm.trans b1
      obtain ⟨q1, q2, q3, q4⟩ := a2.1
      obtain ⟨r1, r2, r3, r4⟩ := b2.1
      cases q4.symm.trans r4
      cases a3.symm.trans b3; rfl
    subst ec et
    have ev : V = V' := by cases hx.2.2.2.1.1.symm.trans hy.2.2.2.1.1; rfl
    subst ev
    have hs : SameT n f k g := (Cod.eqv hx.2.2.2.2.1 hy.2.2.2.2.1 hx.2.2.2.2.2 hy.2.2.2.2.2).mp ⟨rfl, fun _ _ => rfl⟩
    exact ⟨s₁, some (.int 1), _, _, _, X0, rfl, rfl, rfl, (fun h => by cases h), ⟨1, rfl, hh0, Or.inl ⟨rfl, hs⟩⟩, fun fs hl => c2.trans (X0.ireturnOut hexec hret rfl (Or.inr (Or.inl rfl)) (hb hbytes d6) hl)⟩
  · have c2 : Steps p.tables e below (s₁.setTop (entryFrame m #[.ref x, .ref y] 3)) (s₁.setTop (mkF m 8 #[.val (.ref x), .val (.ref y), .unset] [.ref y])) := c1.trans (by
      refine acmpYes X0.here hexec rfl (pc0 := 2) rfl (hb hbytes d2) rfl rfl rfl (by simp [acmp, hxy]) (by decide) rfl ?_
      refine XS.aloadN X0.here hexec rfl (hb hbytes d7) rfl rfl ?_
      exact Steps.refl _)
    obtain ⟨T3, X3, q3, st3⟩ := cinst X0 hexec hown (wk W (.classLink "java/lang/String" 10 "java/lang/String")) (hy.mv X0.warmed.alike hh0).1 (g := (mkF m 8 #[.val (.ref x), .val (.ref y), .unset] [.ref y])) rfl (rest := []) rfl (hb hbytes d8)
    have hh3 := q3.trans hh0
    have c4 : Steps p.tables e below (s₁.setTop (entryFrame m #[.ref x, .ref y] 3)) (T3.setTop (mkF m 15 #[.val (.ref x), .val (.ref y), .unset] [.ref y])) := (c2.trans (st3 _ (Steps.refl _))).trans (by
      refine XS.ifNo X3.here hexec rfl (hb hbytes d11) rfl (i0_eq_f (by decide)) ?_
      refine XS.aloadN X3.here hexec rfl (hb hbytes d14) rfl rfl ?_
      exact Steps.refl _)
    obtain ⟨T5, X5, q5, st5⟩ := cself X3 hexec hown (wk W (.classLink "java/lang/String" 10 "java/lang/String")) (hy.mv X3.warmed.alike hh3).1 (g := (mkF m 15 #[.val (.ref x), .val (.ref y), .unset] [.ref y])) rfl (rest := []) rfl (hb hbytes d15)
    have hh5 := q5.trans hh3
    have c6 : Steps p.tables e below (s₁.setTop (entryFrame m #[.ref x, .ref y] 3)) (T5.setTop (mkF m 19 #[.val (.ref x), .val (.ref y), .val (.ref y)] [])) := (c4.trans (st5 _ (Steps.refl _))).trans (by
      refine XS.astoreN X5.here hexec rfl (hb hbytes d18) rfl rfl rfl ?_
      exact Steps.refl _)
    obtain ⟨T7, X7, q7, st7⟩ := X5.sget hexec hown (wk W (.fieldLink "java/lang/String" 38 "java/lang/String" "COMPACT_STRINGS" "Z")) s1 (fun _ _ h => by rw [hh5]; exact h) (g := (mkF m 19 #[.val (.ref x), .val (.ref y), .val (.ref y)] [])) rfl (hb hbytes d19)
    have hh7 := q7.trans hh5
    have c8 : Steps p.tables e below (s₁.setTop (entryFrame m #[.ref x, .ref y] 3)) (T7.setTop (mkF m 26 #[.val (.ref x), .val (.ref y), .val (.ref y)] [.ref x])) := (c6.trans (st7 _ (Steps.refl _))).trans (by
      refine XS.ifNo X7.here hexec rfl (hb hbytes d22) rfl (i0_eq_f hz) ?_
      refine XS.aloadN X7.here hexec rfl (hb hbytes d25) rfl rfl ?_
      exact Steps.refl _)
    obtain ⟨T9, X9, q9, st9⟩ := X7.hget hexec hown (wk W (.fieldLink "java/lang/String" 15 "java/lang/String" "coder" "B")) (hx.mv X7.warmed.alike hh7).2.2.1 (g := (mkF m 26 #[.val (.ref x), .val (.ref y), .val (.ref y)] [.ref x])) rfl (rest := []) rfl (hb hbytes d26)
    have hh9 := q9.trans hh7
    have c10 : Steps p.tables e below (s₁.setTop (entryFrame m #[.ref x, .ref y] 3)) (T9.setTop (mkF m 30 #[.val (.ref x), .val (.ref y), .val (.ref y)] [.ref y, .int cd])) := (c8.trans (st9 _ (Steps.refl _))).trans (by
      refine XS.aloadN X9.here hexec rfl (hb hbytes d29) rfl rfl ?_
      exact Steps.refl _)
    obtain ⟨T11, X11, q11, st11⟩ := X9.hget hexec hown (wk W (.fieldLink "java/lang/String" 15 "java/lang/String" "coder" "B")) (hy.mv X9.warmed.alike hh9).2.2.1 (g := (mkF m 30 #[.val (.ref x), .val (.ref y), .val (.ref y)] [.ref y, .int cd])) rfl (rest := [.int cd]) rfl (hb hbytes d30)
    have hh11 := q11.trans hh9
    have c12 : Steps p.tables e below (s₁.setTop (entryFrame m #[.ref x, .ref y] 3)) (T11.setTop (mkF m 33 #[.val (.ref x), .val (.ref y), .val (.ref y)] [.int cd', .int cd])) := c10.trans (st11 _ (Steps.refl _))
    by_cases hcd : cd = cd'
    · subst hcd
      have c13 : Steps p.tables e below (s₁.setTop (entryFrame m #[.ref x, .ref y] 3)) (T11.setTop (mkF m 37 #[.val (.ref x), .val (.ref y), .val (.ref y)] [.ref x])) := c12.trans (by
        refine XS.icmpNo X11.here hexec rfl (hb hbytes d33) rfl (ii_ne_f rfl) ?_
        refine XS.aloadN X11.here hexec rfl (hb hbytes d36) rfl rfl ?_
        exact Steps.refl _)
      obtain ⟨T14, X14, q14, st14⟩ := X11.hget hexec hown (wk W (.fieldLink "java/lang/String" 9 "java/lang/String" "value" "[B")) (hx.mv X11.warmed.alike hh11).2.1 (g := (mkF m 37 #[.val (.ref x), .val (.ref y), .val (.ref y)] [.ref x])) rfl (rest := []) rfl (hb hbytes d37)
      have hh14 := q14.trans hh11
      have c15 : Steps p.tables e below (s₁.setTop (entryFrame m #[.ref x, .ref y] 3)) (T14.setTop (mkF m 41 #[.val (.ref x), .val (.ref y), .val (.ref y)] [.ref y, .ref t])) := (c13.trans (st14 _ (Steps.refl _))).trans (by
        refine XS.aloadN X14.here hexec rfl (hb hbytes d40) rfl rfl ?_
        exact Steps.refl _)
      obtain ⟨T16, X16, q16, st16⟩ := X14.hget hexec hown (wk W (.fieldLink "java/lang/String" 9 "java/lang/String" "value" "[B")) (hy.mv X14.warmed.alike hh14).2.1 (g := (mkF m 41 #[.val (.ref x), .val (.ref y), .val (.ref y)] [.ref y, .ref t])) rfl (rest := [.ref t]) rfl (hb hbytes d41)
      have hh16 := q16.trans hh14
      have c17 : Steps p.tables e below (s₁.setTop (entryFrame m #[.ref x, .ref y] 3)) (T16.setTop (mkF m 44 #[.val (.ref x), .val (.ref y), .val (.ref y)] [.ref t', .ref t])) := c15.trans (st16 _ (Steps.refl _))
      obtain ⟨v18, T18, X18, E18, g18⟩ := X16.callS hexec (LEq.law l t V t' V') hown (wks W (staticW "java/lang/String" 541 LEq.yN)) (wk W LEq.tab) (W := 0) (Nat.le_of_ble_eq_true rfl) (Nat.le_of_ble_eq_true rfl) (Nat.le_refl _) (Nat.le_refl _) (g := (mkF m 44 #[.val (.ref x), .val (.ref y), .val (.ref y)] [.ref t', .ref t])) rfl (by rw [hml]; rfl) c17 (argsL := [.ref t, .ref t']) (rest := []) rfl rfl (by show 2 * 0 + 0 ≤ _; decide) (hb hbytes d44) (⟨rfl, hx.2.2.2.1.mv X16.warmed.alike hh16, hx.2.2.2.2.1.ty, hy.2.2.2.1.mv X16.warmed.alike hh16, hy.2.2.2.2.1.ty⟩)
      obtain ⟨v, rfl, q18, hv⟩ := E18
      have iff := Cod.eqv hx.2.2.2.2.1 hy.2.2.2.2.1 hx.2.2.2.2.2 hy.2.2.2.2.2
      rcases hv with ⟨rfl, he⟩ | ⟨rfl, he⟩
      · have c19 : Steps p.tables e below (s₁.setTop (entryFrame m #[.ref x, .ref y] 3)) (T18.setTop (mkF m 55 #[.val (.ref x), .val (.ref y), .val (.ref y)] [.int 1])) := Steps.trans g18 (by
          refine XS.ifNo X18.here hexec rfl (hb hbytes d47) rfl (i0_eq_f (by decide)) ?_
          refine iconstV X18.here hexec rfl 1 (hb hbytes d50) (by decide) ?_
          refine XS.goto X18.here hexec rfl (pc0 := 51) rfl (hb hbytes d51) (by decide) rfl ?_
          exact Steps.refl _)
        exact ⟨T18, some (.int 1), _, _, _, X18, rfl, rfl, rfl, (fun h => by cases h), ⟨1, rfl, q18.trans hh16, Or.inl ⟨rfl, iff.mp he⟩⟩, fun fs hl => c19.trans (X18.ireturnOut hexec hret rfl (Or.inr (Or.inl rfl)) (hb hbytes d55) hl)⟩
      · have c19 : Steps p.tables e below (s₁.setTop (entryFrame m #[.ref x, .ref y] 3)) (T18.setTop (mkF m 55 #[.val (.ref x), .val (.ref y), .val (.ref y)] [.int 0])) := Steps.trans g18 (by
          refine XS.ifYes X18.here hexec rfl (pc0 := 47) rfl (hb hbytes d47) rfl (i0_eq_t rfl) (by decide) rfl ?_
          refine iconstV X18.here hexec rfl 0 (hb hbytes d54) (by decide) ?_
          exact Steps.refl _)
        exact ⟨T18, some (.int 0), _, _, _, X18, rfl, rfl, rfl, (fun h => by cases h), ⟨0, rfl, q18.trans hh16, Or.inr ⟨rfl, fun q => he (iff.mpr q)⟩⟩, fun fs hl => c19.trans (X18.ireturnOut hexec hret rfl (Or.inr (Or.inl rfl)) (hb hbytes d55) hl)⟩
    · have c13 : Steps p.tables e below (s₁.setTop (entryFrame m #[.ref x, .ref y] 3)) (T11.setTop (mkF m 55 #[.val (.ref x), .val (.ref y), .val (.ref y)] [.int 0])) := c12.trans (by
        refine XS.icmpYes X11.here hexec rfl (pc0 := 33) rfl (hb hbytes d33) rfl (ii_ne_t hcd) (by decide) rfl ?_
        refine iconstV X11.here hexec rfl 0 (hb hbytes d54) (by decide) ?_
        exact Steps.refl _)
      exact ⟨T11, some (.int 0), _, _, _, X11, rfl, rfl, rfl, (fun h => by cases h), ⟨0, rfl, hh11, Or.inr ⟨rfl, Cod.dif hx.2.2.2.2.1 hy.2.2.2.2.1 hcd⟩⟩, fun fs hl => c13.trans (X11.ireturnOut hexec hret rfl (Or.inr (Or.inl rfl)) (hb hbytes d55) hl)⟩
theorem pays {l : Launch} {R : Room} {p : Program} {e : Env} {below : List Frame} {s : State} {sargs : Array Value} {len W : Nat} (x t : Addr) (V : Cell) (cd : Int32) (n : Nat) (f : Nat → Int32) (y t' : Addr) (V' : Cell) (cd' : Int32) (k : Nat) (g : Nat → Int32) (z : Int32) (htab : tab.before sargs s = true) (hfr : 2 ≤ R.frames) (hlo : W + 28 ≤ R.locals) :
    Back l R p e below s sargs yN len W (fun A₁ a₁ => A₁.cells + 0 ≤ R.cells ∧ A₁.slots + 0 ≤ R.slots ∧ P x t V cd n f y t' V' cd' k g z a₁ A₁.U) (fun A₁ _ v₁ B₁ => Says01 (SameT n f k g) v₁ A₁.U B₁.U ∧ B₁.locs = A₁.locs ++ [] ∧ B₁.cells = A₁.cells + 0 ∧ B₁.slots = A₁.slots + 0) :=
  (law l x t V cd n f y t' V' cd' k g z).pays htab hfr (by omega)
end SEq
end StrChars
namespace StrChars.Road
open Jvm Sem ClassFile Op Lib Jvm.Stand Jvm.Free Jvm.Free.XT
open Jvm.Lib.Cold (StaticIs)
/-- the words of String.isEmpty() -/
abbrev wordsEmp : List Jvm.Cond := [.code Emp.yN Emp.yB 1 (some .boolean), .initialized ST, .fieldLink ST 9 ST "value" "[B"]
theorem tabEmp_of {a : Array Value} {s : State} (h : ∀ w ∈ wordsEmp, w.before a s = true) : Emp.tab.before a s = true := unparts (wk h (.code Emp.yN Emp.yB 1 (some .boolean))) (wks h (.initialized Emp.yN.cls :: Emp.site))
theorem movedEmp {Z s : State} {a0 args : Array Value} (hZ : Z.Warmed39 s.vm) (hw : ∀ d ∈ wordsEmp, d.before a0 Z = true) : ∀ d ∈ wordsEmp, d.before args s = true := fun d hd => by
  have t : ∀ d ∈ wordsEmp, (d.onTables && d.keepsFace) = true := by decide +kernel
  exact RoadKit.mv hZ (hw d hd) (t d hd)
/-- the words of String.equals(Object) -/
abbrev wordsEq : List Jvm.Cond := [.code SEq.yN SEq.yB 3 (some .boolean), .initialized ST, .classLink ST 10 ST, .fieldLink ST 38 ST "COMPACT_STRINGS" "Z", .fieldLink ST 15 ST "coder" "B", .fieldLink ST 9 ST "value" "[B", .methodLink ST 541 LEq.yN, .static LEq.yN, .code LEq.yN LEq.yB 3 (some .boolean), .initialized "java/lang/StringLatin1"]
theorem tabEq_of {a : Array Value} {s : State} (h : ∀ w ∈ wordsEq, w.before a s = true) : SEq.tab.before a s = true := by
  have hl : LEq.tab.before a s = true := unparts (wk h (.code LEq.yN LEq.yB 3 (some .boolean))) (wks h (.initialized LEq.yN.cls :: LEq.site))
  have q := consq hl h
  exact unparts (wk q (.code SEq.yN SEq.yB 3 (some .boolean))) (wks q (.initialized SEq.yN.cls :: SEq.site))
theorem movedEq {Z s : State} {a0 args : Array Value} (hZ : Z.Warmed39 s.vm) (hw : ∀ d ∈ wordsEq, d.before a0 Z = true) : ∀ d ∈ wordsEq, d.before args s = true := fun d hd => by
  have t : ∀ d ∈ wordsEq, (d.onTables && d.keepsFace) = true := by decide +kernel
  exact RoadKit.mv hZ (hw d hd) (t d hd)
/-- the road's facts of a String, as the laws ask it -/
theorem txt_of {Z U : State} {a0 : Array Value} {kI : Nat} (wi : (Jvm.Cond.instantiable ST kI).before a0 Z = true) (al : Z.vm.Alike U.vm) {x t : Addr} {kb : ClassId} {cs : List Int32} {cd N2 : Int32} {vs : List Value} (E : RoadKit.Exa Z U.heap x ST) (V : RoadKit.Fld Z U.heap x ST "value" "[B" (.ref t)) (C : RoadKit.Fld Z U.heap x ST "coder" "B" (.int cd)) (K : RoadKit.Arv Z U.heap t kb .byte N2 vs (.int 0)) (hc : CodA cs cd N2 vs) (hb : ∀ c ∈ cs, ¬ c < 0 ∧ ¬ (65535 : Int32) < c) (l2 : cs.length ≤ 4000) :
    ∃ A, Txt x t A cd cs.length (fun j => cs.getD j 0) U := by
  obtain ⟨A, K1, K2, K3, K4, K5, K6⟩ := K
  have hcod := hc.cod (by omega) K3 K5
  obtain ⟨D, fV, fC, hB, F1, F2, g1, g2, -, -⟩ := strObj wi al E V C
  exact ⟨A, ⟨_, hB.2.2.1, D, hB.1, rfl, by cases q : D.vm <;> first | rfl | exact absurd q (hB.2.1.2 _)⟩, Has.of hB F1 g1, Has.of hB F2 g2, ⟨K1.1, State.isArrayOf_alike al K1.2.1, K1.2.2, by rcases hcod with ⟨-, q, -⟩ | ⟨-, q, -⟩ <;> omega⟩, hcod, fun j hj => by
    have e : cs.getD j 0 = cs[j] := by simp [List.getD_eq_getElem?_getD, hj]
    show ¬ cs.getD j 0 < 0 ∧ ¬ 65535 < cs.getD j 0
    rw [e]; exact hb _ (List.getElem_mem _)⟩
theorem same_list (cs ds : List Int32) : SameT cs.length (fun j => cs.getD j 0) ds.length (fun j => ds.getD j 0) ↔ cs = ds := by
  constructor
  · rintro ⟨e, q⟩
    refine List.ext_getElem e fun j h1 h2 => ?_
    have := q j h1
    simpa [List.getD_eq_getElem?_getD, h1, h2] using this
  · rintro rfl
    exact ⟨rfl, fun _ _ => rfl⟩
/-- **isEmpty() OF SUCH A STRING** -/
theorem empW {p : Program} {l : Launch} {e : Env} {R : Room} {s : State} {args : Array Value} {below : List Frame} {len W : Nat} {Z : State} {a0 : Array Value} {h : Heap} (hZ : Z.Warmed39 s.vm) (hw : ∀ d ∈ wordsEmp, d.before a0 Z = true) {kI : Nat} (wi : (Jvm.Cond.instantiable ST kI).before a0 Z = true)
    {x t : Addr} {kb : ClassId} {cs : List Int32} {cd N2 : Int32} {vs : List Value} (E : RoadKit.Exa Z h x ST) (V : RoadKit.Fld Z h x ST "value" "[B" (.ref t)) (C : RoadKit.Fld Z h x ST "coder" "B" (.int cd)) (K : RoadKit.Arv Z h t kb .byte N2 vs (.int 0)) (hc : CodA cs cd N2 vs) (hb : ∀ c ∈ cs, ¬ c < 0 ∧ ¬ (65535 : Int32) < c) (l2 : cs.length ≤ 4000) (hfr : 1 ≤ R.frames) (hlo : W + 12 ≤ R.locals) :
    Back l R p e below s args (⟨"java/lang/String", "isEmpty", "()Z"⟩ : MethodName) len W (fun P a => a = #[.ref x] ∧ P.U.heap = h ∧ P.cells + 0 ≤ R.cells ∧ P.slots + 0 ≤ R.slots)
      (fun P _ v B => ∃ L, (v = some (.int (if cs.length = 0 then 1 else 0)) ∧ L = [] ∧ B.U.heap = h) ∧ B.locs = P.locs ++ L ∧ B.cells = P.cells + 0 ∧ B.slots = P.slots + 0) := by
  intro m meth c P g ig mk a X hg hsize hdg hW hn hp'
  obtain ⟨rfl, rfl, r1, r2⟩ := hp'
  have al : Z.vm.Alike P.U.vm := hZ.alike.trans X.warmed.alike
  obtain ⟨A, hx⟩ := txt_of wi al E V C K hc hb l2
  obtain ⟨v, B, X', ⟨⟨hv, hh⟩, hl, hk, hs⟩, st⟩ := Emp.pays x t A cd cs.length (fun j => cs.getD j 0) (tabEmp_of (movedEmp hZ hw)) hfr hlo m meth c P g ig mk _ X hg hsize hdg hW hn ⟨r1, r2, rfl, hx⟩
  exact ⟨v, B, X', ⟨[], ⟨hv, rfl, hh⟩, hl, hk, hs⟩, st⟩
/-- **equals(Object) OF TWO SUCH STRINGS**: 1 just where the chars are the same -/
theorem eqW {p : Program} {l : Launch} {e : Env} {R : Room} {s : State} {args : Array Value} {below : List Frame} {len W : Nat} {Z : State} {a0 : Array Value} {h : Heap} (hZ : Z.Warmed39 s.vm) (hw : ∀ d ∈ wordsEq, d.before a0 Z = true) {kI : Nat} (wi : (Jvm.Cond.instantiable ST kI).before a0 Z = true)
    {x t : Addr} {kb : ClassId} {cs : List Int32} {cd N2 : Int32} {vs : List Value} (E : RoadKit.Exa Z h x ST) (V : RoadKit.Fld Z h x ST "value" "[B" (.ref t)) (C : RoadKit.Fld Z h x ST "coder" "B" (.int cd)) (K : RoadKit.Arv Z h t kb .byte N2 vs (.int 0)) (hc : CodA cs cd N2 vs) (hb : ∀ c ∈ cs, ¬ c < 0 ∧ ¬ (65535 : Int32) < c) (l2 : cs.length ≤ 4000)
    {y t' : Addr} {kb' : ClassId} {ds : List Int32} {cd' N2' : Int32} {vs' : List Value} (E' : RoadKit.Exa Z h y ST) (V' : RoadKit.Fld Z h y ST "value" "[B" (.ref t')) (C' : RoadKit.Fld Z h y ST "coder" "B" (.int cd')) (K' : RoadKit.Arv Z h t' kb' .byte N2' vs' (.int 0)) (hc' : CodA ds cd' N2' vs') (hb' : ∀ c ∈ ds, ¬ c < 0 ∧ ¬ (65535 : Int32) < c) (l2' : ds.length ≤ 4000)
    {z : Int32} (S : RoadKit.Sta Z h ST "COMPACT_STRINGS" "Z" (.int z)) (hz : ¬ z = 0) (hfr : 2 ≤ R.frames) (hlo : W + 28 ≤ R.locals) :
    Back l R p e below s args (⟨"java/lang/String", "equals", "(Ljava/lang/Object;)Z"⟩ : MethodName) len W (fun P a => a = #[.ref x, .ref y] ∧ P.U.heap = h ∧ P.cells + 0 ≤ R.cells ∧ P.slots + 0 ≤ R.slots)
      (fun P _ v B => ∃ L, (((v = some (.int 1) ∧ cs = ds) ∨ (v = some (.int 0) ∧ ¬ cs = ds)) ∧ L = [] ∧ B.U.heap = h) ∧ B.locs = P.locs ++ L ∧ B.cells = P.cells + 0 ∧ B.slots = P.slots + 0) := by
  intro m meth c P g ig mk a X hg hsize hdg hW hn hp'
  obtain ⟨rfl, rfl, r1, r2⟩ := hp'
  have al : Z.vm.Alike P.U.vm := hZ.alike.trans X.warmed.alike
  obtain ⟨A, hx⟩ := txt_of wi al E V C K hc hb l2
  obtain ⟨A', hy⟩ := txt_of wi al E' V' C' K' hc' hb' l2'
  obtain ⟨v, B, X', ⟨⟨w, hv, hh, hq⟩, hl, hk, hs⟩, st⟩ := SEq.pays x t A cd cs.length (fun j => cs.getD j 0) y t' A' cd' ds.length (fun j => ds.getD j 0) z (tabEq_of (movedEq hZ hw)) hfr hlo m meth c P g ig mk _ X hg hsize hdg hW hn ⟨r1, r2, rfl, hx, hy, sta_is al S, hz⟩
  refine ⟨v, B, X', ⟨[], ⟨?_, rfl, hh⟩, hl, hk, hs⟩, st⟩
  rcases hq with ⟨rfl, q⟩ | ⟨rfl, q⟩
  · exact Or.inl ⟨hv, (same_list cs ds).mp q⟩
  · exact Or.inr ⟨hv, fun e => q ((same_list cs ds).mpr e)⟩
end StrChars.Road
namespace StrChars
open Jvm Sem ClassFile Op Lib Jvm.Stand Jvm.Free.XT Jvm.Free.ALB Jvm.Free.JM Jvm.Free
open Jvm.Lib.Cold (StaticIs)
namespace ChN
def yN : MethodName := ⟨"java/lang/String", "charAt", "(I)C"⟩
abbrev yB : ByteArray := jdk_42_method_56_code
theorem d0 : decode yB 0 = .ok (.aload_n 0, 1) := by decide +kernel
theorem d1 : decode yB 1 = .ok (.invokevirtual 492, 3) := by decide +kernel
theorem d4 : decode yB 4 = .ok (.ifCond (.eq) 12, 3) := by decide +kernel
theorem d7 : decode yB 7 = .ok (.aload_n 0, 1) := by decide +kernel
theorem d8 : decode yB 8 = .ok (.getfield 9, 3) := by decide +kernel
theorem d11 : decode yB 11 = .ok (.iload_n 1, 1) := by decide +kernel
theorem d12 : decode yB 12 = .ok (.invokestatic 495, 3) := by decide +kernel
theorem d15 : decode yB 15 = .ok (.ireturn, 1) := by decide +kernel
def site : List Cond := [.fieldLink "java/lang/String" 9 "java/lang/String" "value" "[B", IsL.tab, LChA.tab] ++ virtW "java/lang/String" 492 "java/lang/String" IsL.yN IsL.yN ++ staticW "java/lang/String" 495 LChA.yN
def tab : Cond := tabOf yN yB 2 (some .char) site
def P (x t : Addr) (V : Cell) (n : Nat) (f : Nat → Int32) (z : Int32) (fm : Value) (i : Nat) (args : Array Value) (s : State) : Prop := args = #[.ref x, .int (Int32.ofNat i)] ∧ Txt x t V 0 n f s ∧ i < n ∧ StaticIs s "java/lang/String" "COMPACT_STRINGS" "Z" (.int z) ∧ ¬ z = 0 ∧ StaticIs s "jdk/internal/util/Preconditions" "SIOOBE_FORMATTER" "Ljava/util/function/BiFunction;" fm ∧ fm.isRef = true
def E (f : Nat → Int32) (i : Nat) (r : Option Value) (s u : State) : Prop := XT.PureE (some (.int (f i))) r s u
/-- charAt(i) of a Latin-1 String of n chars, i < n: f i -/
theorem law (l : Launch) (x t : Addr) (V : Cell) (n : Nat) (f : Nat → Int32) (z : Int32) (fm : Value) (i : Nat) : Law l yN 2 1 3 40 yB 2 (some .char) site (P x t V n f z fm i) (E f i) [] 0 0 := by
  refine Law.of_walk (plainFor_of_name (by decide +kernel)) (by decide +kernel) (by decide +kernel) (by decide) (fun _ _ h => by rw [h.1]; rfl) (fun _ U U' hal hh h => ⟨h.1, h.2.1.mv hal hh, h.2.2.1, h.2.2.2.1.there hal hh, h.2.2.2.2.1, h.2.2.2.2.2.1.there hal hh, h.2.2.2.2.2.2⟩) (fun r U U' V V' h1 hal h2 h => XT.PureE.mv r U U' V V' h1 hal h2 h) ?_
  intro p e s m args below meth c s₁ X0 hexec hbytes hml hret hlk hnm hown hh0 W hP
  obtain ⟨rfl, hx, hi, s1, hz, s3, rf⟩ := hP
  have v31 := hx.2.2.2.1.2.2.2
  have hr := hx.2.2.2.2.2 i hi
  have hx0 := hx.mv X0.warmed.alike hh0
  have c1 : Steps p.tables e below (s₁.setTop (entryFrame m #[.ref x, .int (Int32.ofNat i)] 2)) (s₁.setTop (mkF m 1 #[.val (.ref x), .val (.int (Int32.ofNat i))] [.ref x])) := Steps.trans (entry rfl) (by
    show Steps p.tables e below (s₁.setTop (mkF m 0 #[.val (.ref x), .val (.int (Int32.ofNat i))] [])) _
    refine XS.aloadN X0.here hexec rfl (hb hbytes d0) rfl rfl ?_
    exact Steps.refl _)
  obtain ⟨v2, T2, X2, E2, g2⟩ := X0.callV hexec (IsL.law l x 0 z) hown (wks W (virtW "java/lang/String" 492 "java/lang/String" IsL.yN IsL.yN)) rfl (by decide) (wk W IsL.tab) (W := 0) (Nat.le_of_ble_eq_true rfl) (Nat.le_of_ble_eq_true rfl) (Nat.le_refl _) (Nat.le_refl _) (hx0.1.fc X0.warmed.alike) hx0.1.is (g := (mkF m 1 #[.val (.ref x), .val (.int (Int32.ofNat i))] [.ref x])) rfl (by rw [hml]; rfl) c1 (argsL := []) (rest := []) rfl rfl (by show 2 * 0 + 0 ≤ _; decide) (hb hbytes d1) (⟨rfl, hx0.2.2.1, hx.2.2.2.2.1.cd, s1.there X0.warmed.alike hh0, hz⟩)
  obtain ⟨rfl, q2⟩ := E2
  have hh2 := q2.trans hh0
  have hx2 := hx.mv X2.warmed.alike hh2
  obtain ⟨-, k1, k2⟩ | ⟨k0, -⟩ := hx.2.2.2.2.1
  · have c3 : Steps p.tables e below (s₁.setTop (entryFrame m #[.ref x, .int (Int32.ofNat i)] 2)) (T2.setTop (mkF m 8 #[.val (.ref x), .val (.int (Int32.ofNat i))] [.ref x])) := Steps.trans g2 (by
      refine XS.ifNo X2.here hexec rfl (hb hbytes d4) rfl (i0_eq_f (by decide)) ?_
      refine XS.aloadN X2.here hexec rfl (hb hbytes d7) rfl rfl ?_
      exact Steps.refl _)
    obtain ⟨T4, X4, q4, st4⟩ := X2.hget hexec hown (wk W (.fieldLink "java/lang/String" 9 "java/lang/String" "value" "[B")) hx2.2.1 (g := (mkF m 8 #[.val (.ref x), .val (.int (Int32.ofNat i))] [.ref x])) rfl (rest := []) rfl (hb hbytes d8)
    have hh4 := q4.trans hh2
    have c5 : Steps p.tables e below (s₁.setTop (entryFrame m #[.ref x, .int (Int32.ofNat i)] 2)) (T4.setTop (mkF m 12 #[.val (.ref x), .val (.int (Int32.ofNat i))] [.int (Int32.ofNat i), .ref t])) := (c3.trans (st4 _ (Steps.refl _))).trans (by
      refine XS.iloadN X4.here hexec rfl (hb hbytes d11) rfl ?_
      exact Steps.refl _)
    obtain ⟨v6, T6, X6, E6, g6⟩ := X4.callS hexec (LChA.law l t V i (lo8 (f i)) fm) hown (wks W (staticW "java/lang/String" 495 LChA.yN)) (wk W LChA.tab) (W := 0) (Nat.le_of_ble_eq_true rfl) (Nat.le_of_ble_eq_true rfl) (Nat.le_refl _) (Nat.le_refl _) (g := (mkF m 12 #[.val (.ref x), .val (.int (Int32.ofNat i))] [.int (Int32.ofNat i), .ref t])) rfl (by rw [hml]; rfl) c5 (argsL := [.ref t, .int (Int32.ofNat i)]) (rest := []) rfl rfl (by show 2 * 0 + 0 ≤ _; decide) (hb hbytes d12) (⟨rfl, hx.2.2.2.1.mv X4.warmed.alike hh4, (k2 i hi).1, s3.there X4.warmed.alike hh4, rf⟩)
    obtain ⟨rfl, q6⟩ := E6
    rw [chr8_lo8 hr.1 (k2 i hi).2] at g6
    exact ⟨T6, some (.int (f i)), _, _, _, X6, rfl, rfl, rfl, (fun h => by cases h), ⟨rfl, q6.trans hh4⟩, fun fs hl => Steps.trans g6 (X6.ireturnOut hexec hret (narrow_ch hr.1 hr.2) (Or.inr (Or.inr (Or.inr (Or.inl rfl)))) (hb hbytes d15) hl)⟩
  · exact absurd k0 (by decide)
theorem pays {l : Launch} {R : Room} {p : Program} {e : Env} {below : List Frame} {s : State} {sargs : Array Value} {len W : Nat} (x t : Addr) (V : Cell) (n : Nat) (f : Nat → Int32) (z : Int32) (fm : Value) (i : Nat) (htab : tab.before sargs s = true) (hfr : 4 ≤ R.frames) (hlo : W + 53 ≤ R.locals) :
    Back l R p e below s sargs yN len W (fun A₁ a₁ => A₁.cells + 0 ≤ R.cells ∧ A₁.slots + 0 ≤ R.slots ∧ P x t V n f z fm i a₁ A₁.U) (fun A₁ _ v₁ B₁ => E f i v₁ A₁.U B₁.U ∧ B₁.locs = A₁.locs ++ [] ∧ B₁.cells = A₁.cells + 0 ∧ B₁.slots = A₁.slots + 0) :=
  (law l x t V n f z fm i).pays htab hfr (by omega)
end ChN
end StrChars
namespace StrChars.Road
open Jvm Sem ClassFile Op Lib Jvm.Stand Jvm.Free Jvm.Free.XT
open Jvm.Lib.Cold (StaticIs)
/-- the words of String.charAt(int), the Latin-1 road alone -/
abbrev wordsChN : List Jvm.Cond := [.code ChN.yN ChN.yB 2 (some .char), .initialized ST, .fieldLink ST 9 ST "value" "[B", .fieldLink ST 38 ST "COMPACT_STRINGS" "Z", .fieldLink ST 15 ST "coder" "B", .code IsL.yN IsL.yB 1 (some .boolean), .methodLink ST 492 IsL.yN, .declares IsL.yN, .selects ST IsL.yN IsL.yN, .instanceMethod IsL.yN,
  .methodLink ST 495 LChA.yN, .static LChA.yN, .code LChA.yN LChA.yB 2 (some .char), .initialized "java/lang/StringLatin1", .methodLink "java/lang/StringLatin1" 9 JO.Str_checkIndex.yN, .static JO.Str_checkIndex.yN, .code JO.Str_checkIndex.yN JO.Str_checkIndex.yB 2 none,
  .fieldLink ST 1053 "jdk/internal/util/Preconditions" "SIOOBE_FORMATTER" "Ljava/util/function/BiFunction;", .methodLink ST 1059 JC.PreCheck.yN, .static JC.PreCheck.yN, .code JC.PreCheck.yN JC.PreCheck.yB 3 (some .int), .initialized "jdk/internal/util/Preconditions"]
theorem tabChN_of {a : Array Value} {s : State} (h : ∀ w ∈ wordsChN, w.before a s = true) : ChN.tab.before a s = true := by
  have hp : JC.PreCheck.tab.before a s = true := unparts (wk h (.code JC.PreCheck.yN JC.PreCheck.yB 3 (some .int))) (wks h (.initialized JC.PreCheck.yN.cls :: JC.PreCheck.site))
  have qk := consq hp h
  have hk : JO.Str_checkIndex.tab.before a s = true := unparts (wk qk (.code JO.Str_checkIndex.yN JO.Str_checkIndex.yB 2 none)) (wks qk (.initialized JO.Str_checkIndex.yN.cls :: JO.Str_checkIndex.site))
  have ql := consq hk h
  have hl : LChA.tab.before a s = true := unparts (wk ql (.code LChA.yN LChA.yB 2 (some .char))) (wks ql (.initialized LChA.yN.cls :: LChA.site))
  have hi : IsL.tab.before a s = true := unparts (wk h (.code IsL.yN IsL.yB 1 (some .boolean))) (wks h (.initialized IsL.yN.cls :: IsL.site))
  have q := consq hi (consq hl h)
  exact unparts (wk q (.code ChN.yN ChN.yB 2 (some .char))) (wks q (.initialized ChN.yN.cls :: ChN.site))
theorem movedChN {Z s : State} {a0 args : Array Value} (hZ : Z.Warmed39 s.vm) (hw : ∀ d ∈ wordsChN, d.before a0 Z = true) : ∀ d ∈ wordsChN, d.before args s = true := fun d hd => by
  have t : ∀ d ∈ wordsChN, (d.onTables && d.keepsFace) = true := by decide +kernel
  exact RoadKit.mv hZ (hw d hd) (t d hd)
/-- **charAt(i) OF A LATIN-1 STRING**, i < n: the char -/
theorem chN {p : Program} {l : Launch} {e : Env} {R : Room} {s : State} {args : Array Value} {below : List Frame} {len W : Nat} {Z : State} {a0 : Array Value} {h : Heap} (hZ : Z.Warmed39 s.vm) (hw : ∀ d ∈ wordsChN, d.before a0 Z = true) {kI : Nat} (wi : (Jvm.Cond.instantiable ST kI).before a0 Z = true)
    {x t : Addr} {kb : ClassId} {cs : List Int32} {N2 z : Int32} {vs : List Value} {fm : Value} {i : Nat} {j : Int32} (E : RoadKit.Exa Z h x ST) (V : RoadKit.Fld Z h x ST "value" "[B" (.ref t)) (C : RoadKit.Fld Z h x ST "coder" "B" (.int 0)) (K : RoadKit.Arv Z h t kb .byte N2 vs (.int 0)) (hc : CodA cs 0 N2 vs) (hb : ∀ c ∈ cs, ¬ c < 0 ∧ ¬ (65535 : Int32) < c)
    (S : RoadKit.Sta Z h ST "COMPACT_STRINGS" "Z" (.int z)) (hz : ¬ z = 0) (F : RoadKit.Sta Z h "jdk/internal/util/Preconditions" "SIOOBE_FORMATTER" "Ljava/util/function/BiFunction;" fm) (rf : fm.isRef = true) (l2 : cs.length ≤ 4000) (hi : i < cs.length) (hj : j = Int32.ofNat i) (hfr : 4 ≤ R.frames) (hlo : W + 53 ≤ R.locals) :
    Back l R p e below s args (⟨"java/lang/String", "charAt", "(I)C"⟩ : MethodName) len W (fun P a => a = #[.ref x, .int j] ∧ P.U.heap = h ∧ P.cells + 0 ≤ R.cells ∧ P.slots + 0 ≤ R.slots)
      (fun P _ v B => ∃ L, (v = some (.int (cs.getD i 0)) ∧ L = [] ∧ B.U.heap = h) ∧ B.locs = P.locs ++ L ∧ B.cells = P.cells + 0 ∧ B.slots = P.slots + 0) := by
  subst hj
  intro m meth c P g ig mk a X hg hsize hdg hW hn hp'
  obtain ⟨rfl, rfl, r1, r2⟩ := hp'
  have al : Z.vm.Alike P.U.vm := hZ.alike.trans X.warmed.alike
  obtain ⟨A, hx⟩ := txt_of wi al E V C K hc hb l2
  obtain ⟨v, B, X', ⟨⟨hv, hh⟩, hl, hk, hs⟩, st⟩ := ChN.pays x t A cs.length (fun j => cs.getD j 0) z fm i (tabChN_of (movedChN hZ hw)) hfr hlo m meth c P g ig mk _ X hg hsize hdg hW hn ⟨r1, r2, rfl, hx, hi, sta_is al S, hz, sta_is al F, rf⟩
  exact ⟨v, B, X', ⟨[], ⟨hv, rfl, hh⟩, hl, hk, hs⟩, st⟩
/-- what backV says of its String, as the contracts of this text ask it: cs's low bytes, coder 0 -/
theorem codOf {cs : List Int32} {n : Nat} (hn : cs.length = n) (hb : ∀ c ∈ cs, ¬ 255 < c) : CodA cs 0 (Int32.ofNat n) ((cs.map lo8).map Value.int) := Or.inl ⟨rfl, by rw [hn], by simp [List.map_map, Function.comp_def], hb⟩
end StrChars.Road
end Jvm.Pilot.@@N@@
namespace Jvm.Pilot.@@N@@
open Jvm Jvm.ClassFile Sem Op Lib Jvm.Free Jvm.Stand Jvm.LawKit Jvm.RoadKit Bundle Jvm.Pilot.@@N@@.Jvm.D

section OwnKit
variable {G : State → JFrame → Prop} {p : Program} {l : Launch} {e : Env} {R : Room} {s : State} {m : MethodId} {args : Array Value} {below : List Frame} {meth : Method} {c : Code} {Z : State} {n0 : Nat} {own nm : String} {bytes : ByteArray} {maxL : Nat} {ret : Option FieldType} {T : State} {h : Heap} {cells slots : Nat} {a0 : Array Value} {s0 : State} {EL : List (String × Nat)} {P : List Addr}
def own_Cl (p : Program) (e : Env) (below : List Frame) (G : State → JFrame → Prop) : Prop :=
  ∀ (T T' : State) (g g' : JFrame), (∀ t, Steps p.tables e below (T'.setTop g') t → Steps p.tables e below (T.setTop g) t) → G T' g' → G T g
def own_Cx (p : Program) (s : State) (m : MethodId) (meth : Method) (c : Code) (Z : State) (own nm : String) (bytes : ByteArray) (maxL : Nat) (ret : Option FieldType) : Prop :=
  p.tables.exec = Jvm.exec ∧ c.code = bytes ∧ Z.Warmed39 s.vm ∧ s.vm.findClass own = some m.cls ∧ c.maxLocals = maxL ∧ meth.name = nm ∧ meth.sig.returnType = ret ∧ meth.locks = false
def own_EW (Z : State) (EL : List (String × Nat)) : Prop := ∃ a0, EW Z a0 EL
def own_Sf (Z : State) (EL : List (String × Nat)) (P : List Addr) (vm : Vm) (h : Heap) : Prop := CHv Z EL vm h ∧ ∀ x ∈ P, Safe Z EL vm h x ∧ x < h.size
def own_Ok (s0 s : State) (EL : List (String × Nat)) (P : List Addr) (Z : State) (n0 : Nat) (h : Heap) : Prop :=
  Old Z n0 h ∧ (s = s0.setVm s.vm ∧ ∃ k0, s0.Since s.vm k0 ∧ k0 ≤ h.size) ∧ own_EW Z EL ∧ CHr Z EL s0.vm s0.heap s.vm h ∧ ∀ x ∈ P, Safe Z EL s.vm h x ∧ x < h.size
theorem own_Ok.go {h' : Heap} (O : own_Ok s0 s EL P Z n0 h) (O' : Old Z n0 h') (g : h.size ≤ h'.size) (A : CHr Z EL s.vm h s.vm h') : own_Ok s0 s EL P Z n0 h' := by
  obtain ⟨-, ⟨e1, k0, e2, e3⟩, e4, e5, e6⟩ := O
  exact ⟨O', ⟨e1, k0, e2, Nat.le_trans e3 g⟩, e4, e5.trans A, fun x hx => ⟨A.safe (e6 x hx).2 (e6 x hx).1, Nat.lt_of_lt_of_le (e6 x hx).2 g⟩⟩
theorem own_Ok.ext {h' : Heap} (O : own_Ok s0 s EL P Z n0 h) (E : Ext h h') : own_Ok s0 s EL P Z n0 h' := O.go (O.1.ext E) E.1 (CHr.ext E O.2.2.2.1.1)
theorem own_Ok.keepS {h' : Heap} {ws : List Addr} (O : own_Ok s0 s EL P Z n0 h) (K : Keep h h' ws) (q : ∀ x ∈ ws, n0 ≤ x) (r : ∀ x ∈ ws, Safe Z EL s.vm h x) : own_Ok s0 s EL P Z n0 h' := O.go (O.1.keep K q) K.1 (CHr.keep K r O.2.2.2.1.1)
theorem own_Ok.wr {h' : Heap} {a : Addr} {sl : Nat} {v : Value} (O : own_Ok s0 s EL P Z n0 h) (W : Wr h h' a sl v) (q : n0 ≤ a) (r : Safe Z EL s.vm h a) : own_Ok s0 s EL P Z n0 h' := O.keepS (Keep.of_wr W) (allS q all0) (allS r all0)
theorem own_Ok.less {P' : List Addr} (O : own_Ok s0 s EL P Z n0 h) (q : ∀ x ∈ P', x ∈ P) : own_Ok s0 s EL P' Z n0 h := ⟨O.1, O.2.1, O.2.2.1, O.2.2.2.1, fun x hx => O.2.2.2.2 x (q x hx)⟩
theorem own_Ok.add {x : Addr} (O : own_Ok s0 s EL P Z n0 h) (r : Safe Z EL s.vm h x) (q : x < h.size) : own_Ok s0 s EL (x :: P) Z n0 h := ⟨O.1, O.2.1, O.2.2.1, O.2.2.2.1, allS ⟨r, q⟩ O.2.2.2.2⟩
/-- a cell made by the last step is no literal's -/
theorem own_Ok.made {h' : Heap} {x : Addr} (O : own_Ok s0 s EL P Z n0 h) (E : Ext h h') (hx : h.size ≤ x) (q : x < h'.size) : own_Ok s0 s EL (x :: P) Z n0 h' :=
  (O.ext E).add (Safe.ext E O.2.2.2.1.1 (Safe.new hx)) q
def own_At (G : State → JFrame → Prop) (p : Program) (l : Launch) (e : Env) (R : Room) (s0 s : State) (EL : List (String × Nat)) (P : List Addr) (m : MethodId) (args : Array Value) (below : List Frame) (meth : Method) (c : Code) (Z : State) (n0 : Nat) (own nm : String) (bytes : ByteArray) (maxL : Nat) (ret : Option FieldType) (T : State) (h : Heap) (cells slots : Nat) : Prop :=
  own_Cl p e below G ∧ own_Cx p s m meth c Z own nm bytes maxL ret ∧ ∃ locs, Stand p l e R s m args below meth c T locs cells slots ∧ Fr n0 locs ∧ T.heap = h ∧ own_Ok s0 s EL P Z n0 h
def own_Fin (p : Program) (e : Env) (below : List Frame) (s : State) (EL : List (String × Nat)) (Z : State) (n0 : Nat) (Q : Option Value → Heap → Prop) (k n : Nat) (T : State) (g : JFrame) : Prop :=
  ∃ s₂ o, Steps p.tables e below (T.setTop g) s₂ ∧ s₂.status = .running ∧ Ended s₂ below o ∧ ∃ v L, o = .returned v ∧ (Q v s₂.heap ∧ Fr n0 L ∧ Old Z n0 s₂.heap) ∧ CHr Z EL s.vm s.heap s₂.vm s₂.heap ∧ ReturnedEndW s o s₂ L k n
theorem own_Fin_cl (p : Program) (e : Env) (below : List Frame) (s : State) (EL : List (String × Nat)) (Z : State) (n0 : Nat) (Q : Option Value → Heap → Prop) (k n : Nat) : own_Cl p e below (own_Fin p e below s EL Z n0 Q k n) := by
  intro T T' g g' hs ⟨s₂, o, h1, h2⟩
  exact ⟨s₂, o, hs _ h1, h2⟩
/-- the contract of a body -/
def own_Met (l : Launch) (Z : State) (EL : List (String × Nat)) (P : List Addr) (n0 : Nat) (y : MethodName) (bytes : ByteArray) (maxL : Nat) (ret : Option FieldType) (rm : Room) (as' : Array Value) (h0 : Heap) (Q : Option Value → Heap → Prop) : Prop :=
  ∀ ws, MetFree l y (head1 (Jvm.Cond.code y bytes maxL ret :: ws) rm) (fun a U => a = as' ∧ Z.Warmed39 U.vm ∧ U.heap = h0 ∧ own_Sf Z EL P U.vm h0) (fun _ _ _ _ _ => True) (fun _ U o U' => ∃ v L, o = .returned v ∧ (Q v U'.heap ∧ Fr n0 L ∧ Old Z n0 U'.heap) ∧ CHr Z EL U.vm U.heap U'.vm U'.heap ∧ ReturnedEndW U o U' L rm.cells rm.slots)
theorem own_enter {y : MethodName} {rm : Room} {as' : Array Value} {h0 : Heap} {Q : Option Value → Heap → Prop} (hpn : plainFor y = true) (ho : y.cls = own) (hn : y.name = nm) (hO : Old Z n0 h0) (hE : own_EW Z EL)
    (H : ∀ (G : State → JFrame → Prop) (p : Program) (e : Env) (s : State) (m : MethodId) (below : List Frame) (meth : Method) (c : Code) (T : State), G = own_Fin p e below s EL Z n0 Q rm.cells rm.slots → own_At G p l e rm s s EL P m as' below meth c Z n0 own nm bytes maxL ret T h0 0 0 → G T (entryFrame m as' maxL)) :
    own_Met l Z EL P n0 y bytes maxL ret rm as' h0 Q := by
  intro ws
  subst ho hn
  refine MetFree.of_bodySF hpn hisR ?_
  intro p e s m args below meth c s₁ Bd hml0 hP hK
  obtain ⟨rfl, hZ, hh, hsf⟩ := hP
  have e0 : s₁.heap = h0 := by rw [← hh, Bd.state]; rfl
  obtain ⟨s₂, o, h1, h2, h3, h4⟩ := H _ p e s m below meth c s₁ rfl ⟨own_Fin_cl p e below s EL Z n0 Q rm.cells rm.slots, ⟨Bd.exec, Bd.bytes, hZ, findClass_of_methodNamed Bd.named, hml0, (name_of_methodNamed Bd.named Bd.method).1, Bd.returns, BodyLoose.notSynchronized Bd⟩, [], Stand.of_body Bd, Fr.nil n0, e0, hO, ⟨rfl, 0, (State.WarmedH.refl s).since 0, Nat.zero_le _⟩, hE, (show CHr Z EL s.vm s.heap s.vm h0 by rw [hh]; exact CHr.refl hsf.1), hsf.2⟩
  exact ⟨s₂, o, h1, h2, h3, h4⟩
theorem own_at_heap (X : own_At G p l e R s0 s EL P m args below meth c Z n0 own nm bytes maxL ret T h cells slots) : T.heap = h := by obtain ⟨-, -, _, -, -, e, -⟩ := X; exact e
theorem own_ok (X : own_At G p l e R s0 s EL P m args below meth c Z n0 own nm bytes maxL ret T h cells slots) : own_Ok s0 s EL P Z n0 h := by obtain ⟨-, -, _, -, -, -, e⟩ := X; exact e
theorem own_old (X : own_At G p l e R s0 s EL P m args below meth c Z n0 own nm bytes maxL ret T h cells slots) : Old Z n0 h := (own_ok X).1
theorem own_sta (X : own_At G p l e R s0 s EL P m args below meth c Z n0 own nm bytes maxL ret T h cells slots) {C n d : String} {v : Value} (S : Sta Z Z.heap C n d v) : Sta Z h C n d v := S.ext (own_old X).2
theorem own_n0 (X : own_At G p l e R s0 s EL P m args below meth c Z n0 own nm bytes maxL ret T h cells slots) : n0 ≤ h.size := by have := own_old X; rw [← this.1]; exact this.2.1
theorem own_mono {P' : List Addr} (X : own_At G p l e R s0 s EL P m args below meth c Z n0 own nm bytes maxL ret T h cells slots) {cells' slots' : Nat} (h1 : cells ≤ cells') (h2 : slots ≤ slots') (h3 : ∀ x ∈ P', x ∈ P) : own_At G p l e R s0 s EL P' m args below meth c Z n0 own nm bytes maxL ret T h cells' slots' := by
  obtain ⟨hG, C, L, X, N, e, O⟩ := X
  exact ⟨hG, C, L, { X with same := X.same.mono h1 h2 }, N, e, O.less h3⟩
theorem own_end {Q : Option Value → Heap → Prop} {k n : Nat} {v : Option Value} {L : List Loc} (X : Stand p l e R s m args below meth c T L cells slots) (hZ : Z.Warmed39 s.vm) (N : Fr n0 L) (eT : T.heap = h) (O : own_Ok s0 s EL P Z n0 h) (hk : cells ≤ k) (hs : slots ≤ n) (hQ : Q v h) {fs : List Frame} (hW : s.WarmedH T.vm) (hsame : s.sameButNew { T.setFrames fs with vm := s.vm } L cells slots) :
    (Q v (T.setFrames fs).heap ∧ Fr n0 L ∧ Old Z n0 (T.setFrames fs).heap) ∧ CHr Z EL s0.vm s0.heap (T.setFrames fs).vm (T.setFrames fs).heap ∧ ReturnedEndW s0 (.returned v) (T.setFrames fs) L k n := by
  obtain ⟨O, ⟨e1, k0, e2, e3⟩, ⟨a1, e4⟩, e5, -⟩ := O
  have A : CHr Z EL s.vm h T.vm h := by
    have q := CHv.later (h' := h) hZ (hW := (show (Wst Z s.vm h).Warmed39 T.vm from hW.wide)) e4 ⟨Nat.le_refl _, fun _ _ q => q⟩ (Or.inl hW.interned_eq) e5.1
    exact ⟨q.1, Nat.le_refl _, q.2⟩
  have h2 := e2.trans (vm₂ := T.vm) (n₂ := T.heap.size) ((show (s0.setVm s.vm).WarmedH T.vm from e1 ▸ hW).since _) (by rw [eT]; exact e3)
  refine ⟨⟨by show Q _ T.heap; rw [eT]; exact hQ, N, by show Old Z n0 T.heap; rw [eT]; exact O⟩, by show CHr Z EL s0.vm s0.heap T.vm T.heap; rw [eT]; exact e5.trans A, ⟨_, rfl⟩, h2.1, h2.2, ?_⟩
  have q := (hsame.setVm s0.vm).mono hk hs
  rw [e1] at q
  exact q
theorem own_ret {Q : Option Value → Heap → Prop} {k n : Nat} (X : own_At G p l e R s0 s EL P m args below meth c Z n0 own nm bytes maxL ret T h cells slots) (hGe : G = own_Fin p e below s0 EL Z n0 Q k n) {pc : Nat} {Ls : Array Slot} {w : Value} {t : FieldType} {i : Instr} {rest : List Value} (hret : ret = some t) (hn : narrow t w = w)
    (hi : (i = .ireturn ∧ (t = .int ∨ t = .boolean ∨ t = .byte ∨ t = .char ∨ t = .short) ∧ ∃ z, w = .int z) ∨ (i = .lreturn ∧ t = .long ∧ ∃ z, w = .long z) ∨ (i = .dreturn ∧ t = .double ∧ ∃ z, w = .double z) ∨ (i = .freturn ∧ t = .float ∧ ∃ z, w = .float z) ∨ (i = .areturn ∧ t.isReference = true ∧ w.isRef = true))
    (hd : decode bytes pc = .ok (i, 1)) (hk : cells ≤ k) (hs : slots ≤ n) (hQ : Q (some w) h) : G T (mkF m pc Ls (w :: rest)) := by
  obtain ⟨-, ⟨c1, c2, c3, c4, c5, c6, c7, c8⟩, L, X, N, eT, O⟩ := X
  have hr' : meth.sig.returnType = some t := c7.trans hret
  obtain ⟨fs, hr, hrun, hended, hW, hsame⟩ := X.leave (v := some w) (fun h => by rw [hr'] at h; cases h)
  rw [hGe]
  exact ⟨_, _, retOut X c1 hr' hn hi (hb c2 hd) hr, hrun, hended, _, L, rfl, own_end X c3 N eT O hk hs hQ hW hsame⟩
theorem own_retV {Q : Option Value → Heap → Prop} {k n : Nat} (X : own_At G p l e R s0 s EL P m args below meth c Z n0 own nm bytes maxL ret T h cells slots) (hGe : G = own_Fin p e below s0 EL Z n0 Q k n) {pc : Nat} {Ls : Array Slot} (hret : ret = none)
    (hd : decode bytes pc = .ok (.return_, 1)) (hk : cells ≤ k) (hs : slots ≤ n) (hQ : Q none h) : G T (mkF m pc Ls []) := by
  obtain ⟨-, ⟨c1, c2, c3, c4, c5, c6, c7, c8⟩, L, X, N, eT, O⟩ := X
  have hr' : meth.sig.returnType = none := c7.trans hret
  obtain ⟨fs, hr, hrun, hended, hW, hsame⟩ := X.leave (v := none) (fun _ => rfl)
  rw [hGe]
  exact ⟨_, _, X.returnOut c1 hr' (hb c2 hd) hr, hrun, hended, _, L, rfl, own_end X c3 N eT O hk hs hQ hW hsame⟩
theorem own_ne {a b : Addr} {n m : Nat} (h1 : a < n) (h2 : n ≤ m) (h3 : m ≤ b) : a ≠ b := Nat.ne_of_lt (Nat.lt_of_lt_of_le h1 (Nat.le_trans h2 h3))
theorem own_ifc {P Q : Prop} [Decidable P] [Decidable Q] (h : P ↔ Q) : (if P then (1 : Int32) else 0) = if Q then 1 else 0 := by
  by_cases q : P
  · rw [if_pos q, if_pos (h.mp q)]
  · rw [if_neg q, if_neg (fun z => q (h.mpr z))]
theorem own_i32 {i : Nat} (hi : i < 2 ^ 31) : (Int32.ofNat i).toInt = i := len_toInt hi
theorem own_i32lt {i n : Nat} (h : i < n) (hn : n < 2 ^ 31) : Int32.ofNat i < Int32.ofNat n := by rw [Int32.lt_iff_toInt_lt, own_i32 (by omega), own_i32 hn]; omega
theorem own_i32le {i n : Nat} (h : n ≤ i) (hi : i < 2 ^ 31) : ¬ Int32.ofNat i < Int32.ofNat n := by rw [Int32.lt_iff_toInt_lt, own_i32 hi, own_i32 (by omega)]; omega
theorem own_inc (i : Nat) : Int32.ofNat i + 1 = Int32.ofNat (i + 1) := (inc_ofNat i).symm
def own_c16 (x : Int32) : Int32 := x.toUInt32.toUInt16.toUInt32.toInt32
def own_b8 (x : Int32) : Int32 := x.toInt8.toInt32
def own_ushr (x k : Int32) : Int32 := (x.toUInt32 >>> (k &&& 31).toUInt32).toInt32
theorem own_aconst_null (X : own_At G p l e R s0 s EL P m args below meth c Z n0 own nm bytes maxL ret T h cells slots) {pc pc' : Nat} {Ls : Array Slot} {st : List Value} (hd : decode bytes pc = .ok (.aconst_null, 1)) (hp : pc' = pc + 1)  (k : G T (mkF m pc' Ls (.null :: st))) : G T (mkF m pc Ls st) := by
  obtain ⟨hG, ⟨c1, c2, -⟩, L, X, -⟩ := X
  subst hp
  exact hG _ _ _ _ (fun t q => XS.aconstNull X.here c1 rfl (hb c2 hd) q) k
theorem own_iconst (X : own_At G p l e R s0 s EL P m args below meth c Z n0 own nm bytes maxL ret T h cells slots) {pc pc' : Nat} {Ls : Array Slot} {st : List Value} {i : Int} {z : Int32} (hd : decode bytes pc = .ok (.iconst i, 1)) (hp : pc' = pc + 1) (hz : Int32.ofInt i = z) (k : G T (mkF m pc' Ls (.int z :: st))) : G T (mkF m pc Ls st) := by
  obtain ⟨hG, ⟨c1, c2, -⟩, L, X, -⟩ := X
  subst hp
  exact hG _ _ _ _ (fun t q => XS.iconst X.here c1 rfl (hb c2 hd) (by rw [hz]; exact q)) k
theorem own_bipush (X : own_At G p l e R s0 s EL P m args below meth c Z n0 own nm bytes maxL ret T h cells slots) {pc pc' : Nat} {Ls : Array Slot} {st : List Value} {i : Int} {z : Int32} (hd : decode bytes pc = .ok (.bipush i, 2)) (hp : pc' = pc + 2) (hz : (Int8.ofInt i).toInt32 = z) (k : G T (mkF m pc' Ls (.int z :: st))) : G T (mkF m pc Ls st) := by
  obtain ⟨hG, ⟨c1, c2, -⟩, L, X, -⟩ := X
  subst hp
  exact hG _ _ _ _ (fun t q => XS.bipush X.here c1 rfl (hb c2 hd) (by rw [hz]; exact q)) k
theorem own_sipush (X : own_At G p l e R s0 s EL P m args below meth c Z n0 own nm bytes maxL ret T h cells slots) {pc pc' : Nat} {Ls : Array Slot} {st : List Value} {i : Int} {z : Int32} (hd : decode bytes pc = .ok (.sipush i, 3)) (hp : pc' = pc + 3) (hz : (Int16.ofInt i).toInt32 = z) (k : G T (mkF m pc' Ls (.int z :: st))) : G T (mkF m pc Ls st) := by
  obtain ⟨hG, ⟨c1, c2, -⟩, L, X, -⟩ := X
  subst hp
  exact hG _ _ _ _ (fun t q => XS.sipush X.here c1 rfl (hb c2 hd) (by rw [hz]; exact q)) k
theorem own_lconst (X : own_At G p l e R s0 s EL P m args below meth c Z n0 own nm bytes maxL ret T h cells slots) {pc pc' : Nat} {Ls : Array Slot} {st : List Value} {i : Fin 2} {z : Int64} (hd : decode bytes pc = .ok (.lconst i, 1)) (hp : pc' = pc + 1) (hz : Int64.ofNat i = z) (k : G T (mkF m pc' Ls (.long z :: st))) : G T (mkF m pc Ls st) := by
  obtain ⟨hG, ⟨c1, c2, -⟩, L, X, -⟩ := X
  subst hp
  exact hG _ _ _ _ (fun t q => XS.lconst X.here c1 rfl (hb c2 hd) (by rw [hz]; exact q)) k
theorem own_iload_n (X : own_At G p l e R s0 s EL P m args below meth c Z n0 own nm bytes maxL ret T h cells slots) {pc pc' : Nat} {Ls : Array Slot} {st : List Value} {i : Fin 4} {v : Int32} (hd : decode bytes pc = .ok (.iload_n i, 1)) (hp : pc' = pc + 1) (hl : Ls[i.val]? = some (.val (.int v))) (k : G T (mkF m pc' Ls (.int v :: st))) : G T (mkF m pc Ls st) := by
  obtain ⟨hG, ⟨c1, c2, -⟩, L, X, -⟩ := X
  subst hp
  exact hG _ _ _ _ (fun t q => XS.iloadN X.here c1 rfl (hb c2 hd) hl q) k
theorem own_iload (X : own_At G p l e R s0 s EL P m args below meth c Z n0 own nm bytes maxL ret T h cells slots) {pc pc' : Nat} {Ls : Array Slot} {st : List Value} {i : Nat} {v : Int32} (hd : decode bytes pc = .ok (.iload i, 2)) (hp : pc' = pc + 2) (hl : Ls[i]? = some (.val (.int v))) (k : G T (mkF m pc' Ls (.int v :: st))) : G T (mkF m pc Ls st) := by
  obtain ⟨hG, ⟨c1, c2, -⟩, L, X, -⟩ := X
  subst hp
  exact hG _ _ _ _ (fun t q => XS.iload X.here c1 rfl (hb c2 hd) hl q) k
theorem own_istore_n (X : own_At G p l e R s0 s EL P m args below meth c Z n0 own nm bytes maxL ret T h cells slots) {pc pc' : Nat} {Ls : Array Slot} {st : List Value} {i : Fin 4} {v : Int32} {Ls' : Array Slot} (hd : decode bytes pc = .ok (.istore_n i, 1)) (hp : pc' = pc + 1) (hl : storeLocals Ls i.val (.int v) = some Ls') (k : G T (mkF m pc' Ls' st)) : G T (mkF m pc Ls (.int v :: st)) := by
  obtain ⟨hG, ⟨c1, c2, -⟩, L, X, -⟩ := X
  subst hp
  exact hG _ _ _ _ (fun t q => XS.istoreN X.here c1 rfl (hb c2 hd) rfl hl q) k
theorem own_istore (X : own_At G p l e R s0 s EL P m args below meth c Z n0 own nm bytes maxL ret T h cells slots) {pc pc' : Nat} {Ls : Array Slot} {st : List Value} {i : Nat} {v : Int32} {Ls' : Array Slot} (hd : decode bytes pc = .ok (.istore i, 2)) (hp : pc' = pc + 2) (hl : storeLocals Ls i (.int v) = some Ls') (k : G T (mkF m pc' Ls' st)) : G T (mkF m pc Ls (.int v :: st)) := by
  obtain ⟨hG, ⟨c1, c2, -⟩, L, X, -⟩ := X
  subst hp
  exact hG _ _ _ _ (fun t q => XS.istore X.here c1 rfl (hb c2 hd) rfl hl q) k
theorem own_lload_n (X : own_At G p l e R s0 s EL P m args below meth c Z n0 own nm bytes maxL ret T h cells slots) {pc pc' : Nat} {Ls : Array Slot} {st : List Value} {i : Fin 4} {v : Int64} (hd : decode bytes pc = .ok (.lload_n i, 1)) (hp : pc' = pc + 1) (hl : Ls[i.val]? = some (.val (.long v))) (k : G T (mkF m pc' Ls (.long v :: st))) : G T (mkF m pc Ls st) := by
  obtain ⟨hG, ⟨c1, c2, -⟩, L, X, -⟩ := X
  subst hp
  exact hG _ _ _ _ (fun t q => XS.lloadN X.here c1 rfl (hb c2 hd) hl q) k
theorem own_lload (X : own_At G p l e R s0 s EL P m args below meth c Z n0 own nm bytes maxL ret T h cells slots) {pc pc' : Nat} {Ls : Array Slot} {st : List Value} {i : Nat} {v : Int64} (hd : decode bytes pc = .ok (.lload i, 2)) (hp : pc' = pc + 2) (hl : Ls[i]? = some (.val (.long v))) (k : G T (mkF m pc' Ls (.long v :: st))) : G T (mkF m pc Ls st) := by
  obtain ⟨hG, ⟨c1, c2, -⟩, L, X, -⟩ := X
  subst hp
  exact hG _ _ _ _ (fun t q => XS.lload X.here c1 rfl (hb c2 hd) hl q) k
theorem own_lstore_n (X : own_At G p l e R s0 s EL P m args below meth c Z n0 own nm bytes maxL ret T h cells slots) {pc pc' : Nat} {Ls : Array Slot} {st : List Value} {i : Fin 4} {v : Int64} {Ls' : Array Slot} (hd : decode bytes pc = .ok (.lstore_n i, 1)) (hp : pc' = pc + 1) (hl : storeLocals Ls i.val (.long v) = some Ls') (k : G T (mkF m pc' Ls' st)) : G T (mkF m pc Ls (.long v :: st)) := by
  obtain ⟨hG, ⟨c1, c2, -⟩, L, X, -⟩ := X
  subst hp
  exact hG _ _ _ _ (fun t q => XS.lstoreN X.here c1 rfl (hb c2 hd) rfl hl q) k
theorem own_lstore (X : own_At G p l e R s0 s EL P m args below meth c Z n0 own nm bytes maxL ret T h cells slots) {pc pc' : Nat} {Ls : Array Slot} {st : List Value} {i : Nat} {v : Int64} {Ls' : Array Slot} (hd : decode bytes pc = .ok (.lstore i, 2)) (hp : pc' = pc + 2) (hl : storeLocals Ls i (.long v) = some Ls') (k : G T (mkF m pc' Ls' st)) : G T (mkF m pc Ls (.long v :: st)) := by
  obtain ⟨hG, ⟨c1, c2, -⟩, L, X, -⟩ := X
  subst hp
  exact hG _ _ _ _ (fun t q => XS.lstore X.here c1 rfl (hb c2 hd) rfl hl q) k
theorem own_aload_n (X : own_At G p l e R s0 s EL P m args below meth c Z n0 own nm bytes maxL ret T h cells slots) {pc pc' : Nat} {Ls : Array Slot} {st : List Value} {i : Fin 4} {v : Value} (hd : decode bytes pc = .ok (.aload_n i, 1)) (hp : pc' = pc + 1) (hl : Ls[i.val]? = some (.val v)) (hv : v.isRef = true) (k : G T (mkF m pc' Ls (v :: st))) : G T (mkF m pc Ls st) := by
  obtain ⟨hG, ⟨c1, c2, -⟩, L, X, -⟩ := X
  subst hp
  exact hG _ _ _ _ (fun t q => XS.aloadN X.here c1 rfl (hb c2 hd) hl hv q) k
theorem own_aload (X : own_At G p l e R s0 s EL P m args below meth c Z n0 own nm bytes maxL ret T h cells slots) {pc pc' : Nat} {Ls : Array Slot} {st : List Value} {i : Nat} {v : Value} (hd : decode bytes pc = .ok (.aload i, 2)) (hp : pc' = pc + 2) (hl : Ls[i]? = some (.val v)) (hv : v.isRef = true) (k : G T (mkF m pc' Ls (v :: st))) : G T (mkF m pc Ls st) := by
  obtain ⟨hG, ⟨c1, c2, -⟩, L, X, -⟩ := X
  subst hp
  exact hG _ _ _ _ (fun t q => XS.aload X.here c1 rfl (hb c2 hd) hl hv q) k
theorem own_astore_n (X : own_At G p l e R s0 s EL P m args below meth c Z n0 own nm bytes maxL ret T h cells slots) {pc pc' : Nat} {Ls : Array Slot} {st : List Value} {i : Fin 4} {v : Value} {Ls' : Array Slot} (hd : decode bytes pc = .ok (.astore_n i, 1)) (hp : pc' = pc + 1) (hv : v.isRef = true) (hl : storeLocals Ls i.val v = some Ls') (k : G T (mkF m pc' Ls' st)) : G T (mkF m pc Ls (v :: st)) := by
  obtain ⟨hG, ⟨c1, c2, -⟩, L, X, -⟩ := X
  subst hp
  exact hG _ _ _ _ (fun t q => XS.astoreN X.here c1 rfl (hb c2 hd) rfl hv hl q) k
theorem own_astore (X : own_At G p l e R s0 s EL P m args below meth c Z n0 own nm bytes maxL ret T h cells slots) {pc pc' : Nat} {Ls : Array Slot} {st : List Value} {i : Nat} {v : Value} {Ls' : Array Slot} (hd : decode bytes pc = .ok (.astore i, 2)) (hp : pc' = pc + 2) (hv : v.isRef = true) (hl : storeLocals Ls i v = some Ls') (k : G T (mkF m pc' Ls' st)) : G T (mkF m pc Ls (v :: st)) := by
  obtain ⟨hG, ⟨c1, c2, -⟩, L, X, -⟩ := X
  subst hp
  exact hG _ _ _ _ (fun t q => XS.astore X.here c1 rfl (hb c2 hd) rfl hv hl q) k
theorem own_iinc (X : own_At G p l e R s0 s EL P m args below meth c Z n0 own nm bytes maxL ret T h cells slots) {pc pc' : Nat} {Ls : Array Slot} {st : List Value} {i : Nat} {cst : Int} {v z r : Int32} {Ls' : Array Slot} (hd : decode bytes pc = .ok (.iinc i cst, 3)) (hp : pc' = pc + 3) (hl : Ls[i]? = some (.val (.int v))) (hz : Int32.ofInt cst = z) (hr : v + z = r) (hs : storeLocals Ls i (.int r) = some Ls') (k : G T (mkF m pc' Ls' st)) : G T (mkF m pc Ls st) := by
  obtain ⟨hG, ⟨c1, c2, -⟩, L, X, -⟩ := X
  subst hp
  exact hG _ _ _ _ (fun t q => XS.iinc X.here c1 rfl (hb c2 hd) hl (by rw [hz, hr]; exact hs) q) k
theorem own_xpop2 {locs : List Loc} {target : State} (X : Stand p l e R s m args below meth c T locs cells slots) (hx : p.tables.exec = Jvm.exec) {pc : Nat} {Ls : Array Slot} {x : Int64} {rest : List Value} (hd : decode c.code pc = .ok (.pop2, 1)) (hr : Steps p.tables e below (T.setTop (mkF m (pc + 1) Ls rest)) target) : Steps p.tables e below (T.setTop (mkF m pc Ls (.long x :: rest))) target := by
  jvm_step X.here [X.here.top, hx, hd, pop2.sem, Value.category]
  exact hr
theorem own_iadd (X : own_At G p l e R s0 s EL P m args below meth c Z n0 own nm bytes maxL ret T h cells slots) {pc pc' : Nat} {Ls : Array Slot} {st : List Value} {x y r : Int32} (hd : decode bytes pc = .ok (.iadd, 1)) (hp : pc' = pc + 1) (hr : x + y = r) (k : G T (mkF m pc' Ls (.int r :: st))) : G T (mkF m pc Ls (.int y :: .int x :: st)) := by
  obtain ⟨hG, ⟨c1, c2, -⟩, L, X, -⟩ := X
  subst hp
  exact hG _ _ _ _ (fun t q => XS.iadd X.here c1 rfl (hb c2 hd) rfl (by subst hr; exact q)) k
theorem own_isub (X : own_At G p l e R s0 s EL P m args below meth c Z n0 own nm bytes maxL ret T h cells slots) {pc pc' : Nat} {Ls : Array Slot} {st : List Value} {x y r : Int32} (hd : decode bytes pc = .ok (.isub, 1)) (hp : pc' = pc + 1) (hr : x - y = r) (k : G T (mkF m pc' Ls (.int r :: st))) : G T (mkF m pc Ls (.int y :: .int x :: st)) := by
  obtain ⟨hG, ⟨c1, c2, -⟩, L, X, -⟩ := X
  subst hp
  exact hG _ _ _ _ (fun t q => XS.isub X.here c1 rfl (hb c2 hd) rfl (by subst hr; exact q)) k
theorem own_imul (X : own_At G p l e R s0 s EL P m args below meth c Z n0 own nm bytes maxL ret T h cells slots) {pc pc' : Nat} {Ls : Array Slot} {st : List Value} {x y r : Int32} (hd : decode bytes pc = .ok (.imul, 1)) (hp : pc' = pc + 1) (hr : x * y = r) (k : G T (mkF m pc' Ls (.int r :: st))) : G T (mkF m pc Ls (.int y :: .int x :: st)) := by
  obtain ⟨hG, ⟨c1, c2, -⟩, L, X, -⟩ := X
  subst hp
  exact hG _ _ _ _ (fun t q => XS.imul X.here c1 rfl (hb c2 hd) rfl (by subst hr; exact q)) k
theorem own_iand (X : own_At G p l e R s0 s EL P m args below meth c Z n0 own nm bytes maxL ret T h cells slots) {pc pc' : Nat} {Ls : Array Slot} {st : List Value} {x y r : Int32} (hd : decode bytes pc = .ok (.iand, 1)) (hp : pc' = pc + 1) (hr : x &&& y = r) (k : G T (mkF m pc' Ls (.int r :: st))) : G T (mkF m pc Ls (.int y :: .int x :: st)) := by
  obtain ⟨hG, ⟨c1, c2, -⟩, L, X, -⟩ := X
  subst hp
  exact hG _ _ _ _ (fun t q => XS.iand X.here c1 rfl (hb c2 hd) rfl (by subst hr; exact q)) k
theorem own_ior (X : own_At G p l e R s0 s EL P m args below meth c Z n0 own nm bytes maxL ret T h cells slots) {pc pc' : Nat} {Ls : Array Slot} {st : List Value} {x y r : Int32} (hd : decode bytes pc = .ok (.ior, 1)) (hp : pc' = pc + 1) (hr : x ||| y = r) (k : G T (mkF m pc' Ls (.int r :: st))) : G T (mkF m pc Ls (.int y :: .int x :: st)) := by
  obtain ⟨hG, ⟨c1, c2, -⟩, L, X, -⟩ := X
  subst hp
  exact hG _ _ _ _ (fun t q => XS.ior X.here c1 rfl (hb c2 hd) rfl (by subst hr; exact q)) k
theorem own_ixor (X : own_At G p l e R s0 s EL P m args below meth c Z n0 own nm bytes maxL ret T h cells slots) {pc pc' : Nat} {Ls : Array Slot} {st : List Value} {x y r : Int32} (hd : decode bytes pc = .ok (.ixor, 1)) (hp : pc' = pc + 1) (hr : x ^^^ y = r) (k : G T (mkF m pc' Ls (.int r :: st))) : G T (mkF m pc Ls (.int y :: .int x :: st)) := by
  obtain ⟨hG, ⟨c1, c2, -⟩, L, X, -⟩ := X
  subst hp
  exact hG _ _ _ _ (fun t q => XS.ixor X.here c1 rfl (hb c2 hd) rfl (by subst hr; exact q)) k
theorem own_ishl (X : own_At G p l e R s0 s EL P m args below meth c Z n0 own nm bytes maxL ret T h cells slots) {pc pc' : Nat} {Ls : Array Slot} {st : List Value} {x y r : Int32} (hd : decode bytes pc = .ok (.ishl, 1)) (hp : pc' = pc + 1) (hr : x <<< (y &&& 31) = r) (k : G T (mkF m pc' Ls (.int r :: st))) : G T (mkF m pc Ls (.int y :: .int x :: st)) := by
  obtain ⟨hG, ⟨c1, c2, -⟩, L, X, -⟩ := X
  subst hp
  exact hG _ _ _ _ (fun t q => XS.ishl X.here c1 rfl (hb c2 hd) rfl (by subst hr; exact q)) k
theorem own_ishr (X : own_At G p l e R s0 s EL P m args below meth c Z n0 own nm bytes maxL ret T h cells slots) {pc pc' : Nat} {Ls : Array Slot} {st : List Value} {x y r : Int32} (hd : decode bytes pc = .ok (.ishr, 1)) (hp : pc' = pc + 1) (hr : x >>> (y &&& 31) = r) (k : G T (mkF m pc' Ls (.int r :: st))) : G T (mkF m pc Ls (.int y :: .int x :: st)) := by
  obtain ⟨hG, ⟨c1, c2, -⟩, L, X, -⟩ := X
  subst hp
  exact hG _ _ _ _ (fun t q => XS.ishr X.here c1 rfl (hb c2 hd) rfl (by subst hr; exact q)) k
theorem own_iushr (X : own_At G p l e R s0 s EL P m args below meth c Z n0 own nm bytes maxL ret T h cells slots) {pc pc' : Nat} {Ls : Array Slot} {st : List Value} {x y r : Int32} (hd : decode bytes pc = .ok (.iushr, 1)) (hp : pc' = pc + 1) (hr : own_ushr x y = r) (k : G T (mkF m pc' Ls (.int r :: st))) : G T (mkF m pc Ls (.int y :: .int x :: st)) := by
  obtain ⟨hG, ⟨c1, c2, -⟩, L, X, -⟩ := X
  subst hp
  exact hG _ _ _ _ (fun t q => XS.iushr X.here c1 rfl (hb c2 hd) rfl (by subst hr; exact q)) k
theorem own_ladd (X : own_At G p l e R s0 s EL P m args below meth c Z n0 own nm bytes maxL ret T h cells slots) {pc pc' : Nat} {Ls : Array Slot} {st : List Value} {x y r : Int64} (hd : decode bytes pc = .ok (.ladd, 1)) (hp : pc' = pc + 1) (hr : x + y = r) (k : G T (mkF m pc' Ls (.long r :: st))) : G T (mkF m pc Ls (.long y :: .long x :: st)) := by
  obtain ⟨hG, ⟨c1, c2, -⟩, L, X, -⟩ := X
  subst hp
  exact hG _ _ _ _ (fun t q => XS.ladd X.here c1 rfl (hb c2 hd) rfl (by subst hr; exact q)) k
theorem own_lsub (X : own_At G p l e R s0 s EL P m args below meth c Z n0 own nm bytes maxL ret T h cells slots) {pc pc' : Nat} {Ls : Array Slot} {st : List Value} {x y r : Int64} (hd : decode bytes pc = .ok (.lsub, 1)) (hp : pc' = pc + 1) (hr : x - y = r) (k : G T (mkF m pc' Ls (.long r :: st))) : G T (mkF m pc Ls (.long y :: .long x :: st)) := by
  obtain ⟨hG, ⟨c1, c2, -⟩, L, X, -⟩ := X
  subst hp
  exact hG _ _ _ _ (fun t q => XS.lsub X.here c1 rfl (hb c2 hd) rfl (by subst hr; exact q)) k
theorem own_lmul (X : own_At G p l e R s0 s EL P m args below meth c Z n0 own nm bytes maxL ret T h cells slots) {pc pc' : Nat} {Ls : Array Slot} {st : List Value} {x y r : Int64} (hd : decode bytes pc = .ok (.lmul, 1)) (hp : pc' = pc + 1) (hr : x * y = r) (k : G T (mkF m pc' Ls (.long r :: st))) : G T (mkF m pc Ls (.long y :: .long x :: st)) := by
  obtain ⟨hG, ⟨c1, c2, -⟩, L, X, -⟩ := X
  subst hp
  exact hG _ _ _ _ (fun t q => XS.lmul X.here c1 rfl (hb c2 hd) rfl (by subst hr; exact q)) k
theorem own_land (X : own_At G p l e R s0 s EL P m args below meth c Z n0 own nm bytes maxL ret T h cells slots) {pc pc' : Nat} {Ls : Array Slot} {st : List Value} {x y r : Int64} (hd : decode bytes pc = .ok (.land, 1)) (hp : pc' = pc + 1) (hr : x &&& y = r) (k : G T (mkF m pc' Ls (.long r :: st))) : G T (mkF m pc Ls (.long y :: .long x :: st)) := by
  obtain ⟨hG, ⟨c1, c2, -⟩, L, X, -⟩ := X
  subst hp
  exact hG _ _ _ _ (fun t q => XS.land X.here c1 rfl (hb c2 hd) rfl (by subst hr; exact q)) k
theorem own_lor (X : own_At G p l e R s0 s EL P m args below meth c Z n0 own nm bytes maxL ret T h cells slots) {pc pc' : Nat} {Ls : Array Slot} {st : List Value} {x y r : Int64} (hd : decode bytes pc = .ok (.lor, 1)) (hp : pc' = pc + 1) (hr : x ||| y = r) (k : G T (mkF m pc' Ls (.long r :: st))) : G T (mkF m pc Ls (.long y :: .long x :: st)) := by
  obtain ⟨hG, ⟨c1, c2, -⟩, L, X, -⟩ := X
  subst hp
  exact hG _ _ _ _ (fun t q => XS.lor X.here c1 rfl (hb c2 hd) rfl (by subst hr; exact q)) k
theorem own_lxor (X : own_At G p l e R s0 s EL P m args below meth c Z n0 own nm bytes maxL ret T h cells slots) {pc pc' : Nat} {Ls : Array Slot} {st : List Value} {x y r : Int64} (hd : decode bytes pc = .ok (.lxor, 1)) (hp : pc' = pc + 1) (hr : x ^^^ y = r) (k : G T (mkF m pc' Ls (.long r :: st))) : G T (mkF m pc Ls (.long y :: .long x :: st)) := by
  obtain ⟨hG, ⟨c1, c2, -⟩, L, X, -⟩ := X
  subst hp
  exact hG _ _ _ _ (fun t q => XS.lxor X.here c1 rfl (hb c2 hd) rfl (by subst hr; exact q)) k
theorem own_lshl (X : own_At G p l e R s0 s EL P m args below meth c Z n0 own nm bytes maxL ret T h cells slots) {pc pc' : Nat} {Ls : Array Slot} {st : List Value} {x r : Int64} {y : Int32} (hd : decode bytes pc = .ok (.lshl, 1)) (hp : pc' = pc + 1) (hr : x <<< (y &&& 0x3f).toInt64 = r) (k : G T (mkF m pc' Ls (.long r :: st))) : G T (mkF m pc Ls (.int y :: .long x :: st)) := by
  obtain ⟨hG, ⟨c1, c2, -⟩, L, X, -⟩ := X
  subst hp
  exact hG _ _ _ _ (fun t q => XS.lshl X.here c1 rfl (hb c2 hd) rfl (by subst hr; exact q)) k
theorem own_lshr (X : own_At G p l e R s0 s EL P m args below meth c Z n0 own nm bytes maxL ret T h cells slots) {pc pc' : Nat} {Ls : Array Slot} {st : List Value} {x r : Int64} {y : Int32} (hd : decode bytes pc = .ok (.lshr, 1)) (hp : pc' = pc + 1) (hr : x >>> (y &&& 0x3f).toInt64 = r) (k : G T (mkF m pc' Ls (.long r :: st))) : G T (mkF m pc Ls (.int y :: .long x :: st)) := by
  obtain ⟨hG, ⟨c1, c2, -⟩, L, X, -⟩ := X
  subst hp
  exact hG _ _ _ _ (fun t q => XS.lshr X.here c1 rfl (hb c2 hd) rfl (by subst hr; exact q)) k
theorem own_idiv (X : own_At G p l e R s0 s EL P m args below meth c Z n0 own nm bytes maxL ret T h cells slots) {pc pc' : Nat} {Ls : Array Slot} {st : List Value} {x y : Int32} (hd : decode bytes pc = .ok (.idiv, 1)) (hp : pc' = pc + 1) (hy : y ≠ 0) (k : G T (mkF m pc' Ls (.int (x / y) :: st))) : G T (mkF m pc Ls (.int y :: .int x :: st)) := by
  obtain ⟨hG, ⟨c1, c2, -⟩, L, X, -⟩ := X
  subst hp
  exact hG _ _ _ _ (fun t q => XS.idiv X.here c1 rfl (hb c2 hd) rfl hy q) k
theorem own_irem (X : own_At G p l e R s0 s EL P m args below meth c Z n0 own nm bytes maxL ret T h cells slots) {pc pc' : Nat} {Ls : Array Slot} {st : List Value} {x y : Int32} (hd : decode bytes pc = .ok (.irem, 1)) (hp : pc' = pc + 1) (hy : y ≠ 0) (k : G T (mkF m pc' Ls (.int (x % y) :: st))) : G T (mkF m pc Ls (.int y :: .int x :: st)) := by
  obtain ⟨hG, ⟨c1, c2, -⟩, L, X, -⟩ := X
  subst hp
  exact hG _ _ _ _ (fun t q => iremM X c1 rfl (hb c2 hd) rfl hy q) k
theorem own_ldiv (X : own_At G p l e R s0 s EL P m args below meth c Z n0 own nm bytes maxL ret T h cells slots) {pc pc' : Nat} {Ls : Array Slot} {st : List Value} {x y : Int64} (hd : decode bytes pc = .ok (.ldiv, 1)) (hp : pc' = pc + 1) (hy : y ≠ 0) (k : G T (mkF m pc' Ls (.long (x / y) :: st))) : G T (mkF m pc Ls (.long y :: .long x :: st)) := by
  obtain ⟨hG, ⟨c1, c2, -⟩, L, X, -⟩ := X
  subst hp
  exact hG _ _ _ _ (fun t q => XS.ldiv X.here c1 rfl (hb c2 hd) rfl hy q) k
theorem own_lrem (X : own_At G p l e R s0 s EL P m args below meth c Z n0 own nm bytes maxL ret T h cells slots) {pc pc' : Nat} {Ls : Array Slot} {st : List Value} {x y : Int64} (hd : decode bytes pc = .ok (.lrem, 1)) (hp : pc' = pc + 1) (hy : y ≠ 0) (k : G T (mkF m pc' Ls (.long (x % y) :: st))) : G T (mkF m pc Ls (.long y :: .long x :: st)) := by
  obtain ⟨hG, ⟨c1, c2, -⟩, L, X, -⟩ := X
  subst hp
  exact hG _ _ _ _ (fun t q => XS.lrem X.here c1 rfl (hb c2 hd) rfl hy (by rw [lrem_mod]; exact q)) k
theorem own_ineg (X : own_At G p l e R s0 s EL P m args below meth c Z n0 own nm bytes maxL ret T h cells slots) {pc pc' : Nat} {Ls : Array Slot} {st : List Value} {x : Int32} (hd : decode bytes pc = .ok (.ineg, 1)) (hp : pc' = pc + 1)  (k : G T (mkF m pc' Ls (.int (-x) :: st))) : G T (mkF m pc Ls (.int x :: st)) := by
  obtain ⟨hG, ⟨c1, c2, -⟩, L, X, -⟩ := X
  subst hp
  exact hG _ _ _ _ (fun t q => XS.ineg X.here c1 rfl (hb c2 hd) rfl q) k
theorem own_i2c (X : own_At G p l e R s0 s EL P m args below meth c Z n0 own nm bytes maxL ret T h cells slots) {pc pc' : Nat} {Ls : Array Slot} {st : List Value} {x : Int32} (hd : decode bytes pc = .ok (.i2c, 1)) (hp : pc' = pc + 1)  (k : G T (mkF m pc' Ls (.int (own_c16 x) :: st))) : G T (mkF m pc Ls (.int x :: st)) := by
  obtain ⟨hG, ⟨c1, c2, -⟩, L, X, -⟩ := X
  subst hp
  exact hG _ _ _ _ (fun t q => XS.i2c X.here c1 rfl (hb c2 hd) rfl q) k
theorem own_i2b (X : own_At G p l e R s0 s EL P m args below meth c Z n0 own nm bytes maxL ret T h cells slots) {pc pc' : Nat} {Ls : Array Slot} {st : List Value} {x : Int32} (hd : decode bytes pc = .ok (.i2b, 1)) (hp : pc' = pc + 1)  (k : G T (mkF m pc' Ls (.int (own_b8 x) :: st))) : G T (mkF m pc Ls (.int x :: st)) := by
  obtain ⟨hG, ⟨c1, c2, -⟩, L, X, -⟩ := X
  subst hp
  exact hG _ _ _ _ (fun t q => XS.i2b X.here c1 rfl (hb c2 hd) rfl q) k
theorem own_i2l (X : own_At G p l e R s0 s EL P m args below meth c Z n0 own nm bytes maxL ret T h cells slots) {pc pc' : Nat} {Ls : Array Slot} {st : List Value} {x : Int32} {r : Int64} (hd : decode bytes pc = .ok (.i2l, 1)) (hp : pc' = pc + 1) (hr : x.toInt64 = r) (k : G T (mkF m pc' Ls (.long r :: st))) : G T (mkF m pc Ls (.int x :: st)) := by
  obtain ⟨hG, ⟨c1, c2, -⟩, L, X, -⟩ := X
  subst hp
  exact hG _ _ _ _ (fun t q => XS.i2l X.here c1 rfl (hb c2 hd) rfl (by subst hr; exact q)) k
theorem own_l2i (X : own_At G p l e R s0 s EL P m args below meth c Z n0 own nm bytes maxL ret T h cells slots) {pc pc' : Nat} {Ls : Array Slot} {st : List Value} {x : Int64} {r : Int32} (hd : decode bytes pc = .ok (.l2i, 1)) (hp : pc' = pc + 1) (hr : x.toInt32 = r) (k : G T (mkF m pc' Ls (.int r :: st))) : G T (mkF m pc Ls (.long x :: st)) := by
  obtain ⟨hG, ⟨c1, c2, -⟩, L, X, -⟩ := X
  subst hp
  exact hG _ _ _ _ (fun t q => XS.l2i X.here c1 rfl (hb c2 hd) rfl (by subst hr; exact q)) k
theorem own_pop2L (X : own_At G p l e R s0 s EL P m args below meth c Z n0 own nm bytes maxL ret T h cells slots) {pc pc' : Nat} {Ls : Array Slot} {st : List Value} {x : Int64} (hd : decode bytes pc = .ok (.pop2, 1)) (hp : pc' = pc + 1)  (k : G T (mkF m pc' Ls st)) : G T (mkF m pc Ls (.long x :: st)) := by
  obtain ⟨hG, ⟨c1, c2, -⟩, L, X, -⟩ := X
  subst hp
  exact hG _ _ _ _ (fun t q => own_xpop2 X c1 (hb c2 hd) q) k
theorem own_lcmp (X : own_At G p l e R s0 s EL P m args below meth c Z n0 own nm bytes maxL ret T h cells slots) {pc pc' : Nat} {Ls : Array Slot} {st : List Value} {x y : Int64} (hd : decode bytes pc = .ok (.lcmp, 1)) (hp : pc' = pc + 1)  (k : G T (mkF m pc' Ls (.int (lcmpW x y) :: st))) : G T (mkF m pc Ls (.long y :: .long x :: st)) := by
  obtain ⟨hG, ⟨c1, c2, -⟩, L, X, -⟩ := X
  subst hp
  exact hG _ _ _ _ (fun t q => XS.lcmp X.here c1 rfl (hb c2 hd) rfl q) k
theorem own_dup (X : own_At G p l e R s0 s EL P m args below meth c Z n0 own nm bytes maxL ret T h cells slots) {pc pc' : Nat} {Ls : Array Slot} {st : List Value} {x : Value} (hd : decode bytes pc = .ok (.dup, 1)) (hp : pc' = pc + 1) (hc : x.category = 1) (k : G T (mkF m pc' Ls (x :: x :: st))) : G T (mkF m pc Ls (x :: st)) := by
  obtain ⟨hG, ⟨c1, c2, -⟩, L, X, -⟩ := X
  subst hp
  exact hG _ _ _ _ (fun t q => XS.dup X.here c1 rfl (hb c2 hd) rfl hc q) k
theorem own_pop (X : own_At G p l e R s0 s EL P m args below meth c Z n0 own nm bytes maxL ret T h cells slots) {pc pc' : Nat} {Ls : Array Slot} {st : List Value} {x : Value} (hd : decode bytes pc = .ok (.pop, 1)) (hp : pc' = pc + 1) (hc : x.category = 1) (k : G T (mkF m pc' Ls st)) : G T (mkF m pc Ls (x :: st)) := by
  obtain ⟨hG, ⟨c1, c2, -⟩, L, X, -⟩ := X
  subst hp
  exact hG _ _ _ _ (fun t q => XS.pop X.here c1 rfl (hb c2 hd) rfl hc q) k
theorem own_dup_x1 (X : own_At G p l e R s0 s EL P m args below meth c Z n0 own nm bytes maxL ret T h cells slots) {pc pc' : Nat} {Ls : Array Slot} {st : List Value} {x y : Value} (hd : decode bytes pc = .ok (.dup_x1, 1)) (hp : pc' = pc + 1) (hc : x.category = 1) (hc2 : y.category = 1) (k : G T (mkF m pc' Ls (x :: y :: x :: st))) : G T (mkF m pc Ls (x :: y :: st)) := by
  obtain ⟨hG, ⟨c1, c2, -⟩, L, X, -⟩ := X
  subst hp
  exact hG _ _ _ _ (fun t q => XS.dupX1 X.here c1 rfl (hb c2 hd) rfl hc hc2 q) k
theorem own_goto (X : own_At G p l e R s0 s EL P m args below meth c Z n0 own nm bytes maxL ret T h cells slots) {pc pc' : Nat} {Ls : Array Slot} {st : List Value} {o : Int}  (hd : decode bytes pc = .ok (.goto o, 3))  (ho : 0 ≤ (pc : Int) + o) (hp : ((pc : Int) + o).toNat = pc') (k : G T (mkF m pc' Ls st)) : G T (mkF m pc Ls st) := by
  obtain ⟨hG, ⟨c1, c2, -⟩, L, X, -⟩ := X
  exact hG _ _ _ _ (fun t q => XS.goto X.here c1 rfl rfl (hb c2 hd) ho hp q) k
theorem own_ifY (X : own_At G p l e R s0 s EL P m args below meth c Z n0 own nm bytes maxL ret T h cells slots) {pc pc' : Nat} {Ls : Array Slot} {st : List Value} {o : Int} {cd : ClassFile.Cond} {x : Int32} (hd : decode bytes pc = .ok (.ifCond cd o, 3)) (hc : if_icmp.holds cd x 0 = true) (ho : 0 ≤ (pc : Int) + o) (hp : ((pc : Int) + o).toNat = pc') (k : G T (mkF m pc' Ls st)) : G T (mkF m pc Ls (.int x :: st)) := by
  obtain ⟨hG, ⟨c1, c2, -⟩, L, X, -⟩ := X
  exact hG _ _ _ _ (fun t q => XS.ifYes X.here c1 rfl rfl (hb c2 hd) rfl ((if0 _ _).trans hc) ho hp q) k
theorem own_ifN (X : own_At G p l e R s0 s EL P m args below meth c Z n0 own nm bytes maxL ret T h cells slots) {pc pc' : Nat} {Ls : Array Slot} {st : List Value} {o : Int} {cd : ClassFile.Cond} {x : Int32} (hd : decode bytes pc = .ok (.ifCond cd o, 3)) (hp : pc' = pc + 3) (hc : if_icmp.holds cd x 0 = false) (k : G T (mkF m pc' Ls st)) : G T (mkF m pc Ls (.int x :: st)) := by
  obtain ⟨hG, ⟨c1, c2, -⟩, L, X, -⟩ := X
  subst hp
  exact hG _ _ _ _ (fun t q => XS.ifNo X.here c1 rfl (hb c2 hd) rfl ((if0 _ _).trans hc) q) k
theorem own_icmpY (X : own_At G p l e R s0 s EL P m args below meth c Z n0 own nm bytes maxL ret T h cells slots) {pc pc' : Nat} {Ls : Array Slot} {st : List Value} {o : Int} {cd : ClassFile.Cond} {x y : Int32} (hd : decode bytes pc = .ok (.if_icmp cd o, 3)) (hc : if_icmp.holds cd x y = true) (ho : 0 ≤ (pc : Int) + o) (hp : ((pc : Int) + o).toNat = pc') (k : G T (mkF m pc' Ls st)) : G T (mkF m pc Ls (.int y :: .int x :: st)) := by
  obtain ⟨hG, ⟨c1, c2, -⟩, L, X, -⟩ := X
  exact hG _ _ _ _ (fun t q => XS.icmpYes X.here c1 rfl rfl (hb c2 hd) rfl hc ho hp q) k
theorem own_icmpN (X : own_At G p l e R s0 s EL P m args below meth c Z n0 own nm bytes maxL ret T h cells slots) {pc pc' : Nat} {Ls : Array Slot} {st : List Value} {o : Int} {cd : ClassFile.Cond} {x y : Int32} (hd : decode bytes pc = .ok (.if_icmp cd o, 3)) (hp : pc' = pc + 3) (hc : if_icmp.holds cd x y = false) (k : G T (mkF m pc' Ls st)) : G T (mkF m pc Ls (.int y :: .int x :: st)) := by
  obtain ⟨hG, ⟨c1, c2, -⟩, L, X, -⟩ := X
  subst hp
  exact hG _ _ _ _ (fun t q => XS.icmpNo X.here c1 rfl (hb c2 hd) rfl hc q) k
theorem own_ifnullY (X : own_At G p l e R s0 s EL P m args below meth c Z n0 own nm bytes maxL ret T h cells slots) {pc pc' : Nat} {Ls : Array Slot} {st : List Value} {o : Int}  (hd : decode bytes pc = .ok (.ifnull o, 3))  (ho : 0 ≤ (pc : Int) + o) (hp : ((pc : Int) + o).toNat = pc') (k : G T (mkF m pc' Ls st)) : G T (mkF m pc Ls (.null :: st)) := by
  obtain ⟨hG, ⟨c1, c2, -⟩, L, X, -⟩ := X
  exact hG _ _ _ _ (fun t q => XS.ifnullYes X.here c1 rfl rfl (hb c2 hd) rfl ho hp q) k
theorem own_ifnullN (X : own_At G p l e R s0 s EL P m args below meth c Z n0 own nm bytes maxL ret T h cells slots) {pc pc' : Nat} {Ls : Array Slot} {st : List Value} {o : Int} {b : Addr} (hd : decode bytes pc = .ok (.ifnull o, 3)) (hp : pc' = pc + 3)  (k : G T (mkF m pc' Ls st)) : G T (mkF m pc Ls (.ref b :: st)) := by
  obtain ⟨hG, ⟨c1, c2, -⟩, L, X, -⟩ := X
  subst hp
  exact hG _ _ _ _ (fun t q => XS.ifnullNo X.here c1 rfl (hb c2 hd) rfl q) k
theorem own_ifnonnullY (X : own_At G p l e R s0 s EL P m args below meth c Z n0 own nm bytes maxL ret T h cells slots) {pc pc' : Nat} {Ls : Array Slot} {st : List Value} {o : Int} {b : Addr} (hd : decode bytes pc = .ok (.ifnonnull o, 3))  (ho : 0 ≤ (pc : Int) + o) (hp : ((pc : Int) + o).toNat = pc') (k : G T (mkF m pc' Ls st)) : G T (mkF m pc Ls (.ref b :: st)) := by
  obtain ⟨hG, ⟨c1, c2, -⟩, L, X, -⟩ := X
  exact hG _ _ _ _ (fun t q => XS.ifnonnullYes X.here c1 rfl rfl (hb c2 hd) rfl ho hp q) k
theorem own_ifnonnullN (X : own_At G p l e R s0 s EL P m args below meth c Z n0 own nm bytes maxL ret T h cells slots) {pc pc' : Nat} {Ls : Array Slot} {st : List Value} {o : Int}  (hd : decode bytes pc = .ok (.ifnonnull o, 3)) (hp : pc' = pc + 3)  (k : G T (mkF m pc' Ls st)) : G T (mkF m pc Ls (.null :: st)) := by
  obtain ⟨hG, ⟨c1, c2, -⟩, L, X, -⟩ := X
  subst hp
  exact hG _ _ _ _ (fun t q => XS.ifnonnullNo X.here c1 rfl (hb c2 hd) rfl q) k
theorem own_acmp (X : own_At G p l e R s0 s EL P m args below meth c Z n0 own nm bytes maxL ret T h cells slots) {pc pc' : Nat} {Ls : Array Slot} {st : List Value} {o : Int} {cd : ACond} {x y : Value} {same : Bool} (hd : decode bytes pc = .ok (.if_acmp cd o, 3)) (h1 : x.isRef = true) (h2 : y.isRef = true) (hq : decide (x = y) = same) (ho : 0 ≤ (pc : Int) + o) (hp : pc' = if acV cd same = true then ((pc : Int) + o).toNat else pc + 3) (k : G T (mkF m pc' Ls st)) : G T (mkF m pc Ls (y :: x :: st)) := by
  obtain ⟨hG, ⟨c1, c2, -⟩, L, X, -⟩ := X
  exact hG _ _ _ _ (fun t q => Jvm.RoadKit.acmp (g := mkF m pc Ls (y :: x :: st)) X c1 rfl h1 h2 rfl (hb c2 hd) rfl hq ho hp q) k
theorem own_lcY {cd : ClassFile.Cond} {x y : Int64} {P : Prop} [Decidable P] {b : Bool} (h : if_icmp.holds cd (lcmpW x y) 0 = decide P) (q : decide P = b) : if_icmp.holds cd (lcmpW x y) 0 = b := h.trans q
theorem own_lc_eq {x y : Int64} (q : x = y) : if_icmp.holds .eq (lcmpW x y) 0 = true ∧ if_icmp.holds .ne (lcmpW x y) 0 = false := teq ((lw_eq x y).mpr q)
theorem own_lc_ne {x y : Int64} (q : ¬ x = y) : if_icmp.holds .eq (lcmpW x y) 0 = false ∧ if_icmp.holds .ne (lcmpW x y) 0 = true := feq (mt (lw_eq x y).mp q)
theorem own_lc_lt {x y : Int64} (q : x < y) : if_icmp.holds .lt (lcmpW x y) 0 = true ∧ if_icmp.holds .ge (lcmpW x y) 0 = false := by have := tlt ((lw_lt x y).mpr q); exact ⟨this.1, this.2.1⟩
theorem own_lc_nlt {x y : Int64} (q : ¬ x < y) : if_icmp.holds .lt (lcmpW x y) 0 = false ∧ if_icmp.holds .ge (lcmpW x y) 0 = true := by have := flt (mt (lw_lt x y).mp q); exact ⟨this.1, this.2.1⟩
theorem own_lc_gt {x y : Int64} (q : y < x) : if_icmp.holds .gt (lcmpW x y) 0 = true ∧ if_icmp.holds .le (lcmpW x y) 0 = false := by have := tlt ((lw_gt x y).mpr q); exact ⟨this.2.2.1, this.2.2.2⟩
theorem own_lc_ngt {x y : Int64} (q : ¬ y < x) : if_icmp.holds .gt (lcmpW x y) 0 = false ∧ if_icmp.holds .le (lcmpW x y) 0 = true := by have := flt (mt (lw_gt x y).mp q); exact ⟨this.2.2.1, this.2.2.2⟩
theorem own_ldc2 (X : own_At G p l e R s0 s EL P m args below meth c Z n0 own nm bytes maxL ret T h cells slots) {pc pc' : Nat} {Ls : Array Slot} {st : List Value} {i : Nat} {v : Int64} (w : (Cond.constantLong own i v).before a0 Z = true) (hd : decode bytes pc = .ok (.ldc2_w i, 3)) (hp : pc' = pc + 3) (k : G T (mkF m pc' Ls (.long v :: st))) : G T (mkF m pc Ls st) := by
  obtain ⟨hG, ⟨c1, c2, hZ, hown, -⟩, L, X, -⟩ := X
  subst hp
  exact hG _ _ _ _ (X.ldc2Long c1 hown (mvT hZ w) (g := mkF m pc Ls st) rfl (hb c2 hd)) k
theorem own_ldcI (X : own_At G p l e R s0 s EL P m args below meth c Z n0 own nm bytes maxL ret T h cells slots) {pc pc' : Nat} {Ls : Array Slot} {st : List Value} {i : Nat} {v : Int32} (w : (Cond.constant own i v).before a0 Z = true) (hd : decode bytes pc = .ok (.ldc i, 2)) (hp : pc' = pc + 2) (k : G T (mkF m pc' Ls (.int v :: st))) : G T (mkF m pc Ls st) := by
  obtain ⟨hG, ⟨c1, c2, hZ, hown, -⟩, L, X, -⟩ := X
  subst hp
  exact hG _ _ _ _ (X.ldcInt c1 hown (mvT hZ w) (g := mkF m pc Ls st) rfl (hb c2 hd)) k
theorem own_ldcwI (X : own_At G p l e R s0 s EL P m args below meth c Z n0 own nm bytes maxL ret T h cells slots) {pc pc' : Nat} {Ls : Array Slot} {st : List Value} {i : Nat} {v : Int32} (w : (Cond.constant own i v).before a0 Z = true) (hd : decode bytes pc = .ok (.ldc_w i, 3)) (hp : pc' = pc + 3) (k : G T (mkF m pc' Ls (.int v :: st))) : G T (mkF m pc Ls st) := by
  obtain ⟨hG, ⟨c1, c2, hZ, hown, -⟩, L, X, -⟩ := X
  subst hp
  exact hG _ _ _ _ (X.ldcwInt c1 hown (mvT hZ w) (g := mkF m pc Ls st) rfl (hb c2 hd)) k
theorem own_ldcS (X : own_At G p l e R s0 s EL P m args below meth c Z n0 own nm bytes maxL ret T h cells slots) {pc pc' : Nat} {Ls : Array Slot} {st : List Value} {i : Nat} {text : String} {a : Addr} (w : (Cond.stringRef own i text).before a0 Z = true) (F : Lit Z own i a) (hd : decode bytes pc = .ok (.ldc i, 2)) (hp : pc' = pc + 2) (k : G T (mkF m pc' Ls (.ref a :: st))) : G T (mkF m pc Ls st) := by
  obtain ⟨hG, ⟨c1, c2, hZ, hown, -⟩, L, X, -⟩ := X
  subst hp
  exact hG _ _ _ _ (ldcR X c1 hZ hown w F (g := mkF m pc Ls st) rfl (hb c2 hd)) k
theorem own_get (X : own_At G p l e R s0 s EL P m args below meth c Z n0 own nm bytes maxL ret T h cells slots) {pc pc' : Nat} {Ls : Array Slot} {st : List Value} {i : Nat} {R0 O n d host : String} {a : Addr} {v : Value} (w : (Cond.fieldLink own i R0 n d).before a0 Z = true ∨ (Cond.fieldLinkNest own i R0 n d host).before a0 Z = true) (via : Via Z R0 O n d) (F : Fld Z h a O n d v) (hd : decode bytes pc = .ok (.getfield i, 3)) (hp : pc' = pc + 3)
    (k : ∀ T', own_At G p l e R s0 s EL P m args below meth c Z n0 own nm bytes maxL ret T' h cells slots → G T' (mkF m pc' Ls (v :: st))) : G T (mkF m pc Ls (.ref a :: st)) := by
  obtain ⟨hG, ⟨c1, c2, hZ, hown, c5⟩, L, X, N, eT, O⟩ := X
  subst hp
  obtain ⟨T', X', e', st'⟩ := getF X c1 hZ hown w via eT F (g := mkF m pc Ls (.ref a :: st)) rfl rfl (hb c2 hd)
  exact hG _ _ _ _ st' (k _ ⟨hG, ⟨c1, c2, hZ, hown, c5⟩, L, X', N, e', O⟩)
theorem own_getS (X : own_At G p l e R s0 s EL P m args below meth c Z n0 own nm bytes maxL ret T h cells slots) {pc pc' : Nat} {Ls : Array Slot} {st : List Value} {i : Nat} {R0 O n d : String} {v : Value} (w : (Cond.fieldLink own i R0 n d).before a0 Z = true) (via : Via Z R0 O n d) (F : Sta Z h O n d v) (hd : decode bytes pc = .ok (.getstatic i, 3)) (hp : pc' = pc + 3)
    (k : ∀ T', own_At G p l e R s0 s EL P m args below meth c Z n0 own nm bytes maxL ret T' h cells slots → G T' (mkF m pc' Ls (v :: st))) : G T (mkF m pc Ls st) := by
  obtain ⟨hG, ⟨c1, c2, hZ, hown, c5⟩, L, X, N, eT, O⟩ := X
  subst hp
  obtain ⟨T', X', e', st'⟩ := getS (host := "") X c1 hZ hown w via eT F (g := mkF m pc Ls st) rfl (hb c2 hd)
  exact hG _ _ _ _ st' (k _ ⟨hG, ⟨c1, c2, hZ, hown, c5⟩, L, X', N, e', O⟩)
theorem own_put (X : own_At G p l e R s0 s EL P m args below meth c Z n0 own nm bytes maxL ret T h cells slots) {pc pc' : Nat} {Ls : Array Slot} {st : List Value} {i kk : Nat} {R0 O n d host C : String} {a : Addr} {v old : Value} {ty : FieldType} (w : (Cond.fieldLink own i R0 n d).before a0 Z = true ∨ (Cond.fieldLinkNest own i R0 n d host).before a0 Z = true) (via : Via Z R0 O n d) (F : Fld Z h a O n d old) (E : Exa Z h a C)
    (hL : (Cond.lays C O n d).before a0 Z = true ∨ ((Cond.laysFinal C O n d).before a0 Z = true ∧ own = O ∧ nm = "<init>")) (wi : (Cond.instantiable C kk).before a0 Z = true) (hty : parseFieldDescriptor d = some ty) (hn : narrow ty v = v) (hf : fits ty v = true) (ha : n0 ≤ a) (hsf : (C ≠ "java/lang/String" ∧ C ≠ "[B") ∨ a ∈ P) (hd : decode bytes pc = .ok (.putfield i, 3)) (hp : pc' = pc + 3)
    (k : ∀ T' h', own_At G p l e R s0 s EL P m args below meth c Z n0 own nm bytes maxL ret T' h' cells slots → Wr h h' a (Jvm.RoadKit.slotOf Z O n d) v → Keep h h' [a] → G T' (mkF m pc' Ls st)) : G T (mkF m pc Ls (v :: .ref a :: st)) := by
  obtain ⟨hG, ⟨c1, c2, hZ, hown, c5, c6, c7⟩, L, X, N, eT, O⟩ := X
  subst hp
  obtain ⟨T', h', X', e', W', st'⟩ := putF X c1 hZ hown w via eT F E (hL.imp id fun q => ⟨q.1, q.2.1, c6.trans q.2.2⟩) wi hty hn hf (g := mkF m pc Ls (v :: .ref a :: st)) rfl rfl (hb c2 hd)
  exact hG _ _ _ _ st' (k _ _ ⟨hG, ⟨c1, c2, hZ, hown, c5, c6, c7⟩, _, X', Fr.snoc X' N ha, e', O.wr W' ha (hsf.elim (fun q => Safe.exa hZ.alike E q.1 q.2) (fun q => (O.2.2.2.2 a q).1))⟩ W' (Keep.of_wr W'))
theorem own_new (X : own_At G p l e R s0 s EL P m args below meth c Z n0 own nm bytes maxL ret T h cells slots) {pc pc' cells' slots' : Nat} {Ls : Array Slot} {st : List Value} {i n : Nat} {C : String} (w : (Cond.classLink own i C).before a0 Z = true) (wi : (Cond.instantiable C n).before a0 Z = true) (wz : (Cond.initialized C).before a0 Z = true) (hd : decode bytes pc = .ok (.new i, 3)) (hp : pc' = pc + 3) (ec : cells' = cells + 1) (es : slots' = slots + n) (hc : cells' ≤ R.cells) (hl : slots' ≤ R.slots)
    (k : ∀ T' h' a, a = h.size → own_At G p l e R s0 s EL P m args below meth c Z n0 own nm bytes maxL ret T' h' cells' slots' → Keep h h' [] → Exa Z h' a C → (∀ {O nm d : String} {ty : FieldType}, Laid Z a0 C O nm d → parseFieldDescriptor d = some ty → Fld Z h' a O nm d (defaultValue ty)) → (∃ cell : Cell, h'[a]? = some cell ∧ cell.vm = .none ∧ cell.monitor = {}) → G T' (mkF m pc' Ls (.ref a :: st))) : G T (mkF m pc Ls st) := by
  obtain ⟨hG, ⟨c1, c2, hZ, hown, c5⟩, L, X, N, eT, O⟩ := X
  subst hp ec es
  obtain ⟨T', h', X', e', E', A', D', U', st'⟩ := newO X c1 hZ hown w wi wz eT (g := mkF m pc Ls st) rfl (hb c2 hd) hc hl
  exact hG _ _ _ _ st' (k _ _ _ rfl ⟨hG, ⟨c1, c2, hZ, hown, c5⟩, _, X', N, e', O.ext E'⟩ ((Keep.refl _ _).ext E') A' D' U')
theorem own_newK (X : own_At G p l e R s0 s EL P m args below meth c Z n0 own nm bytes maxL ret T h cells slots) {pc pc' cells' slots' : Nat} {Ls : Array Slot} {st : List Value} {i n : Nat} {C : String} (w : (Cond.classLink own i C).before a0 Z = true) (wi : (Cond.instantiable C n).before a0 Z = true) (wz : (Cond.initialized C).before a0 Z = true) (hd : decode bytes pc = .ok (.new i, 3)) (hp : pc' = pc + 3) (ec : cells' = cells + 1) (es : slots' = slots + n) (hc : cells' ≤ R.cells) (hl : slots' ≤ R.slots)
    (k : ∀ T' h' a, a = h.size → own_At G p l e R s0 s EL (a :: P) m args below meth c Z n0 own nm bytes maxL ret T' h' cells' slots' → Keep h h' [] → Exa Z h' a C → (∀ {O nm d : String} {ty : FieldType}, Laid Z a0 C O nm d → parseFieldDescriptor d = some ty → Fld Z h' a O nm d (defaultValue ty)) → (∃ cell : Cell, h'[a]? = some cell ∧ cell.vm = .none ∧ cell.monitor = {}) → G T' (mkF m pc' Ls (.ref a :: st))) : G T (mkF m pc Ls st) := by
  obtain ⟨hG, ⟨c1, c2, hZ, hown, c5⟩, L, X, N, eT, O⟩ := X
  subst hp ec es
  obtain ⟨T', h', X', e', E', A', D', U', st'⟩ := newO X c1 hZ hown w wi wz eT (g := mkF m pc Ls st) rfl (hb c2 hd) hc hl
  exact hG _ _ _ _ st' (k _ _ _ rfl ⟨hG, ⟨c1, c2, hZ, hown, c5⟩, _, X', N, e', O.made E' (Nat.le_refl _) A'.lt⟩ ((Keep.refl _ _).ext E') A' D' U')
theorem own_initO (X : own_At G p l e R s0 s EL P m args below meth c Z n0 own nm bytes maxL ret T h cells slots) {pc pc' : Nat} {Ls : Array Slot} {st : List Value} {i : Nat} {a : Addr} {W : Nat} (w1 : (Cond.methodLink own i Lib.objectInit).before a0 Z = true) (w2 : (Cond.instanceMethod Lib.objectInit).before a0 Z = true) (w3 : (Cond.code Lib.objectInit ⟨#[0xb1]⟩ 1 none).before a0 Z = true) (hsz : Ls.size = maxL) (hd : decode bytes pc = .ok (.invokespecial i, 3)) (hp : pc' = pc + 3)
    (hf : 1 ≤ R.frames) (hW : (st.map fun v => v.category).sum = W) (hl : W + 12 ≤ R.locals) (k : ∀ T', own_At G p l e R s0 s EL P m args below meth c Z n0 own nm bytes maxL ret T' h cells slots → G T' (mkF m pc' Ls st)) : G T (mkF m pc Ls (.ref a :: st)) := by
  obtain ⟨hG, ⟨c1, c2, hZ, hown, c5, c6⟩, L, X, N, eT, O⟩ := X
  subst hp
  obtain ⟨T', X', e', st'⟩ := initO X c1 hZ hown w1 w2 w3 eT (g := mkF m pc Ls (.ref a :: st)) rfl (hsz.trans c5.symm) rfl (hb c2 hd) hf (W := W) (by show 2 * 0 + _ ≤ _; rw [hW]; omega) hl
  exact hG _ _ _ _ st' (k _ ⟨hG, ⟨c1, c2, hZ, hown, c5, c6⟩, L, X', N, e', O⟩)
def own_Arr (Z : State) (h : Heap) (a : Addr) (k : ClassId) (ty : FieldType) (vs : List Value) : Prop := ∃ c : Cell, Arr Z h a c ty ∧ c.cls = k ∧ c.slots.toList = vs ∧ vs.length < 2 ^ 31 ∧ ∀ v ∈ vs, fits ty v = true
theorem own_Arr.lt {a : Addr} {k : ClassId} {ty : FieldType} {vs : List Value} (F : own_Arr Z h a k ty vs) : a < h.size := by obtain ⟨c, A, -⟩ := F; exact A.lt
theorem own_Arr.keep {h' : Heap} {a : Addr} {k : ClassId} {ty : FieldType} {vs : List Value} {ws : List Addr} (F : own_Arr Z h a k ty vs) (K : Keep h h' ws) (q : a ∉ ws) : own_Arr Z h' a k ty vs := by
  obtain ⟨c, A, r⟩ := F; exact ⟨c, ⟨K.2.1 a c A.1 q, A.2⟩, r⟩
theorem own_Arr.arv {a : Addr} {k : ClassId} {ty : FieldType} {vs : List Value} {d : Value} {N : Int32} (F : own_Arr Z h a k ty vs) (hN : N = Int32.ofNat vs.length) : Arv Z h a k ty N vs d := by
  obtain ⟨c, A, r1, r2, r3, r4⟩ := F
  have q : N.toInt = vs.length := by rw [hN]; exact len_toInt r3
  have hs : c.slots.size = vs.length := by rw [← r2]; simp
  refine ⟨c, A, r1, by rw [hs]; simp only [Int32.toNatClampNeg, q]; omega, by rw [Int32.lt_iff_toInt_lt, q]; simp, fun i hi => ?_, fun i hi => ?_⟩
  · rw [← Array.getElem?_toList, r2, List.getElem?_eq_getElem (by omega)]; simp [List.getD, List.getElem?_eq_getElem (show i < vs.length by omega)]
  · have hi' : i < vs.length := by omega
    simp only [List.getD, List.getElem?_eq_getElem hi', Option.getD_some]; exact r4 _ (List.getElem_mem hi')
theorem own_Arr.of_arv {a : Addr} {k : ClassId} {ty : FieldType} {vs : List Value} {d : Value} {N : Int32} (F : Arv Z h a k ty N vs d) (hN : N.toNatClampNeg = vs.length) : own_Arr Z h a k ty vs := by
  obtain ⟨c, A, r1, r2, r3, r4, r5⟩ := F
  have hs : c.slots.size = vs.length := by omega
  have e : c.slots.toList = vs := by
    apply List.ext_getElem?
    intro i
    by_cases hi : i < vs.length
    · rw [Array.getElem?_toList, r4 i (by omega)]; simp [List.getD, List.getElem?_eq_getElem hi]
    · rw [List.getElem?_eq_none (by simpa using (by omega : c.slots.size ≤ i)), List.getElem?_eq_none (by omega)]
  refine ⟨c, A, r1, e, by rw [← hN]; exact (back32 r3).2, fun v hv => ?_⟩
  obtain ⟨i, hi, rfl⟩ := List.getElem_of_mem hv
  have := r5 i (by omega)
  simpa [List.getD, List.getElem?_eq_getElem hi] using this
theorem own_idx {n i : Nat} (hi : i < n) (hn : n < 2 ^ 31) {j : Int32} (hj : j.toInt = i) : ¬ (j < 0 ∨ n ≤ j.toNatClampNeg) ∧ j.toNatClampNeg = i := by
  have e : j.toNatClampNeg = i := by simp only [Int32.toNatClampNeg, hj]; omega
  refine ⟨?_, e⟩
  rw [e, Int32.lt_iff_toInt_lt, hj]; simp; omega
theorem own_ld {a : Addr} {k : ClassId} {ty : FieldType} {vs : List Value} {j : Int32} {i : Nat} {v : Value} (F : own_Arr Z h a k ty vs) (hj : j.toInt = i) (hv : vs[i]? = some v) : ∃ c : Cell, Arr Z h a c ty ∧ ¬ (j < 0 ∨ c.slots.size ≤ j.toNatClampNeg) ∧ c.slots[j.toNatClampNeg]? = some v := by
  obtain ⟨c, A, r1, r2, r3, r4⟩ := F
  have hi : i < vs.length := (List.getElem?_eq_some_iff.mp hv).1
  have hs : c.slots.size = vs.length := by rw [← r2]; simp
  obtain ⟨q1, q2⟩ := own_idx hi r3 hj
  exact ⟨c, A, by rw [hs]; exact q1, by rw [q2, ← Array.getElem?_toList, r2]; exact hv⟩
theorem own_iaload (X : own_At G p l e R s0 s EL P m args below meth c Z n0 own nm bytes maxL ret T h cells slots) {pc pc' : Nat} {Ls : Array Slot} {st : List Value} {a : Addr} {kc : ClassId} {vs : List Value} {j : Int32} {i : Nat} {v : Value} (F : own_Arr Z h a kc .int vs) (hj : j.toInt = i) (hv : vs[i]? = some v) (hd : decode bytes pc = .ok (.iaload, 1)) (hp : pc' = pc + 1) (k : G T (mkF m pc' Ls (v :: st))) : G T (mkF m pc Ls (.int j :: .ref a :: st)) := by
  obtain ⟨hG, ⟨c1, c2, hZ, -⟩, L, X, N, eT, O⟩ := X
  subst hp
  obtain ⟨cl, A, q1, q2⟩ := own_ld F hj hv
  exact hG _ _ _ _ (fun t q => X.iaload c1 (by rw [eT]; exact A.1) (State.isArrayOf_alike hZ.alike A.2.1) A.2.2 q1 q2 (g := mkF m pc Ls (.int j :: .ref a :: st)) rfl rfl (hb c2 hd) _ q) k
theorem own_laload (X : own_At G p l e R s0 s EL P m args below meth c Z n0 own nm bytes maxL ret T h cells slots) {pc pc' : Nat} {Ls : Array Slot} {st : List Value} {a : Addr} {kc : ClassId} {vs : List Value} {j : Int32} {i : Nat} {v : Value} (F : own_Arr Z h a kc .long vs) (hj : j.toInt = i) (hv : vs[i]? = some v) (hd : decode bytes pc = .ok (.laload, 1)) (hp : pc' = pc + 1) (k : G T (mkF m pc' Ls (v :: st))) : G T (mkF m pc Ls (.int j :: .ref a :: st)) := by
  obtain ⟨hG, ⟨c1, c2, hZ, -⟩, L, X, N, eT, O⟩ := X
  subst hp
  obtain ⟨cl, A, q1, q2⟩ := own_ld F hj hv
  exact hG _ _ _ _ (fun t q => X.laload c1 (by rw [eT]; exact A.1) (State.isArrayOf_alike hZ.alike A.2.1) A.2.2 q1 q2 (g := mkF m pc Ls (.int j :: .ref a :: st)) rfl rfl (hb c2 hd) _ q) k
theorem own_caload (X : own_At G p l e R s0 s EL P m args below meth c Z n0 own nm bytes maxL ret T h cells slots) {pc pc' : Nat} {Ls : Array Slot} {st : List Value} {a : Addr} {kc : ClassId} {vs : List Value} {j : Int32} {i : Nat} {v : Value} (F : own_Arr Z h a kc .char vs) (hj : j.toInt = i) (hv : vs[i]? = some v) (hd : decode bytes pc = .ok (.caload, 1)) (hp : pc' = pc + 1) (k : G T (mkF m pc' Ls (v :: st))) : G T (mkF m pc Ls (.int j :: .ref a :: st)) := by
  obtain ⟨hG, ⟨c1, c2, hZ, -⟩, L, X, N, eT, O⟩ := X
  subst hp
  obtain ⟨cl, A, q1, q2⟩ := own_ld F hj hv
  exact hG _ _ _ _ (fun t q => X.caload c1 (by rw [eT]; exact A.1) (State.isArrayOf_alike hZ.alike A.2.1) A.2.2 q1 q2 (g := mkF m pc Ls (.int j :: .ref a :: st)) rfl rfl (hb c2 hd) _ q) k
theorem own_baload (X : own_At G p l e R s0 s EL P m args below meth c Z n0 own nm bytes maxL ret T h cells slots) {pc pc' : Nat} {Ls : Array Slot} {st : List Value} {a : Addr} {kc : ClassId} {vs : List Value} {j : Int32} {i : Nat} {v : Value} (F : own_Arr Z h a kc .byte vs) (hj : j.toInt = i) (hv : vs[i]? = some v) (hd : decode bytes pc = .ok (.baload, 1)) (hp : pc' = pc + 1) (k : G T (mkF m pc' Ls (v :: st))) : G T (mkF m pc Ls (.int j :: .ref a :: st)) := by
  obtain ⟨hG, ⟨c1, c2, hZ, -⟩, L, X, N, eT, O⟩ := X
  subst hp
  obtain ⟨cl, A, q1, q2⟩ := own_ld F hj hv
  exact hG _ _ _ _ (fun t q => X.baloadBytes c1 (by rw [eT]; exact A.1) (State.isArrayOf_alike hZ.alike A.2.1) A.2.2 q1 q2 (g := mkF m pc Ls (.int j :: .ref a :: st)) rfl rfl (hb c2 hd) _ q) k
theorem own_aaload (X : own_At G p l e R s0 s EL P m args below meth c Z n0 own nm bytes maxL ret T h cells slots) {pc pc' : Nat} {Ls : Array Slot} {st : List Value} {ty : FieldType} {a : Addr} {kc : ClassId} {vs : List Value} {j : Int32} {i : Nat} {v : Value} (F : own_Arr Z h a kc ty vs) (hty : ty.isReference = true) (hj : j.toInt = i) (hv : vs[i]? = some v) (hd : decode bytes pc = .ok (.aaload, 1)) (hp : pc' = pc + 1) (k : G T (mkF m pc' Ls (v :: st))) : G T (mkF m pc Ls (.int j :: .ref a :: st)) := by
  obtain ⟨hG, ⟨c1, c2, hZ, -⟩, L, X, N, eT, O⟩ := X
  subst hp
  obtain ⟨cl, A, q1, q2⟩ := own_ld F hj hv
  exact hG _ _ _ _ (fun t q => X.aaload c1 (by rw [eT]; exact A.1) (State.isArrayOf_alike hZ.alike A.2.1) hty A.2.2 q1 q2 (g := mkF m pc Ls (.int j :: .ref a :: st)) rfl rfl (hb c2 hd) _ q) k
theorem own_arraylength (X : own_At G p l e R s0 s EL P m args below meth c Z n0 own nm bytes maxL ret T h cells slots) {pc pc' : Nat} {Ls : Array Slot} {st : List Value} {ty : FieldType} {a : Addr} {kc : ClassId} {vs : List Value} {z : Int32} (F : own_Arr Z h a kc ty vs) (hz : Int32.ofNat vs.length = z) (hd : decode bytes pc = .ok (.arraylength, 1)) (hp : pc' = pc + 1) (k : G T (mkF m pc' Ls (.int z :: st))) : G T (mkF m pc Ls (.ref a :: st)) := by
  obtain ⟨hG, ⟨c1, c2, hZ, -⟩, L, X, N, eT, O⟩ := X
  subst hp
  obtain ⟨cl, A, r1, r2, r3, r4⟩ := F
  have hs : cl.slots.size = vs.length := by rw [← r2]; simp
  exact hG _ _ _ _ (fun t q => X.arraylength c1 (by rw [eT]; exact A.1) (State.isArrayOf_alike hZ.alike A.2.1) (g := mkF m pc Ls (.ref a :: st)) rfl rfl (hb c2 hd) _ (by rw [hs, show vs.length.toInt32 = z from hz]; exact q)) k
theorem own_Arr.set {h' : Heap} {a : Addr} {k : ClassId} {ty : FieldType} {vs : List Value} {i : Nat} {v : Value} (F : own_Arr Z h a k ty vs) (W : Wr h h' a i v) (hv : fits ty v = true) : own_Arr Z h' a k ty (vs.set i v) := by
  obtain ⟨c, A, r1, r2, r3, r4⟩ := F
  refine ⟨_, A.same W, r1, ?_, by simpa using r3, fun x hx => ?_⟩
  · simp [Cell.setSlot, r2]
  · rcases List.mem_or_eq_of_mem_set hx with q | q
    · exact r4 _ q
    · rw [q]; exact hv
theorem own_newA (cA : ClassId) (ty : FieldType) (n : Int32) : (newA cA ty n).slots.toList = List.replicate n.toNatClampNeg (defaultValue ty) := by simp [newA]
theorem own_defit (aty : ArrayType) : fits (newarray.typeOf aty) (defaultValue (newarray.typeOf aty)) = true := by cases aty <;> rfl
theorem own_newarray (X : own_At G p l e R s0 s EL P m args below meth c Z n0 own nm bytes maxL ret T h cells slots) {pc pc' cells' slots' : Nat} {Ls : Array Slot} {st : List Value} {aty : ArrayType} {ty : FieldType} {z : Int32} {n : Nat} {dv : Value} (w : (Cond.arrayClass ty).before a0 Z = true) (ht : newarray.typeOf aty = ty) (hdv : defaultValue ty = dv) (hz : z.toInt = n) (hn : n ≤ 60000000) (hd : decode bytes pc = .ok (.newarray aty, 2)) (hp : pc' = pc + 2) (ec : cells' = cells + 1) {cap : Nat} (hcap : n ≤ cap) (hbig : cap ≤ 60000000) (es : slots' = slots + cap) (hc : cells' ≤ R.cells) (hl : slots' ≤ R.slots)
    (k : ∀ T' h' a kc, a = h.size → own_At G p l e R s0 s EL P m args below meth c Z n0 own nm bytes maxL ret T' h' cells' slots' → Keep h h' [] → own_Arr Z h' a kc ty (List.replicate n dv) → G T' (mkF m pc' Ls (.ref a :: st))) : G T (mkF m pc Ls (.int z :: st)) := by
  obtain ⟨hG, ⟨c1, c2, hZ, c5⟩, L, X, N, eT, O⟩ := X
  subst hp ec es ht hdv
  have hz0 : ¬ z < 0 := by rw [Int32.lt_iff_toInt_lt, hz]; simp
  have hzn : z.toNatClampNeg = n := by simp only [Int32.toNatClampNeg, hz]; omega
  obtain ⟨T', h', cA, X', e', E', A', st'⟩ := newP X c1 hZ w eT (g := mkF m pc Ls (.int z :: st)) rfl (hb c2 hd) rfl hz0 (cap := cap) (by omega) (by omega) hc hl
  refine hG _ _ _ _ st' (k _ _ _ cA rfl ⟨hG, ⟨c1, c2, hZ, c5⟩, _, X', N, e', O.ext E'⟩ ((Keep.refl _ _).ext E') ⟨_, A', rfl, by rw [own_newA, hzn], by simp; omega, fun v hv => ?_⟩)
  rw [List.eq_of_mem_replicate hv]; exact own_defit aty
theorem own_newarrayK (X : own_At G p l e R s0 s EL P m args below meth c Z n0 own nm bytes maxL ret T h cells slots) {pc pc' cells' slots' : Nat} {Ls : Array Slot} {st : List Value} {aty : ArrayType} {ty : FieldType} {z : Int32} {n : Nat} {dv : Value} (w : (Cond.arrayClass ty).before a0 Z = true) (ht : newarray.typeOf aty = ty) (hdv : defaultValue ty = dv) (hz : z.toInt = n) (hn : n ≤ 60000000) (hd : decode bytes pc = .ok (.newarray aty, 2)) (hp : pc' = pc + 2) (ec : cells' = cells + 1) {cap : Nat} (hcap : n ≤ cap) (hbig : cap ≤ 60000000) (es : slots' = slots + cap) (hc : cells' ≤ R.cells) (hl : slots' ≤ R.slots)
    (k : ∀ T' h' a kc, a = h.size → own_At G p l e R s0 s EL (a :: P) m args below meth c Z n0 own nm bytes maxL ret T' h' cells' slots' → Keep h h' [] → own_Arr Z h' a kc ty (List.replicate n dv) → G T' (mkF m pc' Ls (.ref a :: st))) : G T (mkF m pc Ls (.int z :: st)) := by
  obtain ⟨hG, ⟨c1, c2, hZ, c5⟩, L, X, N, eT, O⟩ := X
  subst hp ec es ht hdv
  have hz0 : ¬ z < 0 := by rw [Int32.lt_iff_toInt_lt, hz]; simp
  have hzn : z.toNatClampNeg = n := by simp only [Int32.toNatClampNeg, hz]; omega
  obtain ⟨T', h', cA, X', e', E', A', st'⟩ := newP X c1 hZ w eT (g := mkF m pc Ls (.int z :: st)) rfl (hb c2 hd) rfl hz0 (cap := cap) (by omega) (by omega) hc hl
  refine hG _ _ _ _ st' (k _ _ _ cA rfl ⟨hG, ⟨c1, c2, hZ, c5⟩, _, X', N, e', O.made E' (Nat.le_refl _) A'.lt⟩ ((Keep.refl _ _).ext E') ⟨_, A', rfl, by rw [own_newA, hzn], by simp; omega, fun v hv => ?_⟩)
  rw [List.eq_of_mem_replicate hv]; exact own_defit aty
theorem own_iastore (X : own_At G p l e R s0 s EL P m args below meth c Z n0 own nm bytes maxL ret T h cells slots) {pc pc' : Nat} {Ls : Array Slot} {st : List Value} {a : Addr} {kc : ClassId} {vs : List Value} {j : Int32} {i : Nat} {x : Int32} (F : own_Arr Z h a kc .int vs) (hj : j.toInt = i) (hi : i < vs.length) (ha : n0 ≤ a) (hd : decode bytes pc = .ok (.iastore, 1)) (hp : pc' = pc + 1)
    (k : ∀ T' h', own_At G p l e R s0 s EL P m args below meth c Z n0 own nm bytes maxL ret T' h' cells slots → Keep h h' [a] → own_Arr Z h' a kc .int (vs.set i (.int x)) → G T' (mkF m pc' Ls st)) : G T (mkF m pc Ls (.int x :: .int j :: .ref a :: st)) := by
  obtain ⟨hG, ⟨c1, c2, hZ, c5⟩, L, X, N, eT, O⟩ := X
  subst hp 
  have F0 := F
  obtain ⟨cl, A, r1, r2, r3, r4⟩ := F
  have hs : cl.slots.size = vs.length := by rw [← r2]; simp
  obtain ⟨q1, q2⟩ := own_idx hi r3 hj
  obtain ⟨T', h', X', e', W', st'⟩ := stI X c1 hZ eT A (j := j) (by rw [hs]; exact q1) (g := mkF m pc Ls (.int x :: .int j :: .ref a :: st)) rfl rfl (hb c2 hd)
  have K' := Keep.of_wr W'
  have O' := O.wr W' ha (Safe.arr hZ.alike A (by decide))
  rw [q2] at W'
  exact hG _ _ _ _ st' (k _ _ ⟨hG, ⟨c1, c2, hZ, c5⟩, _, X', Fr.snoc X' N ha, e', O'⟩ K' (F0.set W' (rfl)))
theorem own_lastore (X : own_At G p l e R s0 s EL P m args below meth c Z n0 own nm bytes maxL ret T h cells slots) {pc pc' : Nat} {Ls : Array Slot} {st : List Value} {a : Addr} {kc : ClassId} {vs : List Value} {j : Int32} {i : Nat} {x : Int64} (F : own_Arr Z h a kc .long vs) (hj : j.toInt = i) (hi : i < vs.length) (ha : n0 ≤ a) (hd : decode bytes pc = .ok (.lastore, 1)) (hp : pc' = pc + 1)
    (k : ∀ T' h', own_At G p l e R s0 s EL P m args below meth c Z n0 own nm bytes maxL ret T' h' cells slots → Keep h h' [a] → own_Arr Z h' a kc .long (vs.set i (.long x)) → G T' (mkF m pc' Ls st)) : G T (mkF m pc Ls (.long x :: .int j :: .ref a :: st)) := by
  obtain ⟨hG, ⟨c1, c2, hZ, c5⟩, L, X, N, eT, O⟩ := X
  subst hp 
  have F0 := F
  obtain ⟨cl, A, r1, r2, r3, r4⟩ := F
  have hs : cl.slots.size = vs.length := by rw [← r2]; simp
  obtain ⟨q1, q2⟩ := own_idx hi r3 hj
  obtain ⟨T', h', X', e', W', st'⟩ := stJ X c1 hZ eT A (j := j) (by rw [hs]; exact q1) (g := mkF m pc Ls (.long x :: .int j :: .ref a :: st)) rfl rfl (hb c2 hd)
  have K' := Keep.of_wr W'
  have O' := O.wr W' ha (Safe.arr hZ.alike A (by decide))
  rw [q2] at W'
  exact hG _ _ _ _ st' (k _ _ ⟨hG, ⟨c1, c2, hZ, c5⟩, _, X', Fr.snoc X' N ha, e', O'⟩ K' (F0.set W' (rfl)))
theorem own_castore (X : own_At G p l e R s0 s EL P m args below meth c Z n0 own nm bytes maxL ret T h cells slots) {pc pc' : Nat} {Ls : Array Slot} {st : List Value} {a : Addr} {kc : ClassId} {vs : List Value} {j : Int32} {i : Nat} {x y : Int32} (F : own_Arr Z h a kc .char vs) (hj : j.toInt = i) (hi : i < vs.length) (hy : nar .char x = y) (ha : n0 ≤ a) (hd : decode bytes pc = .ok (.castore, 1)) (hp : pc' = pc + 1)
    (k : ∀ T' h', own_At G p l e R s0 s EL P m args below meth c Z n0 own nm bytes maxL ret T' h' cells slots → Keep h h' [a] → own_Arr Z h' a kc .char (vs.set i (.int y)) → G T' (mkF m pc' Ls st)) : G T (mkF m pc Ls (.int x :: .int j :: .ref a :: st)) := by
  obtain ⟨hG, ⟨c1, c2, hZ, c5⟩, L, X, N, eT, O⟩ := X
  subst hp hy
  have F0 := F
  obtain ⟨cl, A, r1, r2, r3, r4⟩ := F
  have hs : cl.slots.size = vs.length := by rw [← r2]; simp
  obtain ⟨q1, q2⟩ := own_idx hi r3 hj
  obtain ⟨T', h', X', e', W', st'⟩ := stC X c1 hZ eT A (j := j) (by rw [hs]; exact q1) (g := mkF m pc Ls (.int x :: .int j :: .ref a :: st)) rfl rfl (hb c2 hd)
  have K' := Keep.of_wr W'
  have O' := O.wr W' ha (Safe.arr hZ.alike A (by decide))
  rw [q2] at W'
  exact hG _ _ _ _ st' (k _ _ ⟨hG, ⟨c1, c2, hZ, c5⟩, _, X', Fr.snoc X' N ha, e', O'⟩ K' (F0.set W' (fits_nar_char _)))
theorem own_bastore (X : own_At G p l e R s0 s EL P m args below meth c Z n0 own nm bytes maxL ret T h cells slots) {pc pc' : Nat} {Ls : Array Slot} {st : List Value} {a : Addr} {kc : ClassId} {vs : List Value} {j : Int32} {i : Nat} {x y : Int32} (F : own_Arr Z h a kc .byte vs) (hj : j.toInt = i) (hi : i < vs.length) (hy : nar .byte x = y) (ha : n0 ≤ a) (hsf : a ∈ P) (hd : decode bytes pc = .ok (.bastore, 1)) (hp : pc' = pc + 1)
    (k : ∀ T' h', own_At G p l e R s0 s EL P m args below meth c Z n0 own nm bytes maxL ret T' h' cells slots → Keep h h' [a] → own_Arr Z h' a kc .byte (vs.set i (.int y)) → G T' (mkF m pc' Ls st)) : G T (mkF m pc Ls (.int x :: .int j :: .ref a :: st)) := by
  obtain ⟨hG, ⟨c1, c2, hZ, c5⟩, L, X, N, eT, O⟩ := X
  subst hp hy
  have F0 := F
  obtain ⟨cl, A, r1, r2, r3, r4⟩ := F
  have hs : cl.slots.size = vs.length := by rw [← r2]; simp
  obtain ⟨q1, q2⟩ := own_idx hi r3 hj
  obtain ⟨T', h', X', e', W', st'⟩ := stB X c1 hZ eT A (j := j) (by rw [hs]; exact q1) (g := mkF m pc Ls (.int x :: .int j :: .ref a :: st)) rfl rfl (hb c2 hd)
  have K' := Keep.of_wr W'
  have O' := O.wr W' ha (O.2.2.2.2 a hsf).1
  rw [q2] at W'
  exact hG _ _ _ _ st' (k _ _ ⟨hG, ⟨c1, c2, hZ, c5⟩, _, X', Fr.snoc X' N ha, e', O'⟩ K' (F0.set W' (fits_nar_byte _)))
theorem own_callS (X : own_At G p l e R s0 s EL P m args below meth c Z n0 own nm bytes maxL ret T h cells slots) {pc pc' cells' slots' : Nat} {Ls : Array Slot} {st argsL rest : List Value} {i kc ks W : Nat} {as' : Array Value} {QQ : Option Value → Heap → List Loc → Prop} {Q : Option Value → Heap → Prop} {y : MethodName} {bytes' : ByteArray} {maxL' : Nat} {ret' : Option FieldType} (w1 : (Cond.methodLink own i y).before a0 Z = true) (w2 : (Cond.static y).before a0 Z = true) (w3 : (Cond.initialized y.cls).before a0 Z = true) (w4 : (Cond.code y bytes' maxL' ret').before a0 Z = true) (hy : y.cls ≠ "java/lang/invoke/MethodHandle" ∧ y.cls ≠ "java/lang/invoke/VarHandle") (B : ∀ (hZ : Z.Warmed39 s.vm), Back l R p e below s args y 3 W (fun A a => a = as' ∧ A.U.heap = h ∧ A.cells + kc ≤ R.cells ∧ A.slots + ks ≤ R.slots) (fun A _ v B => ∃ L, QQ v B.U.heap L ∧ B.locs = A.locs ++ L ∧ B.cells = A.cells + kc ∧ B.slots = A.slots + ks)) (hQ : ∀ v h' L, QQ v h' L → Q v h' ∧ Fr n0 L ∧ ∃ ws, Keep h h' ws ∧ ∀ x ∈ ws, n0 ≤ x ∧ x ∈ P) (hsz : Ls.size = maxL) (hlen : ∀ sig, parseMethodDescriptor y.desc = some sig → argsL.length = sig.parameters.length) (hs : st = argsL.reverse ++ rest) (hW : (rest.map fun v => v.category).sum = W) (hd : decode bytes pc = .ok (.invokestatic i, 3)) (hp : pc' = pc + 3) (ha : argsL.toArray = as') (ec : cells' = cells + kc) (es : slots' = slots + ks) (hc : cells' ≤ R.cells) (hl : slots' ≤ R.slots)
    (k : ∀ v T' h', own_At G p l e R s0 s EL P m args below meth c Z n0 own nm bytes maxL ret T' h' cells' slots' → Q v h' → G T' (mkF m pc' Ls (v.toList ++ rest))) : G T (mkF m pc Ls st) := by
  obtain ⟨hG, ⟨c1, c2, hZ, hown, c5, c6⟩, L, X, N, eT, O⟩ := X
  subst hp ec es ha hs
  obtain ⟨v, vm₁, ⟨T', L', k', n'⟩, -, X', ⟨Lc, hq, l', y', z'⟩, st'⟩ := Jvm.LawKit.callS X c1 hown (mvT hZ w1) (mvT hZ w2) (mvT hZ w3) (mvT hZ w4) hy (B hZ) (g := mkF m pc Ls (argsL.reverse ++ rest)) rfl (hsz.trans c5.symm) hlen rfl (by show 2 * 0 + _ ≤ _; rw [hW]; omega) (hb c2 hd) (fun _ _ => ⟨rfl, eT, hc, hl⟩)
  dsimp only [Pt.U, Pt.locs, Pt.cells, Pt.slots] at X' l' y' z' st' hq
  subst l' y' z'
  obtain ⟨q1, q2, ws, q3, q4⟩ := hQ _ _ _ hq
  exact hG _ _ _ _ st' (k _ _ _ ⟨hG, ⟨c1, c2, hZ, hown, c5, c6⟩, _, X', Fr.app N q2, rfl, O.keepS q3 (fun x hx => (q4 x hx).1) (fun x hx => (O.2.2.2.2 x (q4 x hx).2).1)⟩ q1)
theorem own_callI (X : own_At G p l e R s0 s EL P m args below meth c Z n0 own nm bytes maxL ret T h cells slots) {pc pc' cells' slots' : Nat} {Ls : Array Slot} {st argsL rest : List Value} {i kc ks W : Nat} {as' : Array Value} {QQ : Option Value → Heap → List Loc → Prop} {Q : Option Value → Heap → Prop} {y : MethodName} {bytes' : ByteArray} {maxL' : Nat} {a : Addr} (w1 : (Cond.methodLink own i y).before a0 Z = true) (w2 : (Cond.instanceMethod y).before a0 Z = true) (w4 : (Cond.code y bytes' maxL' none).before a0 Z = true) (hy0 : y.name = "<init>") (hy : y.cls ≠ "java/lang/invoke/MethodHandle" ∧ y.cls ≠ "java/lang/invoke/VarHandle") (B : ∀ (hZ : Z.Warmed39 s.vm), Back l R p e below s args y 3 W (fun A a => a = as' ∧ A.U.heap = h ∧ A.cells + kc ≤ R.cells ∧ A.slots + ks ≤ R.slots) (fun A _ v B => ∃ L, QQ v B.U.heap L ∧ B.locs = A.locs ++ L ∧ B.cells = A.cells + kc ∧ B.slots = A.slots + ks)) (hQ : ∀ v h' L, QQ v h' L → Q v h' ∧ Fr n0 L ∧ ∃ ws, Keep h h' ws ∧ ∀ x ∈ ws, n0 ≤ x ∧ x ∈ P) (hsz : Ls.size = maxL) (hlen : ∀ sig, parseMethodDescriptor y.desc = some sig → argsL.length = sig.parameters.length) (hs : st = argsL.reverse ++ Value.ref a :: rest) (hW : (rest.map fun v => v.category).sum = W) (hd : decode bytes pc = .ok (.invokespecial i, 3)) (hp : pc' = pc + 3) (ha : (Value.ref a :: argsL).toArray = as') (ec : cells' = cells + kc) (es : slots' = slots + ks) (hc : cells' ≤ R.cells) (hl : slots' ≤ R.slots)
    (k : ∀ v T' h', own_At G p l e R s0 s EL P m args below meth c Z n0 own nm bytes maxL ret T' h' cells' slots' → Q v h' → G T' (mkF m pc' Ls (v.toList ++ rest))) : G T (mkF m pc Ls st) := by
  obtain ⟨hG, ⟨c1, c2, hZ, hown, c5, c6⟩, L, X, N, eT, O⟩ := X
  subst hp ec es ha hs
  obtain ⟨v, vm₁, ⟨T', L', k', n'⟩, -, X', ⟨Lc, hq, l', y', z'⟩, st'⟩ := Jvm.LawKit.callI X c1 hown hy0 (mvT hZ w1) (mvT hZ w2) (mvT hZ w4) hy (B hZ) (g := mkF m pc Ls (argsL.reverse ++ Value.ref a :: rest)) rfl (hsz.trans c5.symm) hlen rfl (by show 2 * 0 + _ ≤ _; rw [hW]; omega) (hb c2 hd) (fun _ _ => ⟨rfl, eT, hc, hl⟩)
  dsimp only [Pt.U, Pt.locs, Pt.cells, Pt.slots] at X' l' y' z' st' hq
  subst l' y' z'
  obtain ⟨q1, q2, ws, q3, q4⟩ := hQ _ _ _ hq
  exact hG _ _ _ _ st' (k _ _ _ ⟨hG, ⟨c1, c2, hZ, hown, c5, c6⟩, _, X', Fr.app N q2, rfl, O.keepS q3 (fun x hx => (q4 x hx).1) (fun x hx => (O.2.2.2.2 x (q4 x hx).2).1)⟩ q1)
theorem own_callV (X : own_At G p l e R s0 s EL P m args below meth c Z n0 own nm bytes maxL ret T h cells slots) {pc pc' cells' slots' : Nat} {Ls : Array Slot} {st argsL rest : List Value} {i kc ks W : Nat} {as' : Array Value} {QQ : Option Value → Heap → List Loc → Prop} {Q : Option Value → Heap → Prop} {y z : MethodName} {C : String} {a : Addr} (w1 : (Cond.methodLink own i y).before a0 Z = true) (w2 : (Cond.declares y).before a0 Z = true) (nf : ∀ s' : State, Z.Warmed39 s'.vm → NotFace s' y) (w3 : (Cond.selects C y z).before a0 Z = true) (w4 : (Cond.instanceMethod z).before a0 Z = true) (hy : y.cls ≠ "java/lang/invoke/MethodHandle" ∧ y.cls ≠ "java/lang/invoke/VarHandle") (E : Exa Z h a C) (B : ∀ (hZ : Z.Warmed39 s.vm), Back l R p e below s args z 3 W (fun A a => a = as' ∧ A.U.heap = h ∧ A.cells + kc ≤ R.cells ∧ A.slots + ks ≤ R.slots) (fun A _ v B => ∃ L, QQ v B.U.heap L ∧ B.locs = A.locs ++ L ∧ B.cells = A.cells + kc ∧ B.slots = A.slots + ks)) (hQ : ∀ v h' L, QQ v h' L → Q v h' ∧ Fr n0 L ∧ ∃ ws, Keep h h' ws ∧ ∀ x ∈ ws, n0 ≤ x ∧ x ∈ P) (hsz : Ls.size = maxL) (hlen : ∀ sig, parseMethodDescriptor y.desc = some sig → argsL.length = sig.parameters.length) (hs : st = argsL.reverse ++ Value.ref a :: rest) (hW : (rest.map fun v => v.category).sum = W) (hd : decode bytes pc = .ok (.invokevirtual i, 3)) (hp : pc' = pc + 3) (ha : (Value.ref a :: argsL).toArray = as') (ec : cells' = cells + kc) (es : slots' = slots + ks) (hc : cells' ≤ R.cells) (hl : slots' ≤ R.slots)
    (k : ∀ v T' h', own_At G p l e R s0 s EL P m args below meth c Z n0 own nm bytes maxL ret T' h' cells' slots' → Q v h' → G T' (mkF m pc' Ls (v.toList ++ rest))) : G T (mkF m pc Ls st) := by
  obtain ⟨hG, ⟨c1, c2, hZ, hown, c5, c6⟩, L, X, N, eT, O⟩ := X
  subst hp ec es ha hs
  obtain ⟨v, vm₁, ⟨T', L', k', n'⟩, -, X', ⟨Lc, hq, l', y', z'⟩, st'⟩ := (have ⟨_, _, q1, _, q3⟩ := isOf hZ eT E; X.virtualBack c1 hown (mvT hZ w1) (mvT hZ w2) (nf s hZ) (mvT hZ w3) (mvT hZ w4) hy (B hZ) q1 q3 (g := mkF m pc Ls (argsL.reverse ++ Value.ref a :: rest)) rfl (hsz.trans c5.symm) (Steps.refl _) hlen rfl (by show 2 * 0 + _ ≤ _; rw [hW]; omega) (hb c2 hd) (fun _ _ => ⟨rfl, eT, hc, hl⟩))
  dsimp only [Pt.U, Pt.locs, Pt.cells, Pt.slots] at X' l' y' z' st' hq
  subst l' y' z'
  obtain ⟨q1, q2, ws, q3, q4⟩ := hQ _ _ _ hq
  exact hG _ _ _ _ (fun t q => st'.trans q) (k _ _ _ ⟨hG, ⟨c1, c2, hZ, hown, c5, c6⟩, _, X', Fr.app N q2, rfl, O.keepS q3 (fun x hx => (q4 x hx).1) (fun x hx => (O.2.2.2.2 x (q4 x hx).2).1)⟩ q1)
theorem own_callF (X : own_At G p l e R s0 s EL P m args below meth c Z n0 own nm bytes maxL ret T h cells slots) {pc pc' cells' slots' : Nat} {Ls : Array Slot} {st argsL rest : List Value} {i kc ks W : Nat} {as' : Array Value} {QQ : Option Value → Heap → List Loc → Prop} {Q : Option Value → Heap → Prop} {y z : MethodName} {C : String} {a : Addr} {cnt : Nat} (w1 : (Cond.methodLink own i y).before a0 Z = true) (w2 : (Cond.declares y).before a0 Z = true) (wf : ∀ (s' : State) (a' : Array Value), Z.Warmed39 s'.vm → (Cond.interfaceMethod y.cls y.cls y.name y.desc).before a' s' = true) (w3 : (Cond.selects C y z).before a0 Z = true) (w4 : (Cond.instanceMethod z).before a0 Z = true) (w5 : (Cond.publicMethod z).before a0 Z = true) (w6 : (Cond.unhidden C y.name y.desc).before a0 Z = true) (w7 : (Cond.castable C y.cls).before a0 Z = true) (hy : y.cls ≠ "java/lang/invoke/MethodHandle" ∧ y.cls ≠ "java/lang/invoke/VarHandle") (E : Exa Z h a C) (B : ∀ (hZ : Z.Warmed39 s.vm), Back l R p e below s args z 5 W (fun A a => a = as' ∧ A.U.heap = h ∧ A.cells + kc ≤ R.cells ∧ A.slots + ks ≤ R.slots) (fun A _ v B => ∃ L, QQ v B.U.heap L ∧ B.locs = A.locs ++ L ∧ B.cells = A.cells + kc ∧ B.slots = A.slots + ks)) (hQ : ∀ v h' L, QQ v h' L → Q v h' ∧ Fr n0 L ∧ ∃ ws, Keep h h' ws ∧ ∀ x ∈ ws, n0 ≤ x ∧ x ∈ P) (hsz : Ls.size = maxL) (hlen : ∀ sig, parseMethodDescriptor y.desc = some sig → argsL.length = sig.parameters.length) (hs : st = argsL.reverse ++ Value.ref a :: rest) (hW : (rest.map fun v => v.category).sum = W) (hd : decode bytes pc = .ok (.invokeinterface i cnt, 5)) (hp : pc' = pc + 5) (ha : (Value.ref a :: argsL).toArray = as') (ec : cells' = cells + kc) (es : slots' = slots + ks) (hc : cells' ≤ R.cells) (hl : slots' ≤ R.slots)
    (k : ∀ v T' h', own_At G p l e R s0 s EL P m args below meth c Z n0 own nm bytes maxL ret T' h' cells' slots' → Q v h' → G T' (mkF m pc' Ls (v.toList ++ rest))) : G T (mkF m pc Ls st) := by
  obtain ⟨hG, ⟨c1, c2, hZ, hown, c5, c6⟩, L, X, N, eT, O⟩ := X
  subst hp ec es ha hs
  obtain ⟨v, vm₁, ⟨T', L', k', n'⟩, -, X', ⟨Lc, hq, l', y', z'⟩, st'⟩ := (have ⟨_, _, q1, q2, q3⟩ := isOf hZ eT E; X.interfaceBack c1 hown (mvT hZ w1) (mvT hZ w2) (wf s args hZ) (mvT hZ w3) (mvT hZ w4) (mvT hZ w5) (mvT hZ w6) (mvT hZ w7) hy (B hZ) q1 q2 q3 (g := mkF m pc Ls (argsL.reverse ++ Value.ref a :: rest)) rfl (hsz.trans c5.symm) (Steps.refl _) hlen rfl (by show 2 * 0 + _ ≤ _; rw [hW]; omega) (hb c2 hd) (fun _ _ => ⟨rfl, eT, hc, hl⟩))
  dsimp only [Pt.U, Pt.locs, Pt.cells, Pt.slots] at X' l' y' z' st' hq
  subst l' y' z'
  obtain ⟨q1, q2, ws, q3, q4⟩ := hQ _ _ _ hq
  exact hG _ _ _ _ (fun t q => st'.trans q) (k _ _ _ ⟨hG, ⟨c1, c2, hZ, hown, c5, c6⟩, _, X', Fr.app N q2, rfl, O.keepS q3 (fun x hx => (q4 x hx).1) (fun x hx => (O.2.2.2.2 x (q4 x hx).2).1)⟩ q1)
theorem own_back {y : MethodName} {bytes' : ByteArray} {maxL' : Nat} {ret' : Option FieldType} {rm : Room} {as' : Array Value} {Q : Option Value → Heap → Prop} {P' : List Addr} {len W : Nat} (hM : own_Met l Z EL P' n0 y bytes' maxL' ret' rm as' h Q) (hZ : Z.Warmed39 s.vm) (O : own_Ok s0 s EL P Z n0 h) (hP : ∀ x ∈ P', x ∈ P) (wc : (Jvm.Cond.code y bytes' maxL' ret').before a0 Z = true) (wz : (Jvm.Cond.initialized y.cls).before a0 Z = true) (hf : rm.frames + 1 ≤ R.frames) (hl : W + (maxL' + 11) + rm.locals ≤ R.locals) :
    BackS l R p e below s args y len W (fun A a => a = as' ∧ A.U.heap = h ∧ A.cells + rm.cells ≤ R.cells ∧ A.slots + rm.slots ≤ R.slots)
      (fun A _ v B => ∃ L, (Q v B.U.heap ∧ Fr n0 L ∧ Old Z n0 B.U.heap) ∧ B.locs = A.locs ++ L ∧ B.cells = A.cells + rm.cells ∧ B.slots = A.slots + rm.slots ∧ CHr Z EL s.vm h B.U.vm B.U.heap) := by
  obtain ⟨-, -, ⟨a1, hE⟩, H, hS⟩ := O
  have at' : ∀ {m : MethodId} {meth : Method} {c : Code} {T : State} {locs : List Loc} {k n : Nat}, Stand p l e R s m args below meth c T locs k n → CHr Z EL s.vm h T.vm h := fun Y => by
    have q := CHv.later (h' := h) hZ (hW := (show (Wst Z s.vm h).Warmed39 _ from Y.warmed.wide)) hE ⟨Nat.le_refl _, fun _ _ q => q⟩ (Or.inl Y.warmed.interned_eq) H.1
    exact ⟨q.1, Nat.le_refl _, q.2⟩
  exact BackS.of_freeW (bytes := bytes') (maxL := maxL') (ret := ret') (E := fun _ first o t L k n => k = rm.cells ∧ n = rm.slots ∧ (∃ v, o = .returned v ∧ Q v t.heap ∧ Fr n0 L ∧ Old Z n0 t.heap) ∧ CHr Z EL first.vm first.heap t.vm t.heap) (hM []) hf hl
    (fun m meth c A a Y hp => have hU : Z.Warmed39 A.U.vm := wtrans hZ Y.warmed
      ⟨by show (Cond.and _ .tt).before a A.U = true; rw [Cond.before_and, mv hU wc]; rfl, mv hU wc, mv hU wz, hp.2.2.1, hp.2.2.2⟩)
    (fun m meth c A a g mk Y hp => ⟨hp.1, wtrans hZ Y.warmed, hp.2.1, (at' Y).1, fun x hx => ⟨(at' Y).safe (hS x (hP x hx)).2 (hS x (hP x hx)).1, (hS x (hP x hx)).2⟩⟩) (fun _ _ _ _ _ _ _ _ _ => trivial)
    (fun _ _ _ _ ⟨v, L, h1, h2, h3, h4⟩ => ⟨L, _, _, h4, rfl, rfl, ⟨v, h1, h2⟩, h3⟩)
    (fun m meth c A a g mk v t L k n Y hp _ _ ⟨e1, e2, ⟨v', e3, e4⟩, e5⟩ => by
      cases e3; subst e1 e2
      refine ⟨L, e4, rfl, rfl, rfl, (at' Y).trans ?_⟩
      rw [← hp.2.1]; exact e5)
theorem own_Ok.called {U : State} (O : own_Ok s0 s EL P Z n0 h) (hS : s.Since U.vm U.heap.size) (g : h.size ≤ U.heap.size) (O' : Old Z n0 U.heap) (A : CHr Z EL s.vm h U.vm U.heap) : own_Ok s0 (s.setVm U.vm) EL P Z n0 U.heap := by
  obtain ⟨-, ⟨e1, k0, e2, e3⟩, e4, e5, e6⟩ := O
  refine ⟨O', ⟨by rw [e1]; rfl, _, e2.trans (vm₂ := U.vm) (by rw [← e1]; exact hS) (Nat.le_trans e3 g), Nat.le_refl _⟩, e4, e5.trans A, fun x hx => ⟨A.safe (e6 x hx).2 (e6 x hx).1, Nat.lt_of_lt_of_le (e6 x hx).2 g⟩⟩

theorem own_callSM (X : own_At G p l e R s0 s EL P m args below meth c Z n0 own nm bytes maxL ret T h cells slots) {pc pc' cells' slots' : Nat} {Ls : Array Slot} {st argsL rest : List Value} {i W : Nat} {as' : Array Value} {Q : Option Value → Heap → Prop} {rm : Room} {P' : List Addr} {y : MethodName} {bytes' : ByteArray} {maxL' : Nat} {ret' : Option FieldType} (w1 : (Cond.methodLink own i y).before a0 Z = true) (w2 : (Cond.static y).before a0 Z = true) (hy : y.cls ≠ "java/lang/invoke/MethodHandle" ∧ y.cls ≠ "java/lang/invoke/VarHandle") (M : own_Met l Z EL P' n0 y bytes' maxL' ret' rm as' h Q) (hPP : ∀ x ∈ P', x ∈ P) (wc : (Jvm.Cond.code y bytes' maxL' ret').before a0 Z = true) (wz : (Jvm.Cond.initialized y.cls).before a0 Z = true) (hf : rm.frames + 1 ≤ R.frames) (hlo : W + (maxL' + 11) + rm.locals ≤ R.locals) (hsz : Ls.size = maxL) (hlen : ∀ sig, parseMethodDescriptor y.desc = some sig → argsL.length = sig.parameters.length) (hs : st = argsL.reverse ++ rest) (hW : (rest.map fun v => v.category).sum = W) (hd : decode bytes pc = .ok (.invokestatic i, 3)) (hp : pc' = pc + 3) (ha : argsL.toArray = as') (ec : cells' = cells + rm.cells) (es : slots' = slots + rm.slots) (hc : cells' ≤ R.cells) (hl : slots' ≤ R.slots)
    (k : ∀ v T' h' s', own_At G p l e R s0 s' EL P m args below meth c Z n0 own nm bytes maxL ret T' h' cells' slots' → Q v h' → G T' (mkF m pc' Ls (v.toList ++ rest))) : G T (mkF m pc Ls st) := by
  obtain ⟨hG, ⟨c1, c2, hZ, hown, c5, c6⟩, L, X, N, eT, O⟩ := X
  subst hp ec es ha hs
  obtain ⟨v, vm₁, ⟨T', L', k', n'⟩, -, X', hS, hg, ⟨Lc, hq, l', y', z', hA⟩, st'⟩ := callSS X c1 hown (mvT hZ w1) (mvT hZ w2) (mvT hZ wz) (mvT hZ wc) hy (own_back M hZ O hPP wc wz hf hlo) (g := mkF m pc Ls (argsL.reverse ++ rest)) rfl (hsz.trans c5.symm) hlen rfl (by show 2 * 0 + _ ≤ _; rw [hW]; omega) (hb c2 hd) (fun _ _ => ⟨rfl, eT, hc, hl⟩)
  dsimp only [Pt.U, Pt.locs, Pt.cells, Pt.slots] at X' l' y' z' st' hq hS hg hA
  subst l' y' z'
  obtain ⟨q1, q2, q3⟩ := hq
  rw [eT] at hg
  exact hG _ _ _ _ (fun t q => st'.trans q) (k _ _ _ (s.setVm T'.vm) ⟨hG, ⟨c1, c2, State.Warmed39.trans (t := s) hZ hS.1, (hS.1.alike.findClass _ _).trans hown, c5, c6⟩, _, X', Fr.app N q2, rfl, O.called hS hg q3 hA⟩ q1)
theorem own_callIM (X : own_At G p l e R s0 s EL P m args below meth c Z n0 own nm bytes maxL ret T h cells slots) {pc pc' cells' slots' : Nat} {Ls : Array Slot} {st argsL rest : List Value} {i W : Nat} {as' : Array Value} {Q : Option Value → Heap → Prop} {rm : Room} {P' : List Addr} {y : MethodName} {bytes' : ByteArray} {maxL' : Nat} {a : Addr} (w1 : (Cond.methodLink own i y).before a0 Z = true) (w2 : (Cond.instanceMethod y).before a0 Z = true) (hy0 : y.name = "<init>") (hy : y.cls ≠ "java/lang/invoke/MethodHandle" ∧ y.cls ≠ "java/lang/invoke/VarHandle") (M : own_Met l Z EL P' n0 y bytes' maxL' none rm as' h Q) (hPP : ∀ x ∈ P', x ∈ P) (wc : (Jvm.Cond.code y bytes' maxL' none).before a0 Z = true) (wz : (Jvm.Cond.initialized y.cls).before a0 Z = true) (hf : rm.frames + 1 ≤ R.frames) (hlo : W + (maxL' + 11) + rm.locals ≤ R.locals) (hsz : Ls.size = maxL) (hlen : ∀ sig, parseMethodDescriptor y.desc = some sig → argsL.length = sig.parameters.length) (hs : st = argsL.reverse ++ Value.ref a :: rest) (hW : (rest.map fun v => v.category).sum = W) (hd : decode bytes pc = .ok (.invokespecial i, 3)) (hp : pc' = pc + 3) (ha : (Value.ref a :: argsL).toArray = as') (ec : cells' = cells + rm.cells) (es : slots' = slots + rm.slots) (hc : cells' ≤ R.cells) (hl : slots' ≤ R.slots)
    (k : ∀ v T' h' s', own_At G p l e R s0 s' EL P m args below meth c Z n0 own nm bytes maxL ret T' h' cells' slots' → Q v h' → G T' (mkF m pc' Ls (v.toList ++ rest))) : G T (mkF m pc Ls st) := by
  obtain ⟨hG, ⟨c1, c2, hZ, hown, c5, c6⟩, L, X, N, eT, O⟩ := X
  subst hp ec es ha hs
  obtain ⟨v, vm₁, ⟨T', L', k', n'⟩, -, X', hS, hg, ⟨Lc, hq, l', y', z', hA⟩, st'⟩ := X.specialBackS c1 hy0 hown (mvT hZ w1) (mvT hZ w2) (mvT hZ wc) hy (own_back M hZ O hPP wc wz hf hlo) (g := mkF m pc Ls (argsL.reverse ++ Value.ref a :: rest)) rfl (hsz.trans c5.symm) (Steps.refl _) hlen rfl (by show 2 * 0 + _ ≤ _; rw [hW]; omega) (hb c2 hd) (fun _ _ => ⟨rfl, eT, hc, hl⟩)
  dsimp only [Pt.U, Pt.locs, Pt.cells, Pt.slots] at X' l' y' z' st' hq hS hg hA
  subst l' y' z'
  obtain ⟨q1, q2, q3⟩ := hq
  rw [eT] at hg
  exact hG _ _ _ _ (fun t q => st'.trans q) (k _ _ _ (s.setVm T'.vm) ⟨hG, ⟨c1, c2, State.Warmed39.trans (t := s) hZ hS.1, (hS.1.alike.findClass _ _).trans hown, c5, c6⟩, _, X', Fr.app N q2, rfl, O.called hS hg q3 hA⟩ q1)
theorem own_callVM (X : own_At G p l e R s0 s EL P m args below meth c Z n0 own nm bytes maxL ret T h cells slots) {pc pc' cells' slots' : Nat} {Ls : Array Slot} {st argsL rest : List Value} {i W : Nat} {as' : Array Value} {Q : Option Value → Heap → Prop} {rm : Room} {P' : List Addr} {y z : MethodName} {C : String} {a : Addr} {bytes' : ByteArray} {maxL' : Nat} {ret' : Option FieldType} (w1 : (Cond.methodLink own i y).before a0 Z = true) (w2 : (Cond.declares y).before a0 Z = true) (nf : ∀ s' : State, Z.Warmed39 s'.vm → NotFace s' y) (w3 : (Cond.selects C y z).before a0 Z = true) (w4 : (Cond.instanceMethod z).before a0 Z = true) (hy : y.cls ≠ "java/lang/invoke/MethodHandle" ∧ y.cls ≠ "java/lang/invoke/VarHandle") (E : Exa Z h a C) (M : own_Met l Z EL P' n0 z bytes' maxL' ret' rm as' h Q) (hPP : ∀ x ∈ P', x ∈ P) (wc : (Jvm.Cond.code z bytes' maxL' ret').before a0 Z = true) (wz : (Jvm.Cond.initialized z.cls).before a0 Z = true) (hf : rm.frames + 1 ≤ R.frames) (hlo : W + (maxL' + 11) + rm.locals ≤ R.locals) (hsz : Ls.size = maxL) (hlen : ∀ sig, parseMethodDescriptor y.desc = some sig → argsL.length = sig.parameters.length) (hs : st = argsL.reverse ++ Value.ref a :: rest) (hW : (rest.map fun v => v.category).sum = W) (hd : decode bytes pc = .ok (.invokevirtual i, 3)) (hp : pc' = pc + 3) (ha : (Value.ref a :: argsL).toArray = as') (ec : cells' = cells + rm.cells) (es : slots' = slots + rm.slots) (hc : cells' ≤ R.cells) (hl : slots' ≤ R.slots)
    (k : ∀ v T' h' s', own_At G p l e R s0 s' EL P m args below meth c Z n0 own nm bytes maxL ret T' h' cells' slots' → Q v h' → G T' (mkF m pc' Ls (v.toList ++ rest))) : G T (mkF m pc Ls st) := by
  obtain ⟨hG, ⟨c1, c2, hZ, hown, c5, c6⟩, L, X, N, eT, O⟩ := X
  subst hp ec es ha hs
  obtain ⟨v, vm₁, ⟨T', L', k', n'⟩, -, X', hS, hg, ⟨Lc, hq, l', y', z', hA⟩, st'⟩ := (have ⟨_, _, q1, _, q3⟩ := isOf hZ eT E; X.virtualBackS c1 hown (mvT hZ w1) (mvT hZ w2) (nf s hZ) (mvT hZ w3) (mvT hZ w4) hy (own_back M hZ O hPP wc wz hf hlo) q1 q3 (g := mkF m pc Ls (argsL.reverse ++ Value.ref a :: rest)) rfl (hsz.trans c5.symm) (Steps.refl _) hlen rfl (by show 2 * 0 + _ ≤ _; rw [hW]; omega) (hb c2 hd) (fun _ _ => ⟨rfl, eT, hc, hl⟩))
  dsimp only [Pt.U, Pt.locs, Pt.cells, Pt.slots] at X' l' y' z' st' hq hS hg hA
  subst l' y' z'
  obtain ⟨q1, q2, q3⟩ := hq
  rw [eT] at hg
  exact hG _ _ _ _ (fun t q => st'.trans q) (k _ _ _ (s.setVm T'.vm) ⟨hG, ⟨c1, c2, State.Warmed39.trans (t := s) hZ hS.1, (hS.1.alike.findClass _ _).trans hown, c5, c6⟩, _, X', Fr.app N q2, rfl, O.called hS hg q3 hA⟩ q1)
theorem own_callFM (X : own_At G p l e R s0 s EL P m args below meth c Z n0 own nm bytes maxL ret T h cells slots) {pc pc' cells' slots' : Nat} {Ls : Array Slot} {st argsL rest : List Value} {i W : Nat} {as' : Array Value} {Q : Option Value → Heap → Prop} {rm : Room} {P' : List Addr} {y z : MethodName} {C : String} {a : Addr} {cnt : Nat} {bytes' : ByteArray} {maxL' : Nat} {ret' : Option FieldType} (w1 : (Cond.methodLink own i y).before a0 Z = true) (w2 : (Cond.declares y).before a0 Z = true) (wf : ∀ (s' : State) (a' : Array Value), Z.Warmed39 s'.vm → (Cond.interfaceMethod y.cls y.cls y.name y.desc).before a' s' = true) (w3 : (Cond.selects C y z).before a0 Z = true) (w4 : (Cond.instanceMethod z).before a0 Z = true) (w5 : (Cond.publicMethod z).before a0 Z = true) (w6 : (Cond.unhidden C y.name y.desc).before a0 Z = true) (w7 : (Cond.castable C y.cls).before a0 Z = true) (hy : y.cls ≠ "java/lang/invoke/MethodHandle" ∧ y.cls ≠ "java/lang/invoke/VarHandle") (E : Exa Z h a C) (M : own_Met l Z EL P' n0 z bytes' maxL' ret' rm as' h Q) (hPP : ∀ x ∈ P', x ∈ P) (wc : (Jvm.Cond.code z bytes' maxL' ret').before a0 Z = true) (wz : (Jvm.Cond.initialized z.cls).before a0 Z = true) (hf : rm.frames + 1 ≤ R.frames) (hlo : W + (maxL' + 11) + rm.locals ≤ R.locals) (hsz : Ls.size = maxL) (hlen : ∀ sig, parseMethodDescriptor y.desc = some sig → argsL.length = sig.parameters.length) (hs : st = argsL.reverse ++ Value.ref a :: rest) (hW : (rest.map fun v => v.category).sum = W) (hd : decode bytes pc = .ok (.invokeinterface i cnt, 5)) (hp : pc' = pc + 5) (ha : (Value.ref a :: argsL).toArray = as') (ec : cells' = cells + rm.cells) (es : slots' = slots + rm.slots) (hc : cells' ≤ R.cells) (hl : slots' ≤ R.slots)
    (k : ∀ v T' h' s', own_At G p l e R s0 s' EL P m args below meth c Z n0 own nm bytes maxL ret T' h' cells' slots' → Q v h' → G T' (mkF m pc' Ls (v.toList ++ rest))) : G T (mkF m pc Ls st) := by
  obtain ⟨hG, ⟨c1, c2, hZ, hown, c5, c6⟩, L, X, N, eT, O⟩ := X
  subst hp ec es ha hs
  obtain ⟨v, vm₁, ⟨T', L', k', n'⟩, -, X', hS, hg, ⟨Lc, hq, l', y', z', hA⟩, st'⟩ := (have ⟨_, _, q1, q2, q3⟩ := isOf hZ eT E; X.interfaceBackS c1 hown (mvT hZ w1) (mvT hZ w2) (wf s args hZ) (mvT hZ w3) (mvT hZ w4) (mvT hZ w5) (mvT hZ w6) (mvT hZ w7) hy (own_back M hZ O hPP wc wz hf hlo) q1 q2 q3 (g := mkF m pc Ls (argsL.reverse ++ Value.ref a :: rest)) rfl (hsz.trans c5.symm) (Steps.refl _) hlen rfl (by show 2 * 0 + _ ≤ _; rw [hW]; omega) (hb c2 hd) (fun _ _ => ⟨rfl, eT, hc, hl⟩))
  dsimp only [Pt.U, Pt.locs, Pt.cells, Pt.slots] at X' l' y' z' st' hq hS hg hA
  subst l' y' z'
  obtain ⟨q1, q2, q3⟩ := hq
  rw [eT] at hg
  exact hG _ _ _ _ (fun t q => st'.trans q) (k _ _ _ (s.setVm T'.vm) ⟨hG, ⟨c1, c2, State.Warmed39.trans (t := s) hZ hS.1, (hS.1.alike.findClass _ _).trans hown, c5, c6⟩, _, X', Fr.app N q2, rfl, O.called hS hg q3 hA⟩ q1)
theorem own_ldcO (X : own_At G p l e R s0 s EL P m args below meth c Z n0 own nm bytes maxL ret T h cells slots) {pc pc' cells' slots' : Nat} {Ls : Array Slot} {st : List Value} {i n : Nat} {text : String} (w : (Cond.stringLink own i text).before a0 Z = true) (wS : ∀ a ∈ Bundle.stringAtoms, a.before a0 Z = true) (hn : 4 * text.toList.length ≤ n) (hbig : n ≤ 536870912) (hd : decode bytes pc = .ok (.ldc i, 2)) (hp : pc' = pc + 2) (ec : cells' = cells + 2) (es : slots' = slots + (n + 4)) (hc : cells' ≤ R.cells) (hl : slots' ≤ R.slots)
    (k : ∀ T' h' s' a, own_At G p l e R s0 s' EL P m args below meth c Z n0 own nm bytes maxL ret T' h' cells' slots' → Keep h h' [] → G T' (mkF m pc' Ls (.ref a :: st))) : G T (mkF m pc Ls st) := by
  obtain ⟨hG, ⟨c1, c2, hZ, hown, c5⟩, L, X, N, eT, O⟩ := X
  subst hp ec es
  obtain ⟨O1, ⟨e1, k0, e2, e3⟩, ⟨a1, e4⟩, e5, e6⟩ := O
  obtain ⟨a, T', h', k1, X', e', E', hS, hk1, hW, hf, hC, -, st'⟩ := ldcOH (s := s0) (vm0 := s.vm) (a0 := a0) (EL := EL) (e1 ▸ X) c1 hZ hown w wS eT e2 e3 (fun p hp => by obtain ⟨tx, q1, q2⟩ := e4 p hp; exact ⟨tx, Eq.trans rfl q1, q2⟩) e5.1 (g := mkF m pc Ls st) rfl (hb c2 hd) hn hbig hc hl
  exact hG _ _ _ _ st' (k _ _ _ a ⟨hG, ⟨c1, c2, hW, hf, c5⟩, _, X', N, e', O1.ext E', ⟨rfl, k1, hS, hk1⟩, ⟨a1, e4⟩, e5.trans hC, fun x hx => ⟨hC.safe (e6 x hx).2 (e6 x hx).1, Nat.lt_of_lt_of_le (e6 x hx).2 E'.1⟩⟩ ((Keep.refl _ _).ext E'))
theorem own_ldcR (X : own_At G p l e R s0 s EL P m args below meth c Z n0 own nm bytes maxL ret T h cells slots) {pc pc' cells' slots' : Nat} {Ls : Array Slot} {st : List Value} {i n : Nat} {text : String} {vs : List Value} (w : (Cond.stringLink own i text).before a0 Z = true) (wS : ∀ a ∈ Bundle.stringAtoms, a.before a0 Z = true) (hmem : (own, i) ∈ EL) (ht : (∀ c ∈ text.toList, c.toNat < 256) ∧ text.toList.map (fun c => Value.int (Jvm.Lit.byteI c.toNat.toUInt16)) = vs) (hlv : vs.length < 2 ^ 31) (hn : 4 * text.toList.length ≤ n) (hbig : n ≤ 536870912) (hd : decode bytes pc = .ok (.ldc i, 2)) (hp : pc' = pc + 2) (ec : cells' = cells + 2) (es : slots' = slots + (n + 4)) (hc : cells' ≤ R.cells) (hl : slots' ≤ R.slots)
    (k : ∀ T' h' s' a t kb, own_At G p l e R s0 s' EL P m args below meth c Z n0 own nm bytes maxL ret T' h' cells' slots' → Keep h h' [] → Exa Z h' a "java/lang/String" → Fld Z h' a "java/lang/String" "coder" "B" (.int 0) → Fld Z h' a "java/lang/String" "value" "[B" (.ref t) → own_Arr Z h' t kb .byte vs → (∀ x ∈ P, x ≠ a ∧ x ≠ t) → G T' (mkF m pc' Ls (.ref a :: st))) : G T (mkF m pc Ls st) := by
  obtain ⟨hG, ⟨c1, c2, hZ, hown, c5⟩, L, X, N, eT, O⟩ := X
  subst hp ec es
  obtain ⟨O1, ⟨e1, k0, e2, e3⟩, ⟨a1, e4⟩, e5, e6⟩ := O
  have hz := len_toInt hlv
  have hz1 : ¬ Int32.ofNat vs.length < 0 := by rw [Int32.lt_iff_toInt_lt, hz]; simp
  have hz2 : (Int32.ofNat vs.length).toNatClampNeg = vs.length := by simp only [Int32.toNatClampNeg, hz]; omega
  obtain ⟨a, T', h', k1, t, kb, X', e', E', hS, hk1, hW, hf, hx1, hx2, hx3, hx4, hx5, hx6, hC, -, hne, st'⟩ := ldcCH (s := s0) (vm0 := s.vm) (a0 := a0) (EL := EL) (e1 ▸ X) c1 hZ hown w wS eT e2 e3 (fun p hp => by obtain ⟨tx, q1, q2⟩ := e4 p hp; exact ⟨tx, Eq.trans rfl q1, q2⟩) hmem e5.1 ht hz1 hz2 (g := mkF m pc Ls st) rfl (hb c2 hd) hn hbig hc hl
  have hsf : ∀ x ∈ P, Safe Z EL T'.vm h' x := fun x hx => hC.safe (e6 x hx).2 (e6 x hx).1
  exact hG _ _ _ _ st' (k _ _ _ a t kb ⟨hG, ⟨c1, c2, hW, hf, c5⟩, _, X', N, e', O1.ext E', ⟨rfl, k1, hS, hk1⟩, ⟨a1, e4⟩, e5.trans hC, fun x hx => ⟨hsf x hx, Nat.lt_of_lt_of_le (e6 x hx).2 E'.1⟩⟩ ((Keep.refl _ _).ext E') hx1 hx2 hx3 (own_Arr.of_arv hx4 hz2) (fun x hx => hne x (hsf x hx)))

theorem own_instY (X : own_At G p l e R s0 s EL P m args below meth c Z n0 own nm bytes maxL ret T h cells slots) {pc pc' : Nat} {Ls : Array Slot} {st : List Value} {i : Nat} {K : String} {a : Addr} (w : (Cond.classLink own i K).before a0 Z = true) (F : Ins Z h a K true) (hd : decode bytes pc = .ok (.instanceof i, 3)) (hp : pc' = pc + 3)
    (k : ∀ T', own_At G p l e R s0 s EL P m args below meth c Z n0 own nm bytes maxL ret T' h cells slots → G T' (mkF m pc' Ls (.int 1 :: st))) : G T (mkF m pc Ls (.ref a :: st)) := by
  obtain ⟨hG, ⟨c1, c2, hZ, hown, c5⟩, L, X, N, eT, O⟩ := X
  subst hp
  obtain ⟨T', X', e', st'⟩ := instY X c1 hZ hown w eT F (g := mkF m pc Ls (.ref a :: st)) rfl rfl (hb c2 hd)
  exact hG _ _ _ _ st' (k _ ⟨hG, ⟨c1, c2, hZ, hown, c5⟩, L, X', N, e', O⟩)
theorem own_castY (X : own_At G p l e R s0 s EL P m args below meth c Z n0 own nm bytes maxL ret T h cells slots) {pc pc' : Nat} {Ls : Array Slot} {st : List Value} {i : Nat} {K : String} {a : Addr} (w : (Cond.classLink own i K).before a0 Z = true) (F : Ins Z h a K true) (hd : decode bytes pc = .ok (.checkcast i, 3)) (hp : pc' = pc + 3)
    (k : ∀ T', own_At G p l e R s0 s EL P m args below meth c Z n0 own nm bytes maxL ret T' h cells slots → G T' (mkF m pc' Ls (.ref a :: st))) : G T (mkF m pc Ls (.ref a :: st)) := by
  obtain ⟨hG, ⟨c1, c2, hZ, hown, c5⟩, L, X, N, eT, O⟩ := X
  subst hp
  obtain ⟨T', X', e', st'⟩ := castY X c1 hZ hown w eT F (g := mkF m pc Ls (.ref a :: st)) rfl rfl (hb c2 hd)
  exact hG _ _ _ _ st' (k _ ⟨hG, ⟨c1, c2, hZ, hown, c5⟩, L, X', N, e', O⟩)
theorem own_instN (X : own_At G p l e R s0 s EL P m args below meth c Z n0 own nm bytes maxL ret T h cells slots) {pc pc' : Nat} {Ls : Array Slot} {st : List Value} {i : Nat} {K C : String} {a : Addr} (w : (Cond.classLink own i K).before a0 Z = true) (E : Exa Z h a C) (F : ∃ c t, Z.vm.findClass C = some c ∧ Z.vm.findClass K = some t ∧ Z.vm.assignable c t = false) (hd : decode bytes pc = .ok (.instanceof i, 3)) (hp : pc' = pc + 3)
    (k : ∀ T', own_At G p l e R s0 s EL P m args below meth c Z n0 own nm bytes maxL ret T' h cells slots → G T' (mkF m pc' Ls (.int 0 :: st))) : G T (mkF m pc Ls (.ref a :: st)) := by
  obtain ⟨hG, ⟨c1, c2, hZ, hown, c5⟩, L, X, N, eT, O⟩ := X
  subst hp
  obtain ⟨T', X', e', st'⟩ := instNo X c1 hZ hown w eT E F (g := mkF m pc Ls (.ref a :: st)) rfl rfl (hb c2 hd)
  exact hG _ _ _ _ st' (k _ ⟨hG, ⟨c1, c2, hZ, hown, c5⟩, L, X', N, e', O⟩)
theorem own_instNull (X : own_At G p l e R s0 s EL P m args below meth c Z n0 own nm bytes maxL ret T h cells slots) {pc pc' : Nat} {Ls : Array Slot} {st : List Value} {i : Nat} (hd : decode bytes pc = .ok (.instanceof i, 3)) (hp : pc' = pc + 3)
    (k : G T (mkF m pc' Ls (.int 0 :: st))) : G T (mkF m pc Ls (.null :: st)) := by
  obtain ⟨hG, ⟨c1, c2, hZ, hown, c5⟩, L, X, N, eT, O⟩ := X
  subst hp
  exact hG _ _ _ _ (X.instanceofNull c1 (g := mkF m pc Ls (.null :: st)) rfl rfl (hb c2 hd)) k
theorem own_castNull (X : own_At G p l e R s0 s EL P m args below meth c Z n0 own nm bytes maxL ret T h cells slots) {pc pc' : Nat} {Ls : Array Slot} {st : List Value} {i : Nat} (hd : decode bytes pc = .ok (.checkcast i, 3)) (hp : pc' = pc + 3)
    (k : G T (mkF m pc' Ls (.null :: st))) : G T (mkF m pc Ls (.null :: st)) := by
  obtain ⟨hG, ⟨c1, c2, hZ, hown, c5⟩, L, X, N, eT, O⟩ := X
  subst hp
  exact hG _ _ _ _ (X.checkcastNull c1 (g := mkF m pc Ls (.null :: st)) rfl rfl (hb c2 hd)) k
/-- an object of C, whose superclass S has none, is no K -/
theorem own_no {C S K : String} {n : Nat} (w : (Cond.superclass C S).before a0 Z = true) (wS : (Cond.noSuperclass S).before a0 Z = true) (wi : (Cond.instantiable K n).before a0 Z = true) (hn : C ≠ K) (hS : S ≠ K) : ∃ c t, Z.vm.findClass C = some c ∧ Z.vm.findClass K = some t ∧ Z.vm.assignable c t = false := by
  obtain ⟨t, k', g0, g2, g5, g7, -⟩ := Cond.instantiable_spec wi
  obtain ⟨c, h0⟩ := found_sup w
  obtain ⟨q, k, kp, h1, h2, h3, h4, h5, -, h7⟩ := Cond.superclass_spec h0 w
  obtain ⟨cS, kS, s1, s2, s3, -, -⟩ := Cond.noSuperclass_spec wS
  cases h1.symm.trans s1
  have ne := ids_ne h0 g0 hn
  have neS := ids_ne s1 g0 hS
  have n3 : ∀ fuel, Z.vm.isSubclassAux fuel c t = false := by
    intro fuel
    cases fuel with
    | zero => rfl
    | succ f =>
      cases f with
      | zero => simp [Vm.isSubclassAux, ne, h2, h4]
      | succ f => simp [Vm.isSubclassAux, ne, neS, h2, h4, s2, s3]
  have g7' : k'.isInterface = false := by
    cases hq : k'.isInterface with
    | false => rfl
    | true => rw [hq] at g7; cases g7
  refine ⟨c, t, h0, g0, ?_⟩
  show Z.vm.assignableAux (255 + 1) c t = false
  simp [Vm.assignableAux, ne, h2, g2, h5, g5, g7', Vm.isSubclass, n3]
end OwnKit

section OwnStr
variable {G : State → JFrame → Prop} {p : Program} {l : Launch} {e : Env} {R : Room} {s : State} {m : MethodId} {args : Array Value} {below : List Frame} {meth : Method} {c : Code} {Z : State} {n0 : Nat} {own nm : String} {bytes : ByteArray} {maxL : Nat} {ret : Option FieldType} {T : State} {h : Heap} {cells slots : Nat} {a0 : Array Value} {s0 : State} {EL : List (String × Nat)} {P : List Addr}
theorem own_a0 {P : Int32 → Prop} : ∀ x ∈ ([] : List Int32), P x := fun _ q => nomatch q
theorem own_aS {P : Int32 → Prop} {y : Int32} {L : List Int32} (q : P y) (r : ∀ x ∈ L, P x) : ∀ x ∈ y :: L, P x := fun x z => (List.mem_cons.mp z).elim (fun u => u ▸ q) (r x)
def own_CS (Z : State) : Prop := ∃ z : Int32, Sta Z Z.heap "java/lang/String" "COMPACT_STRINGS" "Z" (.int z) ∧ ¬ z = 0
def own_Str (Z : State) (h : Heap) (x t : Addr) (cs : List Int32) : Prop := Exa Z h x "java/lang/String" ∧ Fld Z h x "java/lang/String" "value" "[B" (.ref t) ∧ ∃ (kb : ClassId) (N2 : Int32) (vs : List Value) (cd : Int32), Fld Z h x "java/lang/String" "coder" "B" (.int cd) ∧ Arv Z h t kb .byte N2 vs (.int 0) ∧ StrChars.Road.CodA cs cd N2 vs ∧ (∀ c ∈ cs, ¬ c < 0 ∧ ¬ (65535 : Int32) < c) ∧ cs.length ≤ 4000
theorem own_Str.lt {x t : Addr} {cs : List Int32} (S : own_Str Z h x t cs) : x < h.size := S.1.lt
theorem own_Str.ltt {x t : Addr} {cs : List Int32} (S : own_Str Z h x t cs) : t < h.size := by obtain ⟨-, -, _, _, _, _, -, A, -⟩ := S; exact A.lt
theorem own_Str.keep {h' : Heap} {x t : Addr} {cs : List Int32} {ws : List Addr} (S : own_Str Z h x t cs) (K : Keep h h' ws) (q1 : x ∉ ws) (q2 : t ∉ ws) : own_Str Z h' x t cs := by
  obtain ⟨s1, s2, kb, N2, vs, cd, s3, s4, s5⟩ := S
  exact ⟨s1.keep K, s2.keep K q1, kb, N2, vs, cd, s3.keep K q1, s4.keep K q2, s5⟩
theorem own_nar255 (x : Int32) : nar .char (own_c16 (x &&& 255)) = x &&& 255 := by
  show (own_c16 (x &&& 255)).toUInt32.toUInt16.toUInt32.toInt32 = _
  unfold own_c16; rw [i2c_mask, i2c_mask]
theorem own_255 (x : Int32) : ¬ (x &&& 255) < 0 ∧ ¬ (255 : Int32) < (x &&& 255) := by
  have q := c_and x 255 (by decide)
  have e : (255 : Int32).toInt = 255 := by decide
  rw [Int32.lt_iff_toInt_lt, Int32.lt_iff_toInt_lt]
  rw [e] at q ⊢
  have e0 : (0 : Int32).toInt = 0 := by decide
  rw [e0]; omega
theorem own_up {cs : List Int32} (h : ∀ c ∈ cs, ¬ c < 0 ∧ ¬ (255 : Int32) < c) : ∀ c ∈ cs, ¬ c < 0 ∧ ¬ (65535 : Int32) < c := by
  intro c hc
  refine ⟨(h c hc).1, fun q => (h c hc).2 ?_⟩
  rw [Int32.lt_iff_toInt_lt] at q ⊢
  have e1 : (65535 : Int32).toInt = 65535 := by decide
  have e2 : (255 : Int32).toInt = 255 := by decide
  omega
theorem own_strinit (X : own_At G p l e R s0 s EL P m args below meth c Z n0 own nm bytes maxL ret T h cells slots) {pc pc' cells' slots' : Nat} {Ls : Array Slot} {rest : List Value} {i W n : Nat} {x b : Addr} {kC : ClassId} {cs : List Int32} {v0 c0 : Value} {bytes' : ByteArray} {maxL' : Nat} (hws : ∀ d ∈ StrChars.Road.words, d.before a0 Z = true) (CS : own_CS Z)
    (w1 : (Cond.methodLink own i ⟨"java/lang/String", "<init>", "([C)V"⟩).before a0 Z = true) (w2 : (Cond.instanceMethod ⟨"java/lang/String", "<init>", "([C)V"⟩).before a0 Z = true) (w4 : (Cond.code ⟨"java/lang/String", "<init>", "([C)V"⟩ bytes' maxL' none).before a0 Z = true) (wi : (Cond.instantiable "java/lang/String" 4).before a0 Z = true)
    (E : Exa Z h x "java/lang/String") (V : Fld Z h x "java/lang/String" "value" "[B" v0) (C : Fld Z h x "java/lang/String" "coder" "B" c0) (K : own_Arr Z h b kC .char (cs.map Value.int)) (hx : n0 ≤ x) (hxP : x ∈ P) (hn : cs.length = n) (l0 : 0 < n) (l2 : n ≤ 4000) (hp : ∀ c ∈ cs, ¬ c < 0 ∧ ¬ (255 : Int32) < c) (hfr : 4 ≤ R.frames) (hlo : W + 65 ≤ R.locals)
    (hlen : ∀ sig, parseMethodDescriptor "([C)V" = some sig → 1 = sig.parameters.length) (hsz : Ls.size = maxL) (hW : (rest.map fun v => v.category).sum = W) (hd : decode bytes pc = .ok (.invokespecial i, 3)) (hpc : pc' = pc + 3) (ec : cells' = cells + 1) (es : slots' = slots + n) (hc : cells' ≤ R.cells) (hl : slots' ≤ R.slots)
    (k : ∀ T' h' t, own_At G p l e R s0 s EL P m args below meth c Z n0 own nm bytes maxL ret T' h' cells' slots' → Keep h h' [x] → h.size ≤ t → own_Str Z h' x t cs → G T' (mkF m pc' Ls rest)) : G T (mkF m pc Ls (.ref b :: .ref x :: rest)) := by
  obtain ⟨z, S, hz⟩ := CS
  have hO := own_old X
  have hS := own_sta X S
  have h0 := own_n0 X
  refine own_callI (y := ⟨"java/lang/String", "<init>", "([C)V"⟩) (argsL := [.ref b]) (rest := rest) (a := x) (as' := #[.ref x, .ref b]) (kc := 1) (ks := n) (W := W) (Q := fun v h' => v = none ∧ Keep h h' [x] ∧ ∃ t, h.size ≤ t ∧ own_Str Z h' x t cs) X w1 w2 w4 rfl (by decide)
    (fun hZ => StrChars.Road.backV (W := W) hZ hws (kI := 4) wi (cs := cs) (bs := cs.map (fun c => c.toInt8.toInt32)) (n := n) hx h0 E V C (K.arv (d := .int 0) (N := Int32.ofNat n) (by rw [List.length_map, hn])) hS hz hn rfl l0 l2 hp rfl hfr hlo)
    (fun v h' L q => ?_) hsz hlen rfl hW hd hpc rfl ec es hc hl (fun v T' h' X' q => ?_)
  · obtain ⟨q1, q2, q3, q4, q5, t, kb, q6, q7, q8, q9, q10⟩ := q
    exact ⟨⟨q1, q3, t, q7, q4, q9, kb, _, _, 0, q5, q10, StrChars.Road.codOf hn (fun c hc => (hp c hc).2), own_up hp, by omega⟩, q2, [x], q3, allS ⟨hx, hxP⟩ all0⟩
  · obtain ⟨rfl, q1, t, q2, q3⟩ := q
    exact k T' h' t X' q1 q2 q3
end OwnStr
section OwnStr2
variable {G : State → JFrame → Prop} {p : Program} {l : Launch} {e : Env} {R : Room} {s : State} {m : MethodId} {args : Array Value} {below : List Frame} {meth : Method} {c : Code} {Z : State} {n0 : Nat} {own nm : String} {bytes : ByteArray} {maxL : Nat} {ret : Option FieldType} {T : State} {h : Heap} {cells slots : Nat} {a0 : Array Value} {s0 : State} {EL : List (String × Nat)} {P : List Addr}
def own_SF (Z : State) : Prop := ∃ v : Value, Sta Z Z.heap "jdk/internal/util/Preconditions" "SIOOBE_FORMATTER" "Ljava/util/function/BiFunction;" v ∧ v.isRef = true
theorem own_streq (X : own_At G p l e R s0 s EL P m args below meth c Z n0 own nm bytes maxL ret T h cells slots) {pc pc' : Nat} {Ls : Array Slot} {rest : List Value} {i W : Nat} {x t : Addr} {cs : List Int32} {y t' : Addr} {ds : List Int32} (hws : ∀ d ∈ StrChars.Road.wordsEq, d.before a0 Z = true) (CS : own_CS Z) 
    (w1 : (Cond.methodLink own i ⟨"java/lang/String", "equals", "(Ljava/lang/Object;)Z"⟩).before a0 Z = true) (w2 : (Cond.declares ⟨"java/lang/String", "equals", "(Ljava/lang/Object;)Z"⟩).before a0 Z = true) (w3 : (Cond.selects "java/lang/String" ⟨"java/lang/String", "equals", "(Ljava/lang/Object;)Z"⟩ ⟨"java/lang/String", "equals", "(Ljava/lang/Object;)Z"⟩).before a0 Z = true) (w4 : (Cond.instanceMethod ⟨"java/lang/String", "equals", "(Ljava/lang/Object;)Z"⟩).before a0 Z = true) (wi : (Cond.instantiable "java/lang/String" 4).before a0 Z = true)
    (S1 : own_Str Z h x t cs) (S2 : own_Str Z h y t' ds) (hfr : 2 ≤ R.frames) (hlo : W + 28 ≤ R.locals)
    (hlen : ∀ sig, parseMethodDescriptor "(Ljava/lang/Object;)Z" = some sig → 1 = sig.parameters.length) (hsz : Ls.size = maxL) (hW : (rest.map fun v => v.category).sum = W) (hd : decode bytes pc = .ok (.invokevirtual i, 3)) (hpc : pc' = pc + 3) (hc : cells ≤ R.cells) (hl : slots ≤ R.slots)
    (k : ∀ T', own_At G p l e R s0 s EL P m args below meth c Z n0 own nm bytes maxL ret T' h cells slots → G T' (mkF m pc' Ls ((.int (if cs = ds then 1 else 0)) :: rest))) : G T (mkF m pc Ls (.ref y :: .ref x :: rest)) := by
  obtain ⟨z, S, hz⟩ := CS
  have hO := own_old X
  have hS := own_sta X S
  obtain ⟨s1, s2, kb, N2, vs, cd, s3, s4, s5, s6, s7⟩ := S1
  obtain ⟨r1, r2, kb', N2', vs', cd', r3, r4, r5, r6, r7⟩ := S2
  refine own_callV (y := ⟨"java/lang/String", "equals", "(Ljava/lang/Object;)Z"⟩) (z := ⟨"java/lang/String", "equals", "(Ljava/lang/Object;)Z"⟩) (argsL := [.ref y]) (rest := rest) (a := x) (as' := #[.ref x, .ref y]) (kc := 0) (ks := 0) (W := W) (QQ := fun v h' L => ((v = some (.int 1) ∧ cs = ds) ∨ (v = some (.int 0) ∧ ¬ cs = ds)) ∧ L = [] ∧ h' = h) (Q := fun v h' => v = some (.int (if cs = ds then 1 else 0)) ∧ h = h') (cells' := cells) (slots' := slots) X w1 w2 (fun s' hZ' => notFace_of_selects (args := #[]) (mvT hZ' w3)) w3 w4 (by decide) s1
    (fun hZ => StrChars.Road.eqW (W := W) hZ hws (kI := 4) wi s1 s2 s3 s4 s5 s6 s7 r1 r2 r3 r4 r5 r6 r7 hS hz hfr hlo)
    (fun v h' L q => ?_) hsz hlen rfl hW hd hpc rfl rfl rfl hc hl (fun v T' h' X' q => ?_)
  · obtain ⟨q1, rfl, q3⟩ := q
    rcases q1 with ⟨q1, e⟩ | ⟨q1, e⟩
    · exact ⟨⟨by rw [q1, if_pos e], q3.symm⟩, Fr.nil n0, [], by rw [q3]; exact Keep.refl _ _, all0⟩
    · exact ⟨⟨by rw [q1, if_neg e], q3.symm⟩, Fr.nil n0, [], by rw [q3]; exact Keep.refl _ _, all0⟩
  · obtain ⟨rfl, rfl⟩ := q
    exact k T' X'
theorem own_strlen (X : own_At G p l e R s0 s EL P m args below meth c Z n0 own nm bytes maxL ret T h cells slots) {pc pc' : Nat} {Ls : Array Slot} {rest : List Value} {i W : Nat} {x t : Addr} {cs : List Int32}  (hws : ∀ d ∈ StrChars.Road.wordsLen, d.before a0 Z = true) (CS : own_CS Z) 
    (w1 : (Cond.methodLink own i ⟨"java/lang/String", "length", "()I"⟩).before a0 Z = true) (w2 : (Cond.declares ⟨"java/lang/String", "length", "()I"⟩).before a0 Z = true) (w3 : (Cond.selects "java/lang/String" ⟨"java/lang/String", "length", "()I"⟩ ⟨"java/lang/String", "length", "()I"⟩).before a0 Z = true) (w4 : (Cond.instanceMethod ⟨"java/lang/String", "length", "()I"⟩).before a0 Z = true) (wi : (Cond.instantiable "java/lang/String" 4).before a0 Z = true)
    (S1 : own_Str Z h x t cs)  (hfr : 2 ≤ R.frames) (hlo : W + 25 ≤ R.locals)
    (hlen : ∀ sig, parseMethodDescriptor "()I" = some sig → 0 = sig.parameters.length) (hsz : Ls.size = maxL) (hW : (rest.map fun v => v.category).sum = W) (hd : decode bytes pc = .ok (.invokevirtual i, 3)) (hpc : pc' = pc + 3) (hc : cells ≤ R.cells) (hl : slots ≤ R.slots)
    (k : ∀ T', own_At G p l e R s0 s EL P m args below meth c Z n0 own nm bytes maxL ret T' h cells slots → G T' (mkF m pc' Ls ((.int (Int32.ofNat cs.length)) :: rest))) : G T (mkF m pc Ls (.ref x :: rest)) := by
  obtain ⟨z, S, hz⟩ := CS
  have hO := own_old X
  have hS := own_sta X S
  obtain ⟨s1, s2, kb, N2, vs, cd, s3, s4, s5, s6, s7⟩ := S1
  skip
  refine own_callV (y := ⟨"java/lang/String", "length", "()I"⟩) (z := ⟨"java/lang/String", "length", "()I"⟩) (argsL := []) (rest := rest) (a := x) (as' := #[.ref x]) (kc := 0) (ks := 0) (W := W) (QQ := fun v h' L => v = some (.int (Int32.ofNat cs.length)) ∧ L = [] ∧ h' = h) (Q := fun v h' => v = some (.int (Int32.ofNat cs.length)) ∧ h = h') (cells' := cells) (slots' := slots) X w1 w2 (fun s' hZ' => notFace_of_selects (args := #[]) (mvT hZ' w3)) w3 w4 (by decide) s1
    (fun hZ => StrChars.Road.lenW (W := W) hZ hws (kI := 4) wi s1 s2 s3 s4 s5 s6 hS hz s7 hfr hlo)
    (fun v h' L q => ?_) hsz hlen rfl hW hd hpc rfl rfl rfl hc hl (fun v T' h' X' q => ?_)
  · obtain ⟨q1, rfl, q3⟩ := q
    exact ⟨⟨q1, q3.symm⟩, Fr.nil n0, [], by rw [q3]; exact Keep.refl _ _, all0⟩
  · obtain ⟨rfl, rfl⟩ := q
    exact k T' X'
theorem own_stremp (X : own_At G p l e R s0 s EL P m args below meth c Z n0 own nm bytes maxL ret T h cells slots) {pc pc' : Nat} {Ls : Array Slot} {rest : List Value} {i W : Nat} {x t : Addr} {cs : List Int32}  (hws : ∀ d ∈ StrChars.Road.wordsEmp, d.before a0 Z = true) (CS : own_CS Z) 
    (w1 : (Cond.methodLink own i ⟨"java/lang/String", "isEmpty", "()Z"⟩).before a0 Z = true) (w2 : (Cond.declares ⟨"java/lang/String", "isEmpty", "()Z"⟩).before a0 Z = true) (w3 : (Cond.selects "java/lang/String" ⟨"java/lang/String", "isEmpty", "()Z"⟩ ⟨"java/lang/String", "isEmpty", "()Z"⟩).before a0 Z = true) (w4 : (Cond.instanceMethod ⟨"java/lang/String", "isEmpty", "()Z"⟩).before a0 Z = true) (wi : (Cond.instantiable "java/lang/String" 4).before a0 Z = true)
    (S1 : own_Str Z h x t cs)  (hfr : 1 ≤ R.frames) (hlo : W + 12 ≤ R.locals)
    (hlen : ∀ sig, parseMethodDescriptor "()Z" = some sig → 0 = sig.parameters.length) (hsz : Ls.size = maxL) (hW : (rest.map fun v => v.category).sum = W) (hd : decode bytes pc = .ok (.invokevirtual i, 3)) (hpc : pc' = pc + 3) (hc : cells ≤ R.cells) (hl : slots ≤ R.slots)
    (k : ∀ T', own_At G p l e R s0 s EL P m args below meth c Z n0 own nm bytes maxL ret T' h cells slots → G T' (mkF m pc' Ls ((.int (if cs.length = 0 then 1 else 0)) :: rest))) : G T (mkF m pc Ls (.ref x :: rest)) := by
  obtain ⟨z, S, hz⟩ := CS
  have hO := own_old X
  have hS := own_sta X S
  obtain ⟨s1, s2, kb, N2, vs, cd, s3, s4, s5, s6, s7⟩ := S1
  skip
  refine own_callV (y := ⟨"java/lang/String", "isEmpty", "()Z"⟩) (z := ⟨"java/lang/String", "isEmpty", "()Z"⟩) (argsL := []) (rest := rest) (a := x) (as' := #[.ref x]) (kc := 0) (ks := 0) (W := W) (QQ := fun v h' L => v = some (.int (if cs.length = 0 then 1 else 0)) ∧ L = [] ∧ h' = h) (Q := fun v h' => v = some (.int (if cs.length = 0 then 1 else 0)) ∧ h = h') (cells' := cells) (slots' := slots) X w1 w2 (fun s' hZ' => notFace_of_selects (args := #[]) (mvT hZ' w3)) w3 w4 (by decide) s1
    (fun hZ => StrChars.Road.empW (W := W) hZ hws (kI := 4) wi s1 s2 s3 s4 s5 s6 s7 hfr hlo)
    (fun v h' L q => ?_) hsz hlen rfl hW hd hpc rfl rfl rfl hc hl (fun v T' h' X' q => ?_)
  · obtain ⟨q1, rfl, q3⟩ := q
    exact ⟨⟨q1, q3.symm⟩, Fr.nil n0, [], by rw [q3]; exact Keep.refl _ _, all0⟩
  · obtain ⟨rfl, rfl⟩ := q
    exact k T' X'
theorem own_strchar (X : own_At G p l e R s0 s EL P m args below meth c Z n0 own nm bytes maxL ret T h cells slots) {pc pc' : Nat} {Ls : Array Slot} {rest : List Value} {i W : Nat} {x t : Addr} {cs : List Int32} {j : Int32} {i' : Nat} {ch : Int32} (hws : ∀ d ∈ StrChars.Road.wordsChN, d.before a0 Z = true) (CS : own_CS Z) (SF : own_SF Z)
    (w1 : (Cond.methodLink own i ⟨"java/lang/String", "charAt", "(I)C"⟩).before a0 Z = true) (w2 : (Cond.declares ⟨"java/lang/String", "charAt", "(I)C"⟩).before a0 Z = true) (w3 : (Cond.selects "java/lang/String" ⟨"java/lang/String", "charAt", "(I)C"⟩ ⟨"java/lang/String", "charAt", "(I)C"⟩).before a0 Z = true) (w4 : (Cond.instanceMethod ⟨"java/lang/String", "charAt", "(I)C"⟩).before a0 Z = true) (wi : (Cond.instantiable "java/lang/String" 4).before a0 Z = true)
    (S1 : own_Str Z h x t cs) (hlat : ∀ c ∈ cs, ¬ 255 < c) (hi : cs[i']? = some ch) (hj : j = Int32.ofNat i') (hfr : 4 ≤ R.frames) (hlo : W + 53 ≤ R.locals)
    (hlen : ∀ sig, parseMethodDescriptor "(I)C" = some sig → 1 = sig.parameters.length) (hsz : Ls.size = maxL) (hW : (rest.map fun v => v.category).sum = W) (hd : decode bytes pc = .ok (.invokevirtual i, 3)) (hpc : pc' = pc + 3) (hc : cells ≤ R.cells) (hl : slots ≤ R.slots)
    (k : ∀ T', own_At G p l e R s0 s EL P m args below meth c Z n0 own nm bytes maxL ret T' h cells slots → G T' (mkF m pc' Ls ((.int ch) :: rest))) : G T (mkF m pc Ls (.int j :: .ref x :: rest)) := by
  obtain ⟨z, S, hz⟩ := CS
  have hO := own_old X
  have hS := own_sta X S
  obtain ⟨s1, s2, kb, N2, vs, cd, s3, s4, s5, s6, s7⟩ := S1
  obtain ⟨fm, SF, rf⟩ := SF
  have hF := own_sta X SF
  have hcd : cd = 0 := by rcases s5 with ⟨e, -⟩ | ⟨-, -, -, c, hc, hq⟩; exact e; exact absurd hq (hlat c hc)
  subst hcd
  refine own_callV (y := ⟨"java/lang/String", "charAt", "(I)C"⟩) (z := ⟨"java/lang/String", "charAt", "(I)C"⟩) (argsL := [.int j]) (rest := rest) (a := x) (as' := #[.ref x, .int j]) (kc := 0) (ks := 0) (W := W) (QQ := fun v h' L => v = some (.int (cs.getD i' 0)) ∧ L = [] ∧ h' = h) (Q := fun v h' => v = some (.int ch) ∧ h = h') (cells' := cells) (slots' := slots) X w1 w2 (fun s' hZ' => notFace_of_selects (args := #[]) (mvT hZ' w3)) w3 w4 (by decide) s1
    (fun hZ => StrChars.Road.chN (W := W) hZ hws (kI := 4) wi s1 s2 s3 s4 s5 s6 hS hz hF rf s7 (List.getElem?_eq_some_iff.mp hi).1 hj hfr hlo)
    (fun v h' L q => ?_) hsz hlen rfl hW hd hpc rfl rfl rfl hc hl (fun v T' h' X' q => ?_)
  · obtain ⟨q1, rfl, q3⟩ := q
    exact ⟨⟨by rw [q1]; simp [List.getD, hi], q3.symm⟩, Fr.nil n0, [], by rw [q3]; exact Keep.refl _ _, all0⟩
  · obtain ⟨rfl, rfl⟩ := q
    exact k T' X'
end OwnStr2
section OwnArr
variable {G : State → JFrame → Prop} {p : Program} {l : Launch} {e : Env} {R : Room} {s : State} {m : MethodId} {args : Array Value} {below : List Frame} {meth : Method} {c : Code} {Z : State} {n0 : Nat} {own nm : String} {bytes : ByteArray} {maxL : Nat} {ret : Option FieldType} {T : State} {h : Heap} {cells slots : Nat} {a0 : Array Value} {s0 : State} {EL : List (String × Nat)} {P : List Addr}
theorem own_newarrayE (X : own_At G p l e R s0 s EL P m args below meth c Z n0 own nm bytes maxL ret T h cells slots) {pc pc' cells' slots' : Nat} {Ls : Array Slot} {st : List Value} {aty : ArrayType} {ty : FieldType} {z : Int32} {n : Nat} {dv : Value} {ad : String} (w : (Cond.arrayClass ty).before a0 Z = true) (ht : newarray.typeOf aty = ty) (had : "[" ++ ty.toString = ad) (hdv : defaultValue ty = dv) (hz : z.toInt = n) (hn : n ≤ 60000000) (hd : decode bytes pc = .ok (.newarray aty, 2)) (hp : pc' = pc + 2) (ec : cells' = cells + 1) {cap : Nat} (hcap : n ≤ cap) (hbig : cap ≤ 60000000) (es : slots' = slots + cap) (hc : cells' ≤ R.cells) (hl : slots' ≤ R.slots)
    (k : ∀ T' h' a kc, a = h.size → own_At G p l e R s0 s EL P m args below meth c Z n0 own nm bytes maxL ret T' h' cells' slots' → Keep h h' [] → own_Arr Z h' a kc ty (List.replicate n dv) → Exa Z h' a ad → G T' (mkF m pc' Ls (.ref a :: st))) : G T (mkF m pc Ls (.int z :: st)) := by
  obtain ⟨hG, ⟨c1, c2, hZ, c5⟩, L, X, N, eT, O⟩ := X
  subst hp ec es ht hdv
  have hz0 : ¬ z < 0 := by rw [Int32.lt_iff_toInt_lt, hz]; simp
  have hzn : z.toNatClampNeg = n := by simp only [Int32.toNatClampNeg, hz]; omega
  obtain ⟨T', h', cA, X', e', E', A', F', st'⟩ := newPE X c1 hZ w eT (g := mkF m pc Ls (.int z :: st)) rfl (hb c2 hd) rfl hz0 (cap := cap) (by omega) (by omega) hc hl had
  refine hG _ _ _ _ st' (k _ _ _ cA rfl ⟨hG, ⟨c1, c2, hZ, c5⟩, _, X', N, e', O.ext E'⟩ ((Keep.refl _ _).ext E') ⟨_, A', rfl, by rw [own_newA, hzn], by simp; omega, fun v hv => ?_⟩ F')
  rw [List.eq_of_mem_replicate hv]; exact own_defit aty
theorem own_anewA (X : own_At G p l e R s0 s EL P m args below meth c Z n0 own nm bytes maxL ret T h cells slots) {pc pc' cells' slots' : Nat} {Ls : Array Slot} {st : List Value} {ty : FieldType} {C ad : String} {i : Nat} {z : Int32} {n : Nat} (hC : (FieldType.array ty).toString = C) (w1 : (Cond.classLink own i C).before a0 Z = true) (w2 : (Cond.arrayOver (.array ty)).before a0 Z = true) (had : "[" ++ C = ad) (hz : z.toInt = n) (hn : n ≤ 60000000) (hd : decode bytes pc = .ok (.anewarray i, 3)) (hp : pc' = pc + 3) (ec : cells' = cells + 1) {cap : Nat} (hcap : n ≤ cap) (hbig : cap ≤ 60000000) (es : slots' = slots + cap) (hc : cells' ≤ R.cells) (hl : slots' ≤ R.slots)
    (k : ∀ T' h' a kc, a = h.size → own_At G p l e R s0 s EL P m args below meth c Z n0 own nm bytes maxL ret T' h' cells' slots' → Keep h h' [] → own_Arr Z h' a kc (.array ty) (List.replicate n .null) → Exa Z h' a ad → OvrA Z kc ty C → G T' (mkF m pc' Ls (.ref a :: st))) : G T (mkF m pc Ls (.int z :: st)) := by
  obtain ⟨hG, ⟨c1, c2, hZ, hown, c5⟩, L, X, N, eT, O⟩ := X
  subst hp ec es
  have hz0 : ¬ z < 0 := by rw [Int32.lt_iff_toInt_lt, hz]; simp
  have hzn : z.toNatClampNeg = n := by simp only [Int32.toNatClampNeg, hz]; omega
  obtain ⟨T', h', cA, X', e', E', A', F', V', st'⟩ := newRA X c1 hZ hown hC w1 w2 eT (g := mkF m pc Ls (.int z :: st)) rfl (hb c2 hd) rfl hz0 (cap := cap) (by omega) (by omega) hc hl had
  refine hG _ _ _ _ st' (k _ _ _ cA rfl ⟨hG, ⟨c1, c2, hZ, hown, c5⟩, _, X', N, e', O.ext E'⟩ ((Keep.refl _ _).ext E') ⟨_, A', rfl, by rw [own_newA, hzn]; rfl, by simp; omega, fun v hv => ?_⟩ F' V')
  rw [List.eq_of_mem_replicate hv]; rfl
theorem own_anewR (X : own_At G p l e R s0 s EL P m args below meth c Z n0 own nm bytes maxL ret T h cells slots) {pc pc' cells' slots' : Nat} {Ls : Array Slot} {st : List Value} {C ad : String} {i : Nat} {z : Int32} {n : Nat} (w1 : (Cond.classLink own i C).before a0 Z = true) (w2 : (Cond.arrayOver (.object C)).before a0 Z = true) (had : "[" ++ (FieldType.object C).toString = ad) (hz : z.toInt = n) (hn : n ≤ 60000000) (hd : decode bytes pc = .ok (.anewarray i, 3)) (hp : pc' = pc + 3) (ec : cells' = cells + 1) {cap : Nat} (hcap : n ≤ cap) (hbig : cap ≤ 60000000) (es : slots' = slots + cap) (hc : cells' ≤ R.cells) (hl : slots' ≤ R.slots)
    (k : ∀ T' h' a kc, a = h.size → own_At G p l e R s0 s EL P m args below meth c Z n0 own nm bytes maxL ret T' h' cells' slots' → Keep h h' [] → own_Arr Z h' a kc (.object C) (List.replicate n .null) → Exa Z h' a ad → Ovr Z kc C → G T' (mkF m pc' Ls (.ref a :: st))) : G T (mkF m pc Ls (.int z :: st)) := by
  obtain ⟨hG, ⟨c1, c2, hZ, hown, c5⟩, L, X, N, eT, O⟩ := X
  subst hp ec es
  have hz0 : ¬ z < 0 := by rw [Int32.lt_iff_toInt_lt, hz]; simp
  have hzn : z.toNatClampNeg = n := by simp only [Int32.toNatClampNeg, hz]; omega
  obtain ⟨T', h', cA, X', e', E', A', F', V', st'⟩ := newRE X c1 hZ hown w1 w2 eT (g := mkF m pc Ls (.int z :: st)) rfl (hb c2 hd) rfl hz0 (cap := cap) (by omega) (by omega) hc hl had
  refine hG _ _ _ _ st' (k _ _ _ cA rfl ⟨hG, ⟨c1, c2, hZ, hown, c5⟩, _, X', N, e', O.ext E'⟩ ((Keep.refl _ _).ext E') ⟨_, A', rfl, by rw [own_newA, hzn]; rfl, by simp; omega, fun v hv => ?_⟩ F' V')
  rw [List.eq_of_mem_replicate hv]; rfl
theorem own_stoA {a y : Addr} {kc : ClassId} {t0 ty : FieldType} {vs : List Value} {C : String} (F : own_Arr Z h a kc t0 vs) (O : OvrA Z kc ty C) (I : Ins Z h y C true) : Sto Z h a (.ref y) := by
  obtain ⟨c, A, q, -⟩ := F; exact Sto.ofVA A q O I
theorem own_stoR {a y : Addr} {kc : ClassId} {t0 : FieldType} {vs : List Value} {C : String} (F : own_Arr Z h a kc t0 vs) (O : Ovr Z kc C) (I : Ins Z h y C true) : Sto Z h a (.ref y) := by
  obtain ⟨c, A, q, -⟩ := F; exact Sto.ofV A q O I
theorem own_aastore (X : own_At G p l e R s0 s EL P m args below meth c Z n0 own nm bytes maxL ret T h cells slots) {pc pc' : Nat} {Ls : Array Slot} {st : List Value} {a : Addr} {kc : ClassId} {ty : FieldType} {vs : List Value} {j : Int32} {i : Nat} {v : Value} (F : own_Arr Z h a kc ty vs) (hty : ty.isReference = true) (hfit : fits ty v = true) (S : Sto Z h a v) (hj : j.toInt = i) (hi : i < vs.length) (ha : n0 ≤ a) (hd : decode bytes pc = .ok (.aastore, 1)) (hp : pc' = pc + 1)
    (k : ∀ T' h', own_At G p l e R s0 s EL P m args below meth c Z n0 own nm bytes maxL ret T' h' cells slots → Keep h h' [a] → own_Arr Z h' a kc ty (vs.set i v) → G T' (mkF m pc' Ls st)) : G T (mkF m pc Ls (v :: .int j :: .ref a :: st)) := by
  obtain ⟨hG, ⟨c1, c2, hZ, c5⟩, L, X, N, eT, O⟩ := X
  subst hp
  have F0 := F
  obtain ⟨cl, A, r1, r2, r3, r4⟩ := F
  have hs : cl.slots.size = vs.length := by rw [← r2]; simp
  obtain ⟨q1, q2⟩ := own_idx hi r3 hj
  obtain ⟨T', h', X', e', W', st'⟩ := stR X c1 hZ eT A (j := j) (by rw [hs]; exact q1) hty S (g := mkF m pc Ls (v :: .int j :: .ref a :: st)) rfl rfl (hb c2 hd)
  have K' := Keep.of_wr W'
  have O' := O.wr W' ha (Safe.arr hZ.alike A (fun q => by subst q; cases hty))
  rw [q2] at W'
  exact hG _ _ _ _ st' (k _ _ ⟨hG, ⟨c1, c2, hZ, c5⟩, _, X', Fr.snoc X' N ha, e', O'⟩ K' (F0.set W' hfit))
theorem own_range {vs : List Value} {sp n : Nat} {dv : Value} (h : sp + n ≤ vs.length) : ((List.range n).map fun i => vs.getD (sp + i) dv) = (vs.drop sp).take n := by
  apply List.ext_getElem
  · simp; omega
  · intro i h1 h2
    simp only [List.length_map, List.length_range] at h1
    simp [List.getD, List.getElem?_eq_getElem (show sp + i < vs.length by omega)]
theorem own_arraycopy (X : own_At G p l e R s0 s EL P m args below meth c Z n0 own nm bytes maxL ret T h cells slots) {pc pc' : Nat} {Ls : Array Slot} {st : List Value} {a b : Addr} {kc kc' : ClassId} {ty ty' : FieldType} {vs vd : List Value} {js jd jn : Int32} {sp dp n i W : Nat}
    (w1 : (Cond.methodLink own i Jvm.Stand.acN).before a0 Z = true) (w2 : (Cond.native Jvm.Stand.acN).before a0 Z = true) (w3 : (Cond.static Jvm.Stand.acN).before a0 Z = true) (w4 : (Cond.initialized "java/lang/System").before a0 Z = true)
    (A : own_Arr Z h a kc ty vs) (B : own_Arr Z h b kc' ty' vd) (hty : (ty = ty' ∧ refKind ty = false) ∨ (refKind ty = true ∧ refKind ty' = true ∧ StoL Z h b ((vs.drop sp).take n))) (e1 : js.toInt = sp) (e2 : jd.toInt = dp) (e3 : jn.toInt = n) (l1 : sp + n ≤ vs.length) (l2 : dp + n ≤ vd.length) (ha : n0 ≤ b) (hnb : ty' ≠ .byte)
    (hsz : Ls.size = maxL) (hW : (st.map fun v => v.category).sum = W) (hd : decode bytes pc = .ok (.invokestatic i, 3)) (hp : pc' = pc + 3) (hf : 1 ≤ R.frames) (hlo : W + (nativeFrameWords "java/lang/System" "arraycopy" 5 + 11) ≤ R.locals)
    (k : ∀ T' h', own_At G p l e R s0 s EL P m args below meth c Z n0 own nm bytes maxL ret T' h' cells slots → Keep h h' [b] → own_Arr Z h' b kc' ty' (vd.take dp ++ (vs.drop sp).take n ++ vd.drop (dp + n)) → G T' (mkF m pc' Ls st)) : G T (mkF m pc Ls (.int jn :: .int jd :: .ref b :: .int js :: .ref a :: st)) := by
  obtain ⟨hG, ⟨c1, c2, hZ, hown, c5, c6⟩, L, X, N, eT, O⟩ := X
  subst hp
  have nn : ∀ {j : Int32} {q : Nat}, j.toInt = q → ¬ j < 0 ∧ j.toNatClampNeg = q := fun {j q} hj => ⟨by rw [Int32.lt_iff_toInt_lt, hj]; simp, by simp only [Int32.toNatClampNeg, hj]; omega⟩
  have la : vs.length < 2 ^ 31 := by obtain ⟨_, -, -, -, q, -⟩ := A; exact q
  have lb : vd.length < 2 ^ 31 := by obtain ⟨_, -, -, -, q, -⟩ := B; exact q
  have za : (Int32.ofNat vs.length).toNatClampNeg = vs.length := (nn (len_toInt la)).2
  have zb : (Int32.ofNat vd.length).toNatClampNeg = vd.length := (nn (len_toInt lb)).2
  obtain ⟨T', h', L', X', e', N', K', B', st'⟩ := cpA X c1 hZ hown w1 w2 w3 w4 eT (A.arv (d := .null) rfl) (B.arv (d := .null) rfl) (us := (vs.drop sp).take n) (hty.imp id fun q => q) (sp := js) (dp := jd) (nn := jn) (nn e1).1 (nn e2).1 (nn e3).1 (by rw [(nn e1).2, (nn e3).2, za]; exact l1) (by rw [(nn e2).2, (nn e3).2, zb]; exact l2) (by rw [(nn e1).2, (nn e3).2]; exact (own_range l1).symm) (by rw [(nn e2).2, (nn e3).2]; exact l2) N ha (g := mkF m pc Ls (.int jn :: .int jd :: .ref b :: .int js :: .ref a :: st)) rfl (hsz.trans c5.symm) rfl (hb c2 hd) hf (W := W) (by show 2 * 0 + _ ≤ _; rw [hW]; omega) hlo
  rw [(nn e2).2, (nn e3).2] at B'
  refine hG _ _ _ _ st' (k _ _ ⟨hG, ⟨c1, c2, hZ, hown, c5, c6⟩, _, X', N', e', O.keepS K' (allS ha all0) (allS (by obtain ⟨cb, Ab, -⟩ := B; exact Safe.arr hZ.alike Ab hnb) all0)⟩ K' (own_Arr.of_arv B' ?_))
  rw [zb]; simp; omega
theorem own_mapL {xs : List Int64} {i : Nat} (h : i < xs.length) : (xs.map Value.long)[i]? = some (.long (xs.getD i 0)) := by simp [List.getD, List.getElem?_eq_getElem h]
theorem own_mapI {xs : List Int32} {i : Nat} (h : i < xs.length) : (xs.map Value.int)[i]? = some (.int (xs.getD i 0)) := by simp [List.getD, List.getElem?_eq_getElem h]
theorem own_setL {xs : List Int64} {i : Nat} {x : Int64} : (xs.map Value.long).set i (.long x) = (xs.set i x).map Value.long := List.map_set.symm
theorem own_setI {xs : List Int32} {i : Nat} {x : Int32} : (xs.map Value.int).set i (.int x) = (xs.set i x).map Value.int := List.map_set.symm
theorem own_laloadM (X : own_At G p l e R s0 s EL P m args below meth c Z n0 own nm bytes maxL ret T h cells slots) {pc pc' : Nat} {Ls : Array Slot} {st : List Value} {a : Addr} {kc : ClassId} {xs : List Int64} {j : Int32} {i : Nat} {x : Int64} (F : own_Arr Z h a kc .long (xs.map Value.long)) (hj : j.toInt = i) (hi : i < xs.length) (hx : xs.getD i 0 = x) (hd : decode bytes pc = .ok (.laload, 1)) (hp : pc' = pc + 1) (k : G T (mkF m pc' Ls (.long x :: st))) : G T (mkF m pc Ls (.int j :: .ref a :: st)) :=
  own_laload X F hj (by rw [own_mapL hi, hx]) hd hp k
theorem own_ialoadM (X : own_At G p l e R s0 s EL P m args below meth c Z n0 own nm bytes maxL ret T h cells slots) {pc pc' : Nat} {Ls : Array Slot} {st : List Value} {a : Addr} {kc : ClassId} {xs : List Int32} {j : Int32} {i : Nat} {x : Int32} (F : own_Arr Z h a kc .int (xs.map Value.int)) (hj : j.toInt = i) (hi : i < xs.length) (hx : xs.getD i 0 = x) (hd : decode bytes pc = .ok (.iaload, 1)) (hp : pc' = pc + 1) (k : G T (mkF m pc' Ls (.int x :: st))) : G T (mkF m pc Ls (.int j :: .ref a :: st)) :=
  own_iaload X F hj (by rw [own_mapI hi, hx]) hd hp k
theorem own_lastoreM (X : own_At G p l e R s0 s EL P m args below meth c Z n0 own nm bytes maxL ret T h cells slots) {pc pc' : Nat} {Ls : Array Slot} {st : List Value} {a : Addr} {kc : ClassId} {xs : List Int64} {j : Int32} {i : Nat} {x : Int64} (F : own_Arr Z h a kc .long (xs.map Value.long)) (hj : j.toInt = i) (hi : i < xs.length) (ha : n0 ≤ a) (hd : decode bytes pc = .ok (.lastore, 1)) (hp : pc' = pc + 1)
    (k : ∀ T' h', own_At G p l e R s0 s EL P m args below meth c Z n0 own nm bytes maxL ret T' h' cells slots → Keep h h' [a] → own_Arr Z h' a kc .long ((xs.set i x).map Value.long) → G T' (mkF m pc' Ls st)) : G T (mkF m pc Ls (.long x :: .int j :: .ref a :: st)) :=
  own_lastore X F hj (by simpa using hi) ha hd hp (fun T' h' X' K' A' => k T' h' X' K' (own_setL ▸ A'))
theorem own_iastoreM (X : own_At G p l e R s0 s EL P m args below meth c Z n0 own nm bytes maxL ret T h cells slots) {pc pc' : Nat} {Ls : Array Slot} {st : List Value} {a : Addr} {kc : ClassId} {xs : List Int32} {j : Int32} {i : Nat} {x : Int32} (F : own_Arr Z h a kc .int (xs.map Value.int)) (hj : j.toInt = i) (hi : i < xs.length) (ha : n0 ≤ a) (hd : decode bytes pc = .ok (.iastore, 1)) (hp : pc' = pc + 1)
    (k : ∀ T' h', own_At G p l e R s0 s EL P m args below meth c Z n0 own nm bytes maxL ret T' h' cells slots → Keep h h' [a] → own_Arr Z h' a kc .int ((xs.set i x).map Value.int) → G T' (mkF m pc' Ls st)) : G T (mkF m pc Ls (.int x :: .int j :: .ref a :: st)) :=
  own_iastore X F hj (by simpa using hi) ha hd hp (fun T' h' X' K' A' => k T' h' X' K' (own_setI ▸ A'))
theorem own_neA {a b : Addr} {C : String} {k : Nat} {kc : ClassId} {ty : FieldType} {vs : List Value} (E : Exa Z h a C) (wi : (Cond.instantiable C k).before a0 Z = true) (F : own_Arr Z h b kc ty vs) : a ≠ b := by
  obtain ⟨c, A, -⟩ := F; exact ne_arr E wi A
theorem own_neT {a b : Addr} {kc kc' : ClassId} {ty ty' : FieldType} {vs vs' : List Value} (F : own_Arr Z h a kc ty vs) (F' : own_Arr Z h b kc' ty' vs') (hn : ty ≠ ty') : a ≠ b := fun e => by
  subst e
  obtain ⟨c, A, -⟩ := F
  obtain ⟨c', A', -⟩ := F'
  cases A.1.symm.trans A'.1
  obtain ⟨-, k, h1, comp, h2⟩ := A.2.1
  obtain ⟨-, k', g1, comp', g2⟩ := A'.2.1
  cases h1.symm.trans g1
  rw [h2] at g2; cases g2; exact hn rfl
theorem own_dup_x2 (X : own_At G p l e R s0 s EL P m args below meth c Z n0 own nm bytes maxL ret T h cells slots) {pc pc' : Nat} {Ls : Array Slot} {st : List Value} {x y z : Value} (hd : decode bytes pc = .ok (.dup_x2, 1)) (hp : pc' = pc + 1) (hc : x.category = 1) (hc2 : y.category = 1) (hc3 : z.category = 1) (k : G T (mkF m pc' Ls (x :: y :: z :: x :: st))) : G T (mkF m pc Ls (x :: y :: z :: st)) := by
  obtain ⟨hG, ⟨c1, c2, -⟩, L, X, -⟩ := X
  subst hp
  refine hG _ _ _ _ (fun t q => ?_) k
  jvm_step X.here [X.here.top, c1, hb c2 hd, dup_x2.wp_sem, hc, hc2, hc3]
  exact q
theorem own_dup2 (X : own_At G p l e R s0 s EL P m args below meth c Z n0 own nm bytes maxL ret T h cells slots) {pc pc' : Nat} {Ls : Array Slot} {st : List Value} {x y : Value} (hd : decode bytes pc = .ok (.dup2, 1)) (hp : pc' = pc + 1) (hc : x.category = 1) (hc2 : y.category = 1) (k : G T (mkF m pc' Ls (x :: y :: x :: y :: st))) : G T (mkF m pc Ls (x :: y :: st)) := by
  obtain ⟨hG, ⟨c1, c2, -⟩, L, X, -⟩ := X
  subst hp
  exact hG _ _ _ _ (fun t q => Jvm.Free.XT.dup2 X.here c1 rfl (hb c2 hd) rfl hc hc2 q) k
end OwnArr
def own_EL : List (String × Nat) := [("com/example/periwinkle/periwinkle/Name", 69)]
set_option maxRecDepth 65536 in
theorem own_in_atoms : ∀ d ∈ Bundle.stringAtoms, d ∈ tables_1 := by decide +kernel
theorem own_allN {P : String × Nat → Prop} : ∀ x ∈ ([] : List (String × Nat)), P x := fun _ q => nomatch q
theorem own_allP {P : String × Nat → Prop} {y : String × Nat} {L : List (String × Nat)} (q : P y) (r : ∀ x ∈ L, P x) : ∀ x ∈ y :: L, P x := fun x z => (List.mem_cons.mp z).elim (fun u => u ▸ q) (r x)
theorem own_held {s : State} {o : String} {i : Nat} (h : Jvm.Pilot.@@N@@.Jvm.D.constHeld s o i) : Jvm.Lit.constHeld s o i := h
theorem own_cw {s : State} {a a' : Array Value} (h : (Jvm.Cond.not (Jvm.Cond.eq (Jvm.Term.static "java/lang/String" "COMPACT_STRINGS" "Z") (Jvm.Term.int (0 : Int32)))).before a s = true) : Jvm.Lit.compactW.before a' s = true := h
theorem own_StrLit {Z : State} {h : Heap} {x t : Addr} {kb : ClassId} {vs : List Value} {cs : List Int32} (E : Exa Z h x "java/lang/String") (V : Fld Z h x "java/lang/String" "value" "[B" (.ref t)) (C : Fld Z h x "java/lang/String" "coder" "B" (.int 0)) (A : own_Arr Z h t kb .byte vs) (hv : (cs.map fun c => Value.int c.toInt8.toInt32) = vs) (hp : ∀ c ∈ cs, ¬ c < 0 ∧ ¬ (255 : Int32) < c) (hl : cs.length ≤ 4000) : own_Str Z h x t cs :=
  ⟨E, V, kb, _, _, 0, C, A.arv (d := .int 0) rfl, by subst hv; have := StrChars.Road.codOf (cs := cs) rfl (fun c hc => (hp c hc).2); simpa [List.map_map, Function.comp_def, StrChars.lo8] using this, own_up hp, hl⟩
def own_Alw (c : Int32) : Prop := (65 ≤ c.toInt ∧ c.toInt ≤ 90) ∨ (97 ≤ c.toInt ∧ c.toInt ≤ 122) ∨ (48 ≤ c.toInt ∧ c.toInt ≤ 57) ∨ c = 46 ∨ c = 95 ∨ c = 45 ∨ c = 58
theorem own_ltk {c k : Int32} {z : Int} (e : k.toInt = z) (h : c.toInt < z) : c < k := by rw [Int32.lt_iff_toInt_lt]; omega
theorem own_nltk {c k : Int32} {z : Int} (e : k.toInt = z) (h : z ≤ c.toInt) : ¬ c < k := by rw [Int32.lt_iff_toInt_lt]; omega
theorem own_gtk {c k : Int32} {z : Int} (e : k.toInt = z) (h : z < c.toInt) : k < c := by rw [Int32.lt_iff_toInt_lt]; omega
theorem own_ngtk {c k : Int32} {z : Int} (e : k.toInt = z) (h : c.toInt ≤ z) : ¬ k < c := by rw [Int32.lt_iff_toInt_lt]; omega
theorem own_Alw.b {c : Int32} (h : own_Alw c) : 0 ≤ c.toInt ∧ c.toInt ≤ 255 := by
  rcases h with h | h | h | rfl | rfl | rfl | rfl <;> first | omega | decide
theorem own_Alw.c {c : Int32} (h : own_Alw c) : ¬ c < 0 ∧ ¬ (255 : Int32) < c := ⟨own_nltk (z := 0) (by decide) h.b.1, own_ngtk (z := 255) (by decide) h.b.2⟩
theorem own_c16id {x : Int32} (h : 0 ≤ x.toInt) (h' : x.toInt < 65536) : own_c16 x = x := by
  have q := c_i2c x
  apply Int32.toInt_inj.mp
  show x.toUInt32.toUInt16.toUInt32.toInt32.toInt = x.toInt
  omega
theorem own_Alw.n {c : Int32} (h : own_Alw c) : nar .char c = c := by
  have q := h.b
  exact own_c16id (by omega) (by omega)
theorem own_66 (k : Int32) : 0 ≤ ((k &&& 2147483647) % 66).toInt ∧ ((k &&& 2147483647) % 66).toInt < 66 := by
  have q := (c_and k 2147483647 (by decide)).1
  have r := (c_irem (k &&& 2147483647) 66 66 (by decide)).1 q
  omega
theorem own_up1 {r : Int32} (h : 0 ≤ r.toInt) (h1 : r < 26) : own_Alw (own_c16 (65 + r)) := by
  rw [Int32.lt_iff_toInt_lt, show (26 : Int32).toInt = 26 by decide] at h1
  have a := c_iadd 65 r
  rw [show (65 : Int32).toInt = 65 by decide] at a
  have b := Int32.toInt_lt (65 + r)
  have b2 := Int32.le_toInt (65 + r)
  have e : (65 + r).toInt = 65 + r.toInt := by omega
  rw [own_c16id (by omega) (by omega)]
  exact Or.inl (by omega)
theorem own_up2 {r : Int32} (h : ¬ r < 26) (h1 : r < 52) : own_Alw (own_c16 (97 + (r - 26))) := by
  rw [Int32.lt_iff_toInt_lt, show (26 : Int32).toInt = 26 by decide] at h
  rw [Int32.lt_iff_toInt_lt, show (52 : Int32).toInt = 52 by decide] at h1
  have a0 := c_isub r 26
  rw [show (26 : Int32).toInt = 26 by decide] at a0
  have a1 := Int32.toInt_lt (r - 26)
  have a2 := Int32.le_toInt (r - 26)
  have a := c_iadd 97 (r - 26)
  rw [show (97 : Int32).toInt = 97 by decide] at a
  have b := Int32.toInt_lt (97 + (r - 26))
  have b2 := Int32.le_toInt (97 + (r - 26))
  have e : (97 + (r - 26)).toInt = 97 + (r.toInt - 26) := by omega
  rw [own_c16id (by omega) (by omega)]
  exact Or.inr (Or.inl (by omega))
theorem own_up3 {r : Int32} (h : ¬ r < 52) (h1 : r < 62) : own_Alw (own_c16 (48 + (r - 52))) := by
  rw [Int32.lt_iff_toInt_lt, show (52 : Int32).toInt = 52 by decide] at h
  rw [Int32.lt_iff_toInt_lt, show (62 : Int32).toInt = 62 by decide] at h1
  have a0 := c_isub r 52
  rw [show (52 : Int32).toInt = 52 by decide] at a0
  have a1 := Int32.toInt_lt (r - 52)
  have a2 := Int32.le_toInt (r - 52)
  have a := c_iadd 48 (r - 52)
  rw [show (48 : Int32).toInt = 48 by decide] at a
  have b := Int32.toInt_lt (48 + (r - 52))
  have b2 := Int32.le_toInt (48 + (r - 52))
  have e : (48 + (r - 52)).toInt = 48 + (r.toInt - 52) := by omega
  rw [own_c16id (by omega) (by omega)]
  exact Or.inr (Or.inr (Or.inl (by omega)))
def own_mk (n c0 c1 c2 c3 : Int32) : List Int32 := if n = 1 then [c0] else if n = 2 then [c0, c1] else if n = 3 then [c0, c1, c2] else [c0, c1, c2, c3]
def own_14 (n : Int32) : Prop := n = 1 ∨ n = 2 ∨ n = 3 ∨ n = 4
theorem own_len14 (x : Int32) : own_14 (1 + (x &&& 3)) := by
  have q := c_and x 3 (by decide)
  have e3 : (3 : Int32).toInt = 3 := by decide
  rw [e3] at q
  have k : (x &&& 3) = 0 ∨ (x &&& 3) = 1 ∨ (x &&& 3) = 2 ∨ (x &&& 3) = 3 := by
    have : (x &&& 3).toInt = 0 ∨ (x &&& 3).toInt = 1 ∨ (x &&& 3).toInt = 2 ∨ (x &&& 3).toInt = 3 := by omega
    rcases this with z | z | z | z
    · exact Or.inl (Int32.toInt_inj.mp (z.trans (by decide)))
    · exact Or.inr (Or.inl (Int32.toInt_inj.mp (z.trans (by decide))))
    · exact Or.inr (Or.inr (Or.inl (Int32.toInt_inj.mp (z.trans (by decide)))))
    · exact Or.inr (Or.inr (Or.inr (Int32.toInt_inj.mp (z.trans (by decide)))))
  rcases k with z | z | z | z <;> rw [z]
  · exact Or.inl (by decide)
  · exact Or.inr (Or.inl (by decide))
  · exact Or.inr (Or.inr (Or.inl (by decide)))
  · exact Or.inr (Or.inr (Or.inr (by decide)))
theorem own_14nz {n : Int32} (h : own_14 n) : n ≠ 0 := by rcases h with rfl | rfl | rfl | rfl <;> decide
theorem own_mkl {n c0 c1 c2 c3 : Int32} (h : own_14 n) (a0 : own_Alw c0) (a1 : own_Alw c1) (a2 : own_Alw c2) (a3 : own_Alw c3) : (own_mk n c0 c1 c2 c3 = [c0] ∨ own_mk n c0 c1 c2 c3 = [c0, c1] ∨ own_mk n c0 c1 c2 c3 = [c0, c1, c2] ∨ own_mk n c0 c1 c2 c3 = [c0, c1, c2, c3]) ∧ ∀ c ∈ own_mk n c0 c1 c2 c3, own_Alw c := by
  rcases h with rfl | rfl | rfl | rfl <;> simp [own_mk, *]
def own_ex (la lb a0 a1 a2 a3 b0 b1 b2 b3 : Int32) : Int32 := if own_mk la a0 a1 a2 a3 = own_mk lb b0 b1 b2 b3 then 1 else 0
theorem own_exc {la lb a0 a1 a2 a3 b0 b1 b2 b3 : Int32} : (if own_mk lb b0 b1 b2 b3 = own_mk la a0 a1 a2 a3 then (1 : Int32) else 0) = own_ex la lb a0 a1 a2 a3 b0 b1 b2 b3 := own_ifc ⟨Eq.symm, Eq.symm⟩
set_option maxRecDepth 65536 in
theorem own_in_words : ∀ d ∈ StrChars.Road.words, d ∈ tables_1 := by decide +kernel
set_option maxRecDepth 65536 in
theorem own_in_wordsLen : ∀ d ∈ StrChars.Road.wordsLen, d ∈ tables_1 := by decide +kernel
set_option maxRecDepth 65536 in
theorem own_in_wordsChN : ∀ d ∈ StrChars.Road.wordsChN, d ∈ tables_1 := by decide +kernel
set_option maxRecDepth 65536 in
theorem own_in_wordsEq : ∀ d ∈ StrChars.Road.wordsEq, d ∈ tables_1 := by decide +kernel
set_option maxRecDepth 65536 in
theorem own_in_wordsEmp : ∀ d ∈ StrChars.Road.wordsEmp, d ∈ tables_1 := by decide +kernel
theorem dd_method_2_0 : decode method_2_code 0 = .ok (.iload_n 0, 1) := by decide +kernel
theorem dd_method_2_1 : decode method_2_code 1 = .ok (.ldc 7, 2) := by decide +kernel
theorem dd_method_2_3 : decode method_2_code 3 = .ok (.iand, 1) := by decide +kernel
theorem dd_method_2_4 : decode method_2_code 4 = .ok (.bipush 66, 2) := by decide +kernel
theorem dd_method_2_6 : decode method_2_code 6 = .ok (.irem, 1) := by decide +kernel
theorem dd_method_2_7 : decode method_2_code 7 = .ok (.istore_n 1, 1) := by decide +kernel
theorem dd_method_2_8 : decode method_2_code 8 = .ok (.iload_n 1, 1) := by decide +kernel
theorem dd_method_2_9 : decode method_2_code 9 = .ok (.bipush 26, 2) := by decide +kernel
theorem dd_method_2_11 : decode method_2_code 11 = .ok (.if_icmp .ge 9, 3) := by decide +kernel
theorem dd_method_2_14 : decode method_2_code 14 = .ok (.bipush 65, 2) := by decide +kernel
theorem dd_method_2_16 : decode method_2_code 16 = .ok (.iload_n 1, 1) := by decide +kernel
theorem dd_method_2_17 : decode method_2_code 17 = .ok (.iadd, 1) := by decide +kernel
theorem dd_method_2_18 : decode method_2_code 18 = .ok (.i2c, 1) := by decide +kernel
theorem dd_method_2_19 : decode method_2_code 19 = .ok (.ireturn, 1) := by decide +kernel
theorem dd_method_2_20 : decode method_2_code 20 = .ok (.iload_n 1, 1) := by decide +kernel
theorem dd_method_2_21 : decode method_2_code 21 = .ok (.bipush 52, 2) := by decide +kernel
theorem dd_method_2_23 : decode method_2_code 23 = .ok (.if_icmp .ge 12, 3) := by decide +kernel
theorem dd_method_2_26 : decode method_2_code 26 = .ok (.bipush 97, 2) := by decide +kernel
theorem dd_method_2_28 : decode method_2_code 28 = .ok (.iload_n 1, 1) := by decide +kernel
theorem dd_method_2_29 : decode method_2_code 29 = .ok (.bipush 26, 2) := by decide +kernel
theorem dd_method_2_31 : decode method_2_code 31 = .ok (.isub, 1) := by decide +kernel
theorem dd_method_2_32 : decode method_2_code 32 = .ok (.iadd, 1) := by decide +kernel
theorem dd_method_2_33 : decode method_2_code 33 = .ok (.i2c, 1) := by decide +kernel
theorem dd_method_2_34 : decode method_2_code 34 = .ok (.ireturn, 1) := by decide +kernel
theorem dd_method_2_35 : decode method_2_code 35 = .ok (.iload_n 1, 1) := by decide +kernel
theorem dd_method_2_36 : decode method_2_code 36 = .ok (.bipush 62, 2) := by decide +kernel
theorem dd_method_2_38 : decode method_2_code 38 = .ok (.if_icmp .ge 12, 3) := by decide +kernel
theorem dd_method_2_41 : decode method_2_code 41 = .ok (.bipush 48, 2) := by decide +kernel
theorem dd_method_2_43 : decode method_2_code 43 = .ok (.iload_n 1, 1) := by decide +kernel
theorem dd_method_2_44 : decode method_2_code 44 = .ok (.bipush 52, 2) := by decide +kernel
theorem dd_method_2_46 : decode method_2_code 46 = .ok (.isub, 1) := by decide +kernel
theorem dd_method_2_47 : decode method_2_code 47 = .ok (.iadd, 1) := by decide +kernel
theorem dd_method_2_48 : decode method_2_code 48 = .ok (.i2c, 1) := by decide +kernel
theorem dd_method_2_49 : decode method_2_code 49 = .ok (.ireturn, 1) := by decide +kernel
theorem dd_method_2_50 : decode method_2_code 50 = .ok (.iload_n 1, 1) := by decide +kernel
theorem dd_method_2_51 : decode method_2_code 51 = .ok (.bipush 62, 2) := by decide +kernel
theorem dd_method_2_53 : decode method_2_code 53 = .ok (.if_icmp .ne 6, 3) := by decide +kernel
theorem dd_method_2_56 : decode method_2_code 56 = .ok (.bipush 46, 2) := by decide +kernel
theorem dd_method_2_58 : decode method_2_code 58 = .ok (.ireturn, 1) := by decide +kernel
theorem dd_method_2_59 : decode method_2_code 59 = .ok (.iload_n 1, 1) := by decide +kernel
theorem dd_method_2_60 : decode method_2_code 60 = .ok (.bipush 63, 2) := by decide +kernel
theorem dd_method_2_62 : decode method_2_code 62 = .ok (.if_icmp .ne 6, 3) := by decide +kernel
theorem dd_method_2_65 : decode method_2_code 65 = .ok (.bipush 95, 2) := by decide +kernel
theorem dd_method_2_67 : decode method_2_code 67 = .ok (.ireturn, 1) := by decide +kernel
theorem dd_method_2_68 : decode method_2_code 68 = .ok (.iload_n 1, 1) := by decide +kernel
theorem dd_method_2_69 : decode method_2_code 69 = .ok (.bipush 64, 2) := by decide +kernel
theorem dd_method_2_71 : decode method_2_code 71 = .ok (.if_icmp .ne 6, 3) := by decide +kernel
theorem dd_method_2_74 : decode method_2_code 74 = .ok (.bipush 45, 2) := by decide +kernel
theorem dd_method_2_76 : decode method_2_code 76 = .ok (.ireturn, 1) := by decide +kernel
theorem dd_method_2_77 : decode method_2_code 77 = .ok (.bipush 58, 2) := by decide +kernel
theorem dd_method_2_79 : decode method_2_code 79 = .ok (.ireturn, 1) := by decide +kernel
theorem pn_0 : plainName "com/example/periwinkle/periwinkle/NameEqualsPinLaw" = true := by first | (simp [plainName, overriddenIn]; done) | decide +kernel
theorem ef_own_allowed (m : MethodId) (x0 : Int32) : entryFrame m #[(.int x0)] 2 = mkF m 0 #[.val (.int x0), .unset] [] := by first | (simp [entryFrame, mkF, argsToLocals, Value.category]; done) | rfl
set_option maxRecDepth 65536 in
set_option maxHeartbeats 40000000 in
theorem own_allowed (l : Launch) (Z : State) (a0 : Array Value) (hw : ∀ d ∈ tables_1, d.before a0 Z = true) (EWf : own_EW Z own_EL) (n0 : Nat) (k : Int32) (h0 : Heap) (O0 : Old Z n0 h0)  :
    own_Met l Z own_EL [] n0 (⟨"com/example/periwinkle/periwinkle/NameEqualsPinLaw", "allowed", "(I)C"⟩ : MethodName) method_2_code 2 (some .char) ({ frames := 0, cells := 0, slots := 0, locals := 0 } : Room) #[(.int k)] h0 (fun v h => (∃ c : Int32, v = some (.int c) ∧ own_Alw c) ∧ h0 = h) := by
  refine own_enter (own := "com/example/periwinkle/periwinkle/NameEqualsPinLaw") (nm := "allowed") (plainFor_of_name pn_0) rfl rfl O0 EWf ?_
  have W : ∀ (k : Nat) {d : Jvm.Cond}, tables_1[k]? = some d → d.before a0 Z = true := fun k d q => hw d (List.mem_of_getElem? q)
  intro G p e s m below meth c T0 hGe X0
  rw [ef_own_allowed m k]
  refine own_iload_n (pc' := 1) X0 dd_method_2_0 rfl rfl ?_
  refine own_ldcI (pc' := 3) X0 (v := (2147483647 : Int32)) (W 4 rfl) dd_method_2_1 rfl ?_
  refine own_iand (pc' := 4) X0 dd_method_2_3 rfl (r := (k &&& (2147483647 : Int32))) rfl ?_
  refine own_bipush (pc' := 6) X0 dd_method_2_4 rfl (z := (66 : Int32)) (by decide) ?_
  refine own_irem (pc' := 7) X0 dd_method_2_6 rfl (by decide) ?_
  refine own_istore_n (pc' := 8) X0 dd_method_2_7 rfl (Ls' := #[.val (.int k), .val (.int ((k &&& (2147483647 : Int32)) % (66 : Int32)))]) rfl ?_
  have hr := own_66 k
  generalize (k &&& (2147483647 : Int32)) % (66 : Int32) = r at hr ⊢
  show G T0 (mkF m 8 #[.val (.int k), .val (.int r)] [])
  refine own_iload_n (pc' := 9) X0 dd_method_2_8 rfl rfl ?_
  refine own_bipush (pc' := 11) X0 dd_method_2_9 rfl (z := (26 : Int32)) (by decide) ?_
  by_cases h11 : r < (26 : Int32)
  · refine own_icmpN (pc' := 14) X0 dd_method_2_11 rfl ((tlt h11).2.1) ?_
    refine own_bipush (pc' := 16) X0 dd_method_2_14 rfl (z := (65 : Int32)) (by decide) ?_
    refine own_iload_n (pc' := 17) X0 dd_method_2_16 rfl rfl ?_
    refine own_iadd (pc' := 18) X0 dd_method_2_17 rfl (r := ((65 : Int32) + r)) rfl ?_
    refine own_i2c (pc' := 19) X0 dd_method_2_18 rfl ?_
    exact own_ret X0 hGe (t := .char) rfl (congrArg Value.int (own_Alw.n (own_up1 hr.1 h11))) (Or.inl ⟨rfl, by simp, _, rfl⟩) dd_method_2_19 (by decide) (by decide) ⟨⟨_, rfl, (own_up1 hr.1 h11)⟩, rfl⟩
  · refine own_icmpY (pc' := 20) X0 dd_method_2_11 ((flt h11).2.1) (by decide) (by decide) ?_
    refine own_iload_n (pc' := 21) X0 dd_method_2_20 rfl rfl ?_
    refine own_bipush (pc' := 23) X0 dd_method_2_21 rfl (z := (52 : Int32)) (by decide) ?_
    by_cases h23 : r < (52 : Int32)
    · refine own_icmpN (pc' := 26) X0 dd_method_2_23 rfl ((tlt h23).2.1) ?_
      refine own_bipush (pc' := 28) X0 dd_method_2_26 rfl (z := (97 : Int32)) (by decide) ?_
      refine own_iload_n (pc' := 29) X0 dd_method_2_28 rfl rfl ?_
      refine own_bipush (pc' := 31) X0 dd_method_2_29 rfl (z := (26 : Int32)) (by decide) ?_
      refine own_isub (pc' := 32) X0 dd_method_2_31 rfl (r := (r - (26 : Int32))) rfl ?_
      refine own_iadd (pc' := 33) X0 dd_method_2_32 rfl (r := ((97 : Int32) + (r - (26 : Int32)))) rfl ?_
      refine own_i2c (pc' := 34) X0 dd_method_2_33 rfl ?_
      exact own_ret X0 hGe (t := .char) rfl (congrArg Value.int (own_Alw.n (own_up2 h11 h23))) (Or.inl ⟨rfl, by simp, _, rfl⟩) dd_method_2_34 (by decide) (by decide) ⟨⟨_, rfl, (own_up2 h11 h23)⟩, rfl⟩
    · refine own_icmpY (pc' := 35) X0 dd_method_2_23 ((flt h23).2.1) (by decide) (by decide) ?_
      refine own_iload_n (pc' := 36) X0 dd_method_2_35 rfl rfl ?_
      refine own_bipush (pc' := 38) X0 dd_method_2_36 rfl (z := (62 : Int32)) (by decide) ?_
      by_cases h38 : r < (62 : Int32)
      · refine own_icmpN (pc' := 41) X0 dd_method_2_38 rfl ((tlt h38).2.1) ?_
        refine own_bipush (pc' := 43) X0 dd_method_2_41 rfl (z := (48 : Int32)) (by decide) ?_
        refine own_iload_n (pc' := 44) X0 dd_method_2_43 rfl rfl ?_
        refine own_bipush (pc' := 46) X0 dd_method_2_44 rfl (z := (52 : Int32)) (by decide) ?_
        refine own_isub (pc' := 47) X0 dd_method_2_46 rfl (r := (r - (52 : Int32))) rfl ?_
        refine own_iadd (pc' := 48) X0 dd_method_2_47 rfl (r := ((48 : Int32) + (r - (52 : Int32)))) rfl ?_
        refine own_i2c (pc' := 49) X0 dd_method_2_48 rfl ?_
        exact own_ret X0 hGe (t := .char) rfl (congrArg Value.int (own_Alw.n (own_up3 h23 h38))) (Or.inl ⟨rfl, by simp, _, rfl⟩) dd_method_2_49 (by decide) (by decide) ⟨⟨_, rfl, (own_up3 h23 h38)⟩, rfl⟩
      · refine own_icmpY (pc' := 50) X0 dd_method_2_38 ((flt h38).2.1) (by decide) (by decide) ?_
        refine own_iload_n (pc' := 51) X0 dd_method_2_50 rfl rfl ?_
        refine own_bipush (pc' := 53) X0 dd_method_2_51 rfl (z := (62 : Int32)) (by decide) ?_
        by_cases h53 : r = (62 : Int32)
        · refine own_icmpN (pc' := 56) X0 dd_method_2_53 rfl ((teq h53).2) ?_
          refine own_bipush (pc' := 58) X0 dd_method_2_56 rfl (z := (46 : Int32)) (by decide) ?_
          exact own_ret X0 hGe (t := .char) rfl (by decide) (Or.inl ⟨rfl, by simp, _, rfl⟩) dd_method_2_58 (by decide) (by decide) ⟨⟨_, rfl, (Or.inr (Or.inr (Or.inr (Or.inl rfl))))⟩, rfl⟩
        · refine own_icmpY (pc' := 59) X0 dd_method_2_53 ((feq h53).2) (by decide) (by decide) ?_
          refine own_iload_n (pc' := 60) X0 dd_method_2_59 rfl rfl ?_
          refine own_bipush (pc' := 62) X0 dd_method_2_60 rfl (z := (63 : Int32)) (by decide) ?_
          by_cases h62 : r = (63 : Int32)
          · refine own_icmpN (pc' := 65) X0 dd_method_2_62 rfl ((teq h62).2) ?_
            refine own_bipush (pc' := 67) X0 dd_method_2_65 rfl (z := (95 : Int32)) (by decide) ?_
            exact own_ret X0 hGe (t := .char) rfl (by decide) (Or.inl ⟨rfl, by simp, _, rfl⟩) dd_method_2_67 (by decide) (by decide) ⟨⟨_, rfl, (Or.inr (Or.inr (Or.inr (Or.inr (Or.inl rfl)))))⟩, rfl⟩
          · refine own_icmpY (pc' := 68) X0 dd_method_2_62 ((feq h62).2) (by decide) (by decide) ?_
            refine own_iload_n (pc' := 69) X0 dd_method_2_68 rfl rfl ?_
            refine own_bipush (pc' := 71) X0 dd_method_2_69 rfl (z := (64 : Int32)) (by decide) ?_
            by_cases h71 : r = (64 : Int32)
            · refine own_icmpN (pc' := 74) X0 dd_method_2_71 rfl ((teq h71).2) ?_
              refine own_bipush (pc' := 76) X0 dd_method_2_74 rfl (z := (45 : Int32)) (by decide) ?_
              exact own_ret X0 hGe (t := .char) rfl (by decide) (Or.inl ⟨rfl, by simp, _, rfl⟩) dd_method_2_76 (by decide) (by decide) ⟨⟨_, rfl, (Or.inr (Or.inr (Or.inr (Or.inr (Or.inr (Or.inl rfl))))))⟩, rfl⟩
            · refine own_icmpY (pc' := 77) X0 dd_method_2_71 ((feq h71).2) (by decide) (by decide) ?_
              refine own_bipush (pc' := 79) X0 dd_method_2_77 rfl (z := (58 : Int32)) (by decide) ?_
              exact own_ret X0 hGe (t := .char) rfl (by decide) (Or.inl ⟨rfl, by simp, _, rfl⟩) dd_method_2_79 (by decide) (by decide) ⟨⟨_, rfl, (Or.inr (Or.inr (Or.inr (Or.inr (Or.inr (Or.inr rfl))))))⟩, rfl⟩
theorem dd_jdk_42_method_154_0 : decode jdk_42_method_154_code 0 = .ok (.getstatic 38, 3) := by decide +kernel
theorem dd_jdk_42_method_154_3 : decode jdk_42_method_154_code 3 = .ok (.ifCond .eq 14, 3) := by decide +kernel
theorem dd_jdk_42_method_154_6 : decode jdk_42_method_154_code 6 = .ok (.aload_n 0, 1) := by decide +kernel
theorem dd_jdk_42_method_154_7 : decode jdk_42_method_154_code 7 = .ok (.getfield 15, 3) := by decide +kernel
theorem dd_jdk_42_method_154_10 : decode jdk_42_method_154_code 10 = .ok (.ifCond .ne 7, 3) := by decide +kernel
theorem dd_jdk_42_method_154_13 : decode jdk_42_method_154_code 13 = .ok (.iconst 1, 1) := by decide +kernel
theorem dd_jdk_42_method_154_14 : decode jdk_42_method_154_code 14 = .ok (.goto 4, 3) := by decide +kernel
theorem dd_jdk_42_method_154_18 : decode jdk_42_method_154_code 18 = .ok (.ireturn, 1) := by decide +kernel
theorem pn_1 : plainName "java/lang/String" = true := by first | (simp [plainName, overriddenIn]; done) | decide +kernel
theorem ef_own_lat (m : MethodId) (x0 : Addr) : entryFrame m #[(.ref x0)] 1 = mkF m 0 #[.val (.ref x0)] [] := by first | (simp [entryFrame, mkF, argsToLocals, Value.category]; done) | rfl
set_option maxRecDepth 65536 in
set_option maxHeartbeats 40000000 in
theorem own_lat (l : Launch) (Z : State) (a0 : Array Value) (hw : ∀ d ∈ tables_1, d.before a0 Z = true) (EWf : own_EW Z own_EL) (n0 : Nat) (a : Addr) (h0 : Heap) (O0 : Old Z n0 h0) (p_C : Fld Z h0 a "java/lang/String" "coder" "B" (.int 0)) (CS : own_CS Z) :
    own_Met l Z own_EL [] n0 (⟨"java/lang/String", "isLatin1", "()Z"⟩ : MethodName) jdk_42_method_154_code 1 (some .boolean) ({ frames := 0, cells := 0, slots := 0, locals := 0 } : Room) #[(.ref a)] h0 (fun v h => v = some (.int 1) ∧ h0 = h) := by
  refine own_enter (own := "java/lang/String") (nm := "isLatin1") (plainFor_of_name pn_1) rfl rfl O0 EWf ?_
  have W : ∀ (k : Nat) {d : Jvm.Cond}, tables_1[k]? = some d → d.before a0 Z = true := fun k d q => hw d (List.mem_of_getElem? q)
  intro G p e s m below meth c T0 hGe X0
  rw [ef_own_lat m a]
  obtain ⟨zc, Sc, hzc⟩ := CS
  refine own_getS (pc' := 3) X0 (W 22 rfl) Via.refl (own_sta X0 Sc) dd_jdk_42_method_154_0 rfl ?_
  intro T1 X1
  refine own_ifN (pc' := 6) X1 dd_jdk_42_method_154_3 rfl ((feq hzc).1) ?_
  refine own_aload_n (pc' := 7) X1 dd_jdk_42_method_154_6 rfl rfl rfl ?_
  refine own_get (pc' := 10) X1 (host := "") (Or.inl (W 34 rfl)) Via.refl p_C dd_jdk_42_method_154_7 rfl ?_
  intro T2 X2
  refine own_ifN (pc' := 13) X2 dd_jdk_42_method_154_10 rfl ((teq rfl).2) ?_
  refine own_iconst (pc' := 14) X2 dd_jdk_42_method_154_13 rfl (z := (1 : Int32)) (by decide) ?_
  refine own_goto (pc' := 18) X2 dd_jdk_42_method_154_14 (by decide) (by decide) ?_
  exact own_ret X2 hGe (t := .boolean) rfl rfl (Or.inl ⟨rfl, by simp, _, rfl⟩) dd_jdk_42_method_154_18 (by decide) (by decide) ⟨rfl, rfl⟩
theorem dd_jdk_29_method_65_0 : decode jdk_29_method_65_code 0 = .ok (.iload_n 0, 1) := by decide +kernel
theorem dd_jdk_29_method_65_1 : decode jdk_29_method_65_code 1 = .ok (.iload_n 1, 1) := by decide +kernel
theorem dd_jdk_29_method_65_2 : decode jdk_29_method_65_code 2 = .ok (.if_icmp .lt 7, 3) := by decide +kernel
theorem dd_jdk_29_method_65_5 : decode jdk_29_method_65_code 5 = .ok (.iload_n 0, 1) := by decide +kernel
theorem dd_jdk_29_method_65_6 : decode jdk_29_method_65_code 6 = .ok (.goto 4, 3) := by decide +kernel
theorem dd_jdk_29_method_65_10 : decode jdk_29_method_65_code 10 = .ok (.ireturn, 1) := by decide +kernel
theorem pf_2 : plainFor (⟨"java/lang/Math", "max", "(II)I"⟩ : MethodName) = true := by decide +kernel
theorem ef_own_max0 (m : MethodId) (x0 : Int32) (x1 : Int32) : entryFrame m #[(.int x0), (.int x1)] 2 = mkF m 0 #[.val (.int x0), .val (.int x1)] [] := by first | (simp [entryFrame, mkF, argsToLocals, Value.category]; done) | rfl
set_option maxRecDepth 65536 in
set_option maxHeartbeats 40000000 in
theorem own_max0 (l : Launch) (Z : State) (a0 : Array Value) (hw : ∀ d ∈ tables_1, d.before a0 Z = true) (EWf : own_EW Z own_EL) (n0 : Nat)  (h0 : Heap) (O0 : Old Z n0 h0)  :
    own_Met l Z own_EL [] n0 (⟨"java/lang/Math", "max", "(II)I"⟩ : MethodName) jdk_29_method_65_code 2 (some .int) ({ frames := 0, cells := 0, slots := 0, locals := 0 } : Room) #[(.int (0 : Int32)), (.int (0 : Int32))] h0 (fun v h => v = some (.int 0) ∧ h0 = h) := by
  refine own_enter (own := "java/lang/Math") (nm := "max") pf_2 rfl rfl O0 EWf ?_
  have W : ∀ (k : Nat) {d : Jvm.Cond}, tables_1[k]? = some d → d.before a0 Z = true := fun k d q => hw d (List.mem_of_getElem? q)
  intro G p e s m below meth c T0 hGe X0
  rw [ef_own_max0 m ((0 : Int32)) ((0 : Int32))]
  refine own_iload_n (pc' := 1) X0 dd_jdk_29_method_65_0 rfl rfl ?_
  refine own_iload_n (pc' := 2) X0 dd_jdk_29_method_65_1 rfl rfl ?_
  refine own_icmpN (pc' := 5) X0 dd_jdk_29_method_65_2 rfl ((flt (by decide)).1) ?_
  refine own_iload_n (pc' := 6) X0 dd_jdk_29_method_65_5 rfl rfl ?_
  refine own_goto (pc' := 10) X0 dd_jdk_29_method_65_6 (by decide) (by decide) ?_
  exact own_ret X0 hGe (t := .int) rfl rfl (Or.inl ⟨rfl, by simp, _, rfl⟩) dd_jdk_29_method_65_10 (by decide) (by decide) ⟨rfl, rfl⟩
theorem dd_jdk_29_method_69_0 : decode jdk_29_method_69_code 0 = .ok (.iload_n 0, 1) := by decide +kernel
theorem dd_jdk_29_method_69_1 : decode jdk_29_method_69_code 1 = .ok (.iload_n 1, 1) := by decide +kernel
theorem dd_jdk_29_method_69_2 : decode jdk_29_method_69_code 2 = .ok (.if_icmp .gt 7, 3) := by decide +kernel
theorem dd_jdk_29_method_69_5 : decode jdk_29_method_69_code 5 = .ok (.iload_n 0, 1) := by decide +kernel
theorem dd_jdk_29_method_69_6 : decode jdk_29_method_69_code 6 = .ok (.goto 4, 3) := by decide +kernel
theorem dd_jdk_29_method_69_10 : decode jdk_29_method_69_code 10 = .ok (.ireturn, 1) := by decide +kernel
theorem pf_3 : plainFor (⟨"java/lang/Math", "min", "(II)I"⟩ : MethodName) = true := by decide +kernel
theorem ef_own_min4 (m : MethodId) (x0 : Int32) (x1 : Int32) : entryFrame m #[(.int x0), (.int x1)] 2 = mkF m 0 #[.val (.int x0), .val (.int x1)] [] := by first | (simp [entryFrame, mkF, argsToLocals, Value.category]; done) | rfl
set_option maxRecDepth 65536 in
set_option maxHeartbeats 40000000 in
theorem own_min4 (l : Launch) (Z : State) (a0 : Array Value) (hw : ∀ d ∈ tables_1, d.before a0 Z = true) (EWf : own_EW Z own_EL) (n0 : Nat)  (h0 : Heap) (O0 : Old Z n0 h0)  :
    own_Met l Z own_EL [] n0 (⟨"java/lang/Math", "min", "(II)I"⟩ : MethodName) jdk_29_method_69_code 2 (some .int) ({ frames := 0, cells := 0, slots := 0, locals := 0 } : Room) #[(.int (4 : Int32)), (.int (4 : Int32))] h0 (fun v h => v = some (.int 4) ∧ h0 = h) := by
  refine own_enter (own := "java/lang/Math") (nm := "min") pf_3 rfl rfl O0 EWf ?_
  have W : ∀ (k : Nat) {d : Jvm.Cond}, tables_1[k]? = some d → d.before a0 Z = true := fun k d q => hw d (List.mem_of_getElem? q)
  intro G p e s m below meth c T0 hGe X0
  rw [ef_own_min4 m ((4 : Int32)) ((4 : Int32))]
  refine own_iload_n (pc' := 1) X0 dd_jdk_29_method_69_0 rfl rfl ?_
  refine own_iload_n (pc' := 2) X0 dd_jdk_29_method_69_1 rfl rfl ?_
  refine own_icmpN (pc' := 5) X0 dd_jdk_29_method_69_2 rfl ((flt (by decide)).2.2.1) ?_
  refine own_iload_n (pc' := 6) X0 dd_jdk_29_method_69_5 rfl rfl ?_
  refine own_goto (pc' := 10) X0 dd_jdk_29_method_69_6 (by decide) (by decide) ?_
  exact own_ret X0 hGe (t := .int) rfl rfl (Or.inl ⟨rfl, by simp, _, rfl⟩) dd_jdk_29_method_69_10 (by decide) (by decide) ⟨rfl, rfl⟩
theorem dd_jdk_43_method_4_0 : decode jdk_43_method_4_code 0 = .ok (.iload_n 0, 1) := by decide +kernel
theorem dd_jdk_43_method_4_1 : decode jdk_43_method_4_code 1 = .ok (.ifCond .lt 14, 3) := by decide +kernel
theorem dd_jdk_43_method_4_4 : decode jdk_43_method_4_code 4 = .ok (.iload_n 0, 1) := by decide +kernel
theorem dd_jdk_43_method_4_5 : decode jdk_43_method_4_code 5 = .ok (.sipush 255, 3) := by decide +kernel
theorem dd_jdk_43_method_4_8 : decode jdk_43_method_4_code 8 = .ok (.if_icmp .gt 7, 3) := by decide +kernel
theorem dd_jdk_43_method_4_11 : decode jdk_43_method_4_code 11 = .ok (.iconst 1, 1) := by decide +kernel
theorem dd_jdk_43_method_4_12 : decode jdk_43_method_4_code 12 = .ok (.goto 4, 3) := by decide +kernel
theorem dd_jdk_43_method_4_16 : decode jdk_43_method_4_code 16 = .ok (.ireturn, 1) := by decide +kernel
theorem pn_4 : plainName "java/lang/StringLatin1" = true := by first | (simp [plainName, overriddenIn]; done) | decide +kernel
theorem ef_own_ce0 (m : MethodId) (x0 : Int32) : entryFrame m #[(.int x0)] 1 = mkF m 0 #[.val (.int x0)] [] := by first | (simp [entryFrame, mkF, argsToLocals, Value.category]; done) | rfl
set_option maxRecDepth 65536 in
set_option maxHeartbeats 40000000 in
theorem own_ce0 (l : Launch) (Z : State) (a0 : Array Value) (hw : ∀ d ∈ tables_1, d.before a0 Z = true) (EWf : own_EW Z own_EL) (n0 : Nat)  (h0 : Heap) (O0 : Old Z n0 h0)  :
    own_Met l Z own_EL [] n0 (⟨"java/lang/StringLatin1", "canEncode", "(I)Z"⟩ : MethodName) jdk_43_method_4_code 1 (some .boolean) ({ frames := 0, cells := 0, slots := 0, locals := 0 } : Room) #[(.int (46 : Int32))] h0 (fun v h => v = some (.int 1) ∧ h0 = h) := by
  refine own_enter (own := "java/lang/StringLatin1") (nm := "canEncode") (plainFor_of_name pn_4) rfl rfl O0 EWf ?_
  have W : ∀ (k : Nat) {d : Jvm.Cond}, tables_1[k]? = some d → d.before a0 Z = true := fun k d q => hw d (List.mem_of_getElem? q)
  intro G p e s m below meth c T0 hGe X0
  rw [ef_own_ce0 m ((46 : Int32))]
  refine own_iload_n (pc' := 1) X0 dd_jdk_43_method_4_0 rfl rfl ?_
  refine own_ifN (pc' := 4) X0 dd_jdk_43_method_4_1 rfl ((flt (by decide)).1) ?_
  refine own_iload_n (pc' := 5) X0 dd_jdk_43_method_4_4 rfl rfl ?_
  refine own_sipush (pc' := 8) X0 dd_jdk_43_method_4_5 rfl (z := (255 : Int32)) (by decide) ?_
  refine own_icmpN (pc' := 11) X0 dd_jdk_43_method_4_8 rfl ((flt (by decide)).2.2.1) ?_
  refine own_iconst (pc' := 12) X0 dd_jdk_43_method_4_11 rfl (z := (1 : Int32)) (by decide) ?_
  refine own_goto (pc' := 16) X0 dd_jdk_43_method_4_12 (by decide) (by decide) ?_
  exact own_ret X0 hGe (t := .boolean) rfl rfl (Or.inl ⟨rfl, by simp, _, rfl⟩) dd_jdk_43_method_4_16 (by decide) (by decide) ⟨rfl, rfl⟩
theorem dd_jdk_43_method_23_0 : decode jdk_43_method_23_code 0 = .ok (.iload_n 1, 1) := by decide +kernel
theorem dd_jdk_43_method_23_1 : decode jdk_43_method_23_code 1 = .ok (.i2b, 1) := by decide +kernel
theorem dd_jdk_43_method_23_2 : decode jdk_43_method_23_code 2 = .ok (.istore 4, 2) := by decide +kernel
theorem dd_jdk_43_method_23_4 : decode jdk_43_method_23_code 4 = .ok (.iload_n 2, 1) := by decide +kernel
theorem dd_jdk_43_method_23_5 : decode jdk_43_method_23_code 5 = .ok (.istore 5, 2) := by decide +kernel
theorem dd_jdk_43_method_23_7 : decode jdk_43_method_23_code 7 = .ok (.iload 5, 2) := by decide +kernel
theorem dd_jdk_43_method_23_9 : decode jdk_43_method_23_code 9 = .ok (.iload_n 3, 1) := by decide +kernel
theorem dd_jdk_43_method_23_10 : decode jdk_43_method_23_code 10 = .ok (.if_icmp .ge 21, 3) := by decide +kernel
theorem dd_jdk_43_method_23_13 : decode jdk_43_method_23_code 13 = .ok (.aload_n 0, 1) := by decide +kernel
theorem dd_jdk_43_method_23_14 : decode jdk_43_method_23_code 14 = .ok (.iload 5, 2) := by decide +kernel
theorem dd_jdk_43_method_23_16 : decode jdk_43_method_23_code 16 = .ok (.baload, 1) := by decide +kernel
theorem dd_jdk_43_method_23_17 : decode jdk_43_method_23_code 17 = .ok (.iload 4, 2) := by decide +kernel
theorem dd_jdk_43_method_23_19 : decode jdk_43_method_23_code 19 = .ok (.if_icmp .ne 6, 3) := by decide +kernel
theorem dd_jdk_43_method_23_22 : decode jdk_43_method_23_code 22 = .ok (.iload 5, 2) := by decide +kernel
theorem dd_jdk_43_method_23_24 : decode jdk_43_method_23_code 24 = .ok (.ireturn, 1) := by decide +kernel
theorem ef_own_ioc0 (m : MethodId) (x0 : Addr) (x1 : Int32) (x2 : Int32) (x3 : Int32) : entryFrame m #[(.ref x0), (.int x1), (.int x2), (.int x3)] 6 = mkF m 0 #[.val (.ref x0), .val (.int x1), .val (.int x2), .val (.int x3), .unset, .unset] [] := by first | (simp [entryFrame, mkF, argsToLocals, Value.category]; done) | rfl
set_option maxRecDepth 65536 in
set_option maxHeartbeats 40000000 in
theorem own_ioc0 (l : Launch) (Z : State) (a0 : Array Value) (hw : ∀ d ∈ tables_1, d.before a0 Z = true) (EWf : own_EW Z own_EL) (n0 : Nat) (t : Addr) (kb : ClassId) (h0 : Heap) (O0 : Old Z n0 h0) (p_A : own_Arr Z h0 t kb .byte [(.int 46), (.int 95), (.int 45), (.int 58)]) :
    own_Met l Z own_EL [] n0 (⟨"java/lang/StringLatin1", "indexOfChar", "([BIII)I"⟩ : MethodName) jdk_43_method_23_code 6 (some .int) ({ frames := 0, cells := 0, slots := 0, locals := 0 } : Room) #[(.ref t), (.int (46 : Int32)), (.int (0 : Int32)), (.int (4 : Int32))] h0 (fun v h => v = some (.int 0) ∧ h0 = h) := by
  refine own_enter (own := "java/lang/StringLatin1") (nm := "indexOfChar") (plainFor_of_name pn_4) rfl rfl O0 EWf ?_
  have W : ∀ (k : Nat) {d : Jvm.Cond}, tables_1[k]? = some d → d.before a0 Z = true := fun k d q => hw d (List.mem_of_getElem? q)
  intro G p e s m below meth c T0 hGe X0
  rw [ef_own_ioc0 m t ((46 : Int32)) ((0 : Int32)) ((4 : Int32))]
  refine own_iload_n (pc' := 1) X0 dd_jdk_43_method_23_0 rfl rfl ?_
  refine own_i2b (pc' := 2) X0 dd_jdk_43_method_23_1 rfl ?_
  refine own_istore (pc' := 4) X0 dd_jdk_43_method_23_2 rfl (Ls' := #[.val (.ref t), .val (.int (46 : Int32)), .val (.int (0 : Int32)), .val (.int (4 : Int32)), .val (.int (own_b8 (46 : Int32))), .unset]) rfl ?_
  refine own_iload_n (pc' := 5) X0 dd_jdk_43_method_23_4 rfl rfl ?_
  refine own_istore (pc' := 7) X0 dd_jdk_43_method_23_5 rfl (Ls' := #[.val (.ref t), .val (.int (46 : Int32)), .val (.int (0 : Int32)), .val (.int (4 : Int32)), .val (.int (own_b8 (46 : Int32))), .val (.int (0 : Int32))]) rfl ?_
  refine own_iload (pc' := 9) X0 dd_jdk_43_method_23_7 rfl rfl ?_
  refine own_iload_n (pc' := 10) X0 dd_jdk_43_method_23_9 rfl rfl ?_
  refine own_icmpN (pc' := 13) X0 dd_jdk_43_method_23_10 rfl ((tlt (by decide)).2.1) ?_
  refine own_aload_n (pc' := 14) X0 dd_jdk_43_method_23_13 rfl rfl rfl ?_
  refine own_iload (pc' := 16) X0 dd_jdk_43_method_23_14 rfl rfl ?_
  refine own_baload (pc' := 17) (i := 0) (v := (.int (46 : Int32))) X0 p_A (by decide) rfl dd_jdk_43_method_23_16 rfl ?_
  refine own_iload (pc' := 19) X0 dd_jdk_43_method_23_17 rfl rfl ?_
  refine own_icmpN (pc' := 22) X0 dd_jdk_43_method_23_19 rfl ((teq (by decide)).2) ?_
  refine own_iload (pc' := 24) X0 dd_jdk_43_method_23_22 rfl rfl ?_
  exact own_ret X0 hGe (t := .int) rfl rfl (Or.inl ⟨rfl, by simp, _, rfl⟩) dd_jdk_43_method_23_24 (by decide) (by decide) ⟨rfl, rfl⟩
theorem dd_jdk_43_method_22_0 : decode jdk_43_method_22_code 0 = .ok (.iload_n 1, 1) := by decide +kernel
theorem dd_jdk_43_method_22_1 : decode jdk_43_method_22_code 1 = .ok (.invokestatic 88, 3) := by decide +kernel
theorem pd_0 : parseMethodDescriptor "(I)Z" = some ⟨[.int], some .boolean⟩ := by decide +kernel
theorem dd_jdk_43_method_22_4 : decode jdk_43_method_22_code 4 = .ok (.ifCond .ne 5, 3) := by decide +kernel
theorem dd_jdk_43_method_22_9 : decode jdk_43_method_22_code 9 = .ok (.iload_n 2, 1) := by decide +kernel
theorem dd_jdk_43_method_22_10 : decode jdk_43_method_22_code 10 = .ok (.iconst 0, 1) := by decide +kernel
theorem dd_jdk_43_method_22_11 : decode jdk_43_method_22_code 11 = .ok (.invokestatic 92, 3) := by decide +kernel
theorem pd_1 : parseMethodDescriptor "(II)I" = some ⟨[.int, .int], some .int⟩ := by decide +kernel
theorem dd_jdk_43_method_22_14 : decode jdk_43_method_22_code 14 = .ok (.istore_n 2, 1) := by decide +kernel
theorem dd_jdk_43_method_22_15 : decode jdk_43_method_22_code 15 = .ok (.iload_n 3, 1) := by decide +kernel
theorem dd_jdk_43_method_22_16 : decode jdk_43_method_22_code 16 = .ok (.aload_n 0, 1) := by decide +kernel
theorem dd_jdk_43_method_22_17 : decode jdk_43_method_22_code 17 = .ok (.arraylength, 1) := by decide +kernel
theorem dd_jdk_43_method_22_18 : decode jdk_43_method_22_code 18 = .ok (.invokestatic 38, 3) := by decide +kernel
theorem dd_jdk_43_method_22_21 : decode jdk_43_method_22_code 21 = .ok (.istore_n 3, 1) := by decide +kernel
theorem dd_jdk_43_method_22_22 : decode jdk_43_method_22_code 22 = .ok (.iload_n 2, 1) := by decide +kernel
theorem dd_jdk_43_method_22_23 : decode jdk_43_method_22_code 23 = .ok (.iload_n 3, 1) := by decide +kernel
theorem dd_jdk_43_method_22_24 : decode jdk_43_method_22_code 24 = .ok (.if_icmp .lt 5, 3) := by decide +kernel
theorem dd_jdk_43_method_22_29 : decode jdk_43_method_22_code 29 = .ok (.aload_n 0, 1) := by decide +kernel
theorem dd_jdk_43_method_22_30 : decode jdk_43_method_22_code 30 = .ok (.iload_n 1, 1) := by decide +kernel
theorem dd_jdk_43_method_22_31 : decode jdk_43_method_22_code 31 = .ok (.iload_n 2, 1) := by decide +kernel
theorem dd_jdk_43_method_22_32 : decode jdk_43_method_22_code 32 = .ok (.iload_n 3, 1) := by decide +kernel
theorem dd_jdk_43_method_22_33 : decode jdk_43_method_22_code 33 = .ok (.invokestatic 95, 3) := by decide +kernel
theorem pd_2 : parseMethodDescriptor "([BIII)I" = some ⟨[(.array .byte), .int, .int, .int], some .int⟩ := by decide +kernel
theorem dd_jdk_43_method_22_36 : decode jdk_43_method_22_code 36 = .ok (.ireturn, 1) := by decide +kernel
theorem ef_own_iol0 (m : MethodId) (x0 : Addr) (x1 : Int32) (x2 : Int32) (x3 : Int32) : entryFrame m #[(.ref x0), (.int x1), (.int x2), (.int x3)] 4 = mkF m 0 #[.val (.ref x0), .val (.int x1), .val (.int x2), .val (.int x3)] [] := by first | (simp [entryFrame, mkF, argsToLocals, Value.category]; done) | rfl
set_option maxRecDepth 65536 in
set_option maxHeartbeats 40000000 in
theorem own_iol0 (l : Launch) (Z : State) (a0 : Array Value) (hw : ∀ d ∈ tables_1, d.before a0 Z = true) (EWf : own_EW Z own_EL) (n0 : Nat) (t : Addr) (kb : ClassId) (h0 : Heap) (O0 : Old Z n0 h0) (p_A : own_Arr Z h0 t kb .byte [(.int 46), (.int 95), (.int 45), (.int 58)]) :
    own_Met l Z own_EL [] n0 (⟨"java/lang/StringLatin1", "indexOf", "([BIII)I"⟩ : MethodName) jdk_43_method_22_code 4 (some .int) ({ frames := 1, cells := 0, slots := 0, locals := 17 } : Room) #[(.ref t), (.int (46 : Int32)), (.int (0 : Int32)), (.int (4 : Int32))] h0 (fun v h => v = some (.int 0) ∧ h0 = h) := by
  refine own_enter (own := "java/lang/StringLatin1") (nm := "indexOf") (plainFor_of_name pn_4) rfl rfl O0 EWf ?_
  have W : ∀ (k : Nat) {d : Jvm.Cond}, tables_1[k]? = some d → d.before a0 Z = true := fun k d q => hw d (List.mem_of_getElem? q)
  intro G p e s m below meth c T0 hGe X0
  rw [ef_own_iol0 m t ((46 : Int32)) ((0 : Int32)) ((4 : Int32))]
  refine own_iload_n (pc' := 1) X0 dd_jdk_43_method_22_0 rfl rfl ?_
  refine own_callSM (pc' := 4) (cells' := 0) (slots' := 0) (argsL := [(.int (46 : Int32))]) (rest := []) (W := 0) (y := (⟨"java/lang/StringLatin1", "canEncode", "(I)Z"⟩ : MethodName)) X0 (W 127 rfl) (W 128 rfl) (by decide) (own_ce0 l Z a0 hw EWf n0  h0 (own_old X0) ) all0 (W 129 rfl) (W 79 rfl) (by decide) (by decide) rfl (lenOf pd_0 rfl) rfl rfl dd_jdk_43_method_22_1 rfl rfl rfl rfl (by decide) (by decide) ?_
  intro v1 T1 h1 s1 X1 q1
  obtain ⟨rfl, rfl⟩ := q1
  show G T1 (mkF m 4 #[.val (.ref t), .val (.int (46 : Int32)), .val (.int (0 : Int32)), .val (.int (4 : Int32))] [(.int (1 : Int32))])
  refine own_ifY (pc' := 9) X1 dd_jdk_43_method_22_4 ((feq (by decide)).2) (by decide) (by decide) ?_
  refine own_iload_n (pc' := 10) X1 dd_jdk_43_method_22_9 rfl rfl ?_
  refine own_iconst (pc' := 11) X1 dd_jdk_43_method_22_10 rfl (z := (0 : Int32)) (by decide) ?_
  refine own_callSM (pc' := 14) (cells' := 0) (slots' := 0) (argsL := [(.int (0 : Int32)), (.int (0 : Int32))]) (rest := []) (W := 0) (y := (⟨"java/lang/Math", "max", "(II)I"⟩ : MethodName)) X1 (W 130 rfl) (W 131 rfl) (by decide) (own_max0 l Z a0 hw EWf n0  h0 (own_old X1) ) all0 (W 133 rfl) (W 132 rfl) (by decide) (by decide) rfl (lenOf pd_1 rfl) rfl rfl dd_jdk_43_method_22_11 rfl rfl rfl rfl (by decide) (by decide) ?_
  intro v2 T2 h2 s2 X2 q2
  obtain ⟨rfl, rfl⟩ := q2
  show G T2 (mkF m 14 #[.val (.ref t), .val (.int (46 : Int32)), .val (.int (0 : Int32)), .val (.int (4 : Int32))] [(.int (0 : Int32))])
  refine own_istore_n (pc' := 15) X2 dd_jdk_43_method_22_14 rfl (Ls' := #[.val (.ref t), .val (.int (46 : Int32)), .val (.int (0 : Int32)), .val (.int (4 : Int32))]) rfl ?_
  refine own_iload_n (pc' := 16) X2 dd_jdk_43_method_22_15 rfl rfl ?_
  refine own_aload_n (pc' := 17) X2 dd_jdk_43_method_22_16 rfl rfl rfl ?_
  refine own_arraylength (pc' := 18) (z := (4 : Int32)) X2 p_A rfl dd_jdk_43_method_22_17 rfl ?_
  refine own_callSM (pc' := 21) (cells' := 0) (slots' := 0) (argsL := [(.int (4 : Int32)), (.int (4 : Int32))]) (rest := []) (W := 0) (y := (⟨"java/lang/Math", "min", "(II)I"⟩ : MethodName)) X2 (W 134 rfl) (W 135 rfl) (by decide) (own_min4 l Z a0 hw EWf n0  h0 (own_old X2) ) all0 (W 136 rfl) (W 132 rfl) (by decide) (by decide) rfl (lenOf pd_1 rfl) rfl rfl dd_jdk_43_method_22_18 rfl rfl rfl rfl (by decide) (by decide) ?_
  intro v3 T3 h3 s3 X3 q3
  obtain ⟨rfl, rfl⟩ := q3
  show G T3 (mkF m 21 #[.val (.ref t), .val (.int (46 : Int32)), .val (.int (0 : Int32)), .val (.int (4 : Int32))] [(.int (4 : Int32))])
  refine own_istore_n (pc' := 22) X3 dd_jdk_43_method_22_21 rfl (Ls' := #[.val (.ref t), .val (.int (46 : Int32)), .val (.int (0 : Int32)), .val (.int (4 : Int32))]) rfl ?_
  refine own_iload_n (pc' := 23) X3 dd_jdk_43_method_22_22 rfl rfl ?_
  refine own_iload_n (pc' := 24) X3 dd_jdk_43_method_22_23 rfl rfl ?_
  refine own_icmpY (pc' := 29) X3 dd_jdk_43_method_22_24 ((tlt (by decide)).1) (by decide) (by decide) ?_
  refine own_aload_n (pc' := 30) X3 dd_jdk_43_method_22_29 rfl rfl rfl ?_
  refine own_iload_n (pc' := 31) X3 dd_jdk_43_method_22_30 rfl rfl ?_
  refine own_iload_n (pc' := 32) X3 dd_jdk_43_method_22_31 rfl rfl ?_
  refine own_iload_n (pc' := 33) X3 dd_jdk_43_method_22_32 rfl rfl ?_
  refine own_callSM (pc' := 36) (cells' := 0) (slots' := 0) (argsL := [(.ref t), (.int (46 : Int32)), (.int (0 : Int32)), (.int (4 : Int32))]) (rest := []) (W := 0) (y := (⟨"java/lang/StringLatin1", "indexOfChar", "([BIII)I"⟩ : MethodName)) X3 (W 137 rfl) (W 138 rfl) (by decide) (own_ioc0 l Z a0 hw EWf n0 t kb h0 (own_old X3) p_A) all0 (W 139 rfl) (W 79 rfl) (by decide) (by decide) rfl (lenOf pd_2 rfl) rfl rfl dd_jdk_43_method_22_33 rfl rfl rfl rfl (by decide) (by decide) ?_
  intro v4 T4 h4 s4 X4 q4
  obtain ⟨rfl, rfl⟩ := q4
  show G T4 (mkF m 36 #[.val (.ref t), .val (.int (46 : Int32)), .val (.int (0 : Int32)), .val (.int (4 : Int32))] [(.int (0 : Int32))])
  exact own_ret X4 hGe (t := .int) rfl rfl (Or.inl ⟨rfl, by simp, _, rfl⟩) dd_jdk_43_method_22_36 (by decide) (by decide) ⟨rfl, rfl⟩
theorem dd_jdk_42_method_80_0 : decode jdk_42_method_80_code 0 = .ok (.aload_n 0, 1) := by decide +kernel
theorem dd_jdk_42_method_80_1 : decode jdk_42_method_80_code 1 = .ok (.invokevirtual 492, 3) := by decide +kernel
theorem pd_3 : parseMethodDescriptor "()Z" = some ⟨[], some .boolean⟩ := by decide +kernel
theorem dd_jdk_42_method_80_4 : decode jdk_42_method_80_code 4 = .ok (.ifCond .eq 19, 3) := by decide +kernel
theorem dd_jdk_42_method_80_7 : decode jdk_42_method_80_code 7 = .ok (.aload_n 0, 1) := by decide +kernel
theorem dd_jdk_42_method_80_8 : decode jdk_42_method_80_code 8 = .ok (.getfield 9, 3) := by decide +kernel
theorem dd_jdk_42_method_80_11 : decode jdk_42_method_80_code 11 = .ok (.iload_n 1, 1) := by decide +kernel
theorem dd_jdk_42_method_80_12 : decode jdk_42_method_80_code 12 = .ok (.iload_n 2, 1) := by decide +kernel
theorem dd_jdk_42_method_80_13 : decode jdk_42_method_80_code 13 = .ok (.aload_n 0, 1) := by decide +kernel
theorem dd_jdk_42_method_80_14 : decode jdk_42_method_80_code 14 = .ok (.invokevirtual 505, 3) := by decide +kernel
theorem pd_4 : parseMethodDescriptor "()I" = some ⟨[], some .int⟩ := by decide +kernel
theorem dd_jdk_42_method_80_17 : decode jdk_42_method_80_code 17 = .ok (.invokestatic 637, 3) := by decide +kernel
theorem dd_jdk_42_method_80_20 : decode jdk_42_method_80_code 20 = .ok (.goto 16, 3) := by decide +kernel
theorem dd_jdk_42_method_80_36 : decode jdk_42_method_80_code 36 = .ok (.ireturn, 1) := by decide +kernel
theorem ef_own_io20 (m : MethodId) (x0 : Addr) (x1 : Int32) (x2 : Int32) : entryFrame m #[(.ref x0), (.int x1), (.int x2)] 3 = mkF m 0 #[.val (.ref x0), .val (.int x1), .val (.int x2)] [] := by first | (simp [entryFrame, mkF, argsToLocals, Value.category]; done) | rfl
set_option maxRecDepth 65536 in
set_option maxHeartbeats 40000000 in
theorem own_io20 (l : Launch) (Z : State) (a0 : Array Value) (hw : ∀ d ∈ tables_1, d.before a0 Z = true) (EWf : own_EW Z own_EL) (n0 : Nat) (a t : Addr) (kb : ClassId) (h0 : Heap) (O0 : Old Z n0 h0) (p_E : Exa Z h0 a "java/lang/String") (p_V : Fld Z h0 a "java/lang/String" "value" "[B" (.ref t)) (p_C : Fld Z h0 a "java/lang/String" "coder" "B" (.int 0)) (p_A : own_Arr Z h0 t kb .byte [(.int 46), (.int 95), (.int 45), (.int 58)]) (CS : own_CS Z) :
    own_Met l Z own_EL [] n0 (⟨"java/lang/String", "indexOf", "(II)I"⟩ : MethodName) jdk_42_method_80_code 3 (some .int) ({ frames := 2, cells := 0, slots := 0, locals := 32 } : Room) #[(.ref a), (.int (46 : Int32)), (.int (0 : Int32))] h0 (fun v h => v = some (.int 0) ∧ h0 = h) := by
  refine own_enter (own := "java/lang/String") (nm := "indexOf") (plainFor_of_name pn_1) rfl rfl O0 EWf ?_
  have W : ∀ (k : Nat) {d : Jvm.Cond}, tables_1[k]? = some d → d.before a0 Z = true := fun k d q => hw d (List.mem_of_getElem? q)
  intro G p e s m below meth c T0 hGe X0
  rw [ef_own_io20 m a ((46 : Int32)) ((0 : Int32))]
  refine own_aload_n (pc' := 1) X0 dd_jdk_42_method_80_0 rfl rfl rfl ?_
  refine own_callVM (pc' := 4) (cells' := 0) (slots' := 0) (argsL := []) (rest := []) (W := 0) (y := (⟨"java/lang/String", "isLatin1", "()Z"⟩ : MethodName)) (z := (⟨"java/lang/String", "isLatin1", "()Z"⟩ : MethodName)) (a := a) X0 (W 72 rfl) (W 73 rfl) (fun s' hZ' => notFace_of_selects (args := #[]) (mvT hZ' (W 75 rfl))) (W 75 rfl) (W 74 rfl) (by decide) p_E (own_lat l Z a0 hw EWf n0 a h0 (own_old X0) p_C CS) all0 (W 76 rfl) (W 10 rfl) (by decide) (by decide) rfl (lenOf pd_3 rfl) rfl rfl dd_jdk_42_method_80_1 rfl rfl rfl rfl (by decide) (by decide) ?_
  intro v1 T1 h1 s1 X1 q1
  obtain ⟨rfl, rfl⟩ := q1
  show G T1 (mkF m 4 #[.val (.ref a), .val (.int (46 : Int32)), .val (.int (0 : Int32))] [(.int (1 : Int32))])
  refine own_ifN (pc' := 7) X1 dd_jdk_42_method_80_4 rfl ((feq (by decide)).1) ?_
  refine own_aload_n (pc' := 8) X1 dd_jdk_42_method_80_7 rfl rfl rfl ?_
  refine own_get (pc' := 11) X1 (host := "") (Or.inl (W 36 rfl)) Via.refl p_V dd_jdk_42_method_80_8 rfl ?_
  intro T2 X2
  refine own_iload_n (pc' := 12) X2 dd_jdk_42_method_80_11 rfl rfl ?_
  refine own_iload_n (pc' := 13) X2 dd_jdk_42_method_80_12 rfl rfl ?_
  refine own_aload_n (pc' := 14) X2 dd_jdk_42_method_80_13 rfl rfl rfl ?_
  have p_S := own_StrLit (cs := [46, 95, 45, 58]) p_E p_V p_C p_A (by decide) (by decide) (by decide)
  refine own_strlen (pc' := 17) (W := 3) X2 (fun d hd => hw d (own_in_wordsLen d hd)) CS (W 123 rfl) (W 58 rfl) (W 60 rfl) (W 59 rfl) (W 9 rfl) p_S  (by decide) (by decide) (lenOf (L := []) pd_4 rfl) rfl rfl dd_jdk_42_method_80_14 rfl (by decide) (by decide) ?_
  intro T3 X3
  show G T3 (mkF m 17 #[.val (.ref a), .val (.int (46 : Int32)), .val (.int (0 : Int32))] [(.int (4 : Int32)), (.int (0 : Int32)), (.int (46 : Int32)), (.ref t)])
  refine own_callSM (pc' := 20) (cells' := 0) (slots' := 0) (argsL := [(.ref t), (.int (46 : Int32)), (.int (0 : Int32)), (.int (4 : Int32))]) (rest := []) (W := 0) (y := (⟨"java/lang/StringLatin1", "indexOf", "([BIII)I"⟩ : MethodName)) X3 (W 124 rfl) (W 125 rfl) (by decide) (own_iol0 l Z a0 hw EWf n0 t kb h0 (own_old X3) p_A) all0 (W 126 rfl) (W 79 rfl) (by decide) (by decide) rfl (lenOf pd_2 rfl) rfl rfl dd_jdk_42_method_80_17 rfl rfl rfl rfl (by decide) (by decide) ?_
  intro v4 T4 h4 s4 X4 q4
  obtain ⟨rfl, rfl⟩ := q4
  show G T4 (mkF m 20 #[.val (.ref a), .val (.int (46 : Int32)), .val (.int (0 : Int32))] [(.int (0 : Int32))])
  refine own_goto (pc' := 36) X4 dd_jdk_42_method_80_20 (by decide) (by decide) ?_
  exact own_ret X4 hGe (t := .int) rfl rfl (Or.inl ⟨rfl, by simp, _, rfl⟩) dd_jdk_42_method_80_36 (by decide) (by decide) ⟨rfl, rfl⟩
theorem dd_jdk_42_method_79_0 : decode jdk_42_method_79_code 0 = .ok (.aload_n 0, 1) := by decide +kernel
theorem dd_jdk_42_method_79_1 : decode jdk_42_method_79_code 1 = .ok (.iload_n 1, 1) := by decide +kernel
theorem dd_jdk_42_method_79_2 : decode jdk_42_method_79_code 2 = .ok (.iconst 0, 1) := by decide +kernel
theorem dd_jdk_42_method_79_3 : decode jdk_42_method_79_code 3 = .ok (.invokevirtual 633, 3) := by decide +kernel
theorem dd_jdk_42_method_79_6 : decode jdk_42_method_79_code 6 = .ok (.ireturn, 1) := by decide +kernel
theorem ef_own_io10 (m : MethodId) (x0 : Addr) (x1 : Int32) : entryFrame m #[(.ref x0), (.int x1)] 2 = mkF m 0 #[.val (.ref x0), .val (.int x1)] [] := by first | (simp [entryFrame, mkF, argsToLocals, Value.category]; done) | rfl
set_option maxRecDepth 65536 in
set_option maxHeartbeats 40000000 in
theorem own_io10 (l : Launch) (Z : State) (a0 : Array Value) (hw : ∀ d ∈ tables_1, d.before a0 Z = true) (EWf : own_EW Z own_EL) (n0 : Nat) (a t : Addr) (kb : ClassId) (h0 : Heap) (O0 : Old Z n0 h0) (p_E : Exa Z h0 a "java/lang/String") (p_V : Fld Z h0 a "java/lang/String" "value" "[B" (.ref t)) (p_C : Fld Z h0 a "java/lang/String" "coder" "B" (.int 0)) (p_A : own_Arr Z h0 t kb .byte [(.int 46), (.int 95), (.int 45), (.int 58)]) (CS : own_CS Z) :
    own_Met l Z own_EL [] n0 (⟨"java/lang/String", "indexOf", "(I)I"⟩ : MethodName) jdk_42_method_79_code 2 (some .int) ({ frames := 3, cells := 0, slots := 0, locals := 46 } : Room) #[(.ref a), (.int (46 : Int32))] h0 (fun v h => v = some (.int 0) ∧ h0 = h) := by
  refine own_enter (own := "java/lang/String") (nm := "indexOf") (plainFor_of_name pn_1) rfl rfl O0 EWf ?_
  have W : ∀ (k : Nat) {d : Jvm.Cond}, tables_1[k]? = some d → d.before a0 Z = true := fun k d q => hw d (List.mem_of_getElem? q)
  intro G p e s m below meth c T0 hGe X0
  rw [ef_own_io10 m a ((46 : Int32))]
  refine own_aload_n (pc' := 1) X0 dd_jdk_42_method_79_0 rfl rfl rfl ?_
  refine own_iload_n (pc' := 2) X0 dd_jdk_42_method_79_1 rfl rfl ?_
  refine own_iconst (pc' := 3) X0 dd_jdk_42_method_79_2 rfl (z := (0 : Int32)) (by decide) ?_
  refine own_callVM (pc' := 6) (cells' := 0) (slots' := 0) (argsL := [(.int (46 : Int32)), (.int (0 : Int32))]) (rest := []) (W := 0) (y := (⟨"java/lang/String", "indexOf", "(II)I"⟩ : MethodName)) (z := (⟨"java/lang/String", "indexOf", "(II)I"⟩ : MethodName)) (a := a) X0 (W 118 rfl) (W 119 rfl) (fun s' hZ' => notFace_of_selects (args := #[]) (mvT hZ' (W 121 rfl))) (W 121 rfl) (W 120 rfl) (by decide) p_E (own_io20 l Z a0 hw EWf n0 a t kb h0 (own_old X0) p_E p_V p_C p_A CS) all0 (W 122 rfl) (W 10 rfl) (by decide) (by decide) rfl (lenOf pd_1 rfl) rfl rfl dd_jdk_42_method_79_3 rfl rfl rfl rfl (by decide) (by decide) ?_
  intro v1 T1 h1 s1 X1 q1
  obtain ⟨rfl, rfl⟩ := q1
  show G T1 (mkF m 6 #[.val (.ref a), .val (.int (46 : Int32))] [(.int (0 : Int32))])
  exact own_ret X1 hGe (t := .int) rfl rfl (Or.inl ⟨rfl, by simp, _, rfl⟩) dd_jdk_42_method_79_6 (by decide) (by decide) ⟨rfl, rfl⟩
theorem ef_own_ce1 (m : MethodId) (x0 : Int32) : entryFrame m #[(.int x0)] 1 = mkF m 0 #[.val (.int x0)] [] := by first | (simp [entryFrame, mkF, argsToLocals, Value.category]; done) | rfl
set_option maxRecDepth 65536 in
set_option maxHeartbeats 40000000 in
theorem own_ce1 (l : Launch) (Z : State) (a0 : Array Value) (hw : ∀ d ∈ tables_1, d.before a0 Z = true) (EWf : own_EW Z own_EL) (n0 : Nat)  (h0 : Heap) (O0 : Old Z n0 h0)  :
    own_Met l Z own_EL [] n0 (⟨"java/lang/StringLatin1", "canEncode", "(I)Z"⟩ : MethodName) jdk_43_method_4_code 1 (some .boolean) ({ frames := 0, cells := 0, slots := 0, locals := 0 } : Room) #[(.int (95 : Int32))] h0 (fun v h => v = some (.int 1) ∧ h0 = h) := by
  refine own_enter (own := "java/lang/StringLatin1") (nm := "canEncode") (plainFor_of_name pn_4) rfl rfl O0 EWf ?_
  have W : ∀ (k : Nat) {d : Jvm.Cond}, tables_1[k]? = some d → d.before a0 Z = true := fun k d q => hw d (List.mem_of_getElem? q)
  intro G p e s m below meth c T0 hGe X0
  rw [ef_own_ce1 m ((95 : Int32))]
  refine own_iload_n (pc' := 1) X0 dd_jdk_43_method_4_0 rfl rfl ?_
  refine own_ifN (pc' := 4) X0 dd_jdk_43_method_4_1 rfl ((flt (by decide)).1) ?_
  refine own_iload_n (pc' := 5) X0 dd_jdk_43_method_4_4 rfl rfl ?_
  refine own_sipush (pc' := 8) X0 dd_jdk_43_method_4_5 rfl (z := (255 : Int32)) (by decide) ?_
  refine own_icmpN (pc' := 11) X0 dd_jdk_43_method_4_8 rfl ((flt (by decide)).2.2.1) ?_
  refine own_iconst (pc' := 12) X0 dd_jdk_43_method_4_11 rfl (z := (1 : Int32)) (by decide) ?_
  refine own_goto (pc' := 16) X0 dd_jdk_43_method_4_12 (by decide) (by decide) ?_
  exact own_ret X0 hGe (t := .boolean) rfl rfl (Or.inl ⟨rfl, by simp, _, rfl⟩) dd_jdk_43_method_4_16 (by decide) (by decide) ⟨rfl, rfl⟩
theorem dd_jdk_43_method_23_25 : decode jdk_43_method_23_code 25 = .ok (.iinc 5 1, 3) := by decide +kernel
theorem dd_jdk_43_method_23_28 : decode jdk_43_method_23_code 28 = .ok (.goto (-21), 3) := by decide +kernel
theorem ef_own_ioc1 (m : MethodId) (x0 : Addr) (x1 : Int32) (x2 : Int32) (x3 : Int32) : entryFrame m #[(.ref x0), (.int x1), (.int x2), (.int x3)] 6 = mkF m 0 #[.val (.ref x0), .val (.int x1), .val (.int x2), .val (.int x3), .unset, .unset] [] := by first | (simp [entryFrame, mkF, argsToLocals, Value.category]; done) | rfl
set_option maxRecDepth 65536 in
set_option maxHeartbeats 40000000 in
theorem own_ioc1 (l : Launch) (Z : State) (a0 : Array Value) (hw : ∀ d ∈ tables_1, d.before a0 Z = true) (EWf : own_EW Z own_EL) (n0 : Nat) (t : Addr) (kb : ClassId) (h0 : Heap) (O0 : Old Z n0 h0) (p_A : own_Arr Z h0 t kb .byte [(.int 46), (.int 95), (.int 45), (.int 58)]) :
    own_Met l Z own_EL [] n0 (⟨"java/lang/StringLatin1", "indexOfChar", "([BIII)I"⟩ : MethodName) jdk_43_method_23_code 6 (some .int) ({ frames := 0, cells := 0, slots := 0, locals := 0 } : Room) #[(.ref t), (.int (95 : Int32)), (.int (0 : Int32)), (.int (4 : Int32))] h0 (fun v h => v = some (.int 1) ∧ h0 = h) := by
  refine own_enter (own := "java/lang/StringLatin1") (nm := "indexOfChar") (plainFor_of_name pn_4) rfl rfl O0 EWf ?_
  have W : ∀ (k : Nat) {d : Jvm.Cond}, tables_1[k]? = some d → d.before a0 Z = true := fun k d q => hw d (List.mem_of_getElem? q)
  intro G p e s m below meth c T0 hGe X0
  rw [ef_own_ioc1 m t ((95 : Int32)) ((0 : Int32)) ((4 : Int32))]
  refine own_iload_n (pc' := 1) X0 dd_jdk_43_method_23_0 rfl rfl ?_
  refine own_i2b (pc' := 2) X0 dd_jdk_43_method_23_1 rfl ?_
  refine own_istore (pc' := 4) X0 dd_jdk_43_method_23_2 rfl (Ls' := #[.val (.ref t), .val (.int (95 : Int32)), .val (.int (0 : Int32)), .val (.int (4 : Int32)), .val (.int (own_b8 (95 : Int32))), .unset]) rfl ?_
  refine own_iload_n (pc' := 5) X0 dd_jdk_43_method_23_4 rfl rfl ?_
  refine own_istore (pc' := 7) X0 dd_jdk_43_method_23_5 rfl (Ls' := #[.val (.ref t), .val (.int (95 : Int32)), .val (.int (0 : Int32)), .val (.int (4 : Int32)), .val (.int (own_b8 (95 : Int32))), .val (.int (0 : Int32))]) rfl ?_
  refine own_iload (pc' := 9) X0 dd_jdk_43_method_23_7 rfl rfl ?_
  refine own_iload_n (pc' := 10) X0 dd_jdk_43_method_23_9 rfl rfl ?_
  refine own_icmpN (pc' := 13) X0 dd_jdk_43_method_23_10 rfl ((tlt (by decide)).2.1) ?_
  refine own_aload_n (pc' := 14) X0 dd_jdk_43_method_23_13 rfl rfl rfl ?_
  refine own_iload (pc' := 16) X0 dd_jdk_43_method_23_14 rfl rfl ?_
  refine own_baload (pc' := 17) (i := 0) (v := (.int (46 : Int32))) X0 p_A (by decide) rfl dd_jdk_43_method_23_16 rfl ?_
  refine own_iload (pc' := 19) X0 dd_jdk_43_method_23_17 rfl rfl ?_
  refine own_icmpY (pc' := 25) X0 dd_jdk_43_method_23_19 ((feq (by decide)).2) (by decide) (by decide) ?_
  refine own_iinc (pc' := 28) X0 dd_jdk_43_method_23_25 rfl rfl (z := (1 : Int32)) (by decide) (r := (1 : Int32)) (by decide) (Ls' := #[.val (.ref t), .val (.int (95 : Int32)), .val (.int (0 : Int32)), .val (.int (4 : Int32)), .val (.int (own_b8 (95 : Int32))), .val (.int (1 : Int32))]) rfl ?_
  refine own_goto (pc' := 7) X0 dd_jdk_43_method_23_28 (by decide) (by decide) ?_
  refine own_iload (pc' := 9) X0 dd_jdk_43_method_23_7 rfl rfl ?_
  refine own_iload_n (pc' := 10) X0 dd_jdk_43_method_23_9 rfl rfl ?_
  refine own_icmpN (pc' := 13) X0 dd_jdk_43_method_23_10 rfl ((tlt (by decide)).2.1) ?_
  refine own_aload_n (pc' := 14) X0 dd_jdk_43_method_23_13 rfl rfl rfl ?_
  refine own_iload (pc' := 16) X0 dd_jdk_43_method_23_14 rfl rfl ?_
  refine own_baload (pc' := 17) (i := 1) (v := (.int (95 : Int32))) X0 p_A (by decide) rfl dd_jdk_43_method_23_16 rfl ?_
  refine own_iload (pc' := 19) X0 dd_jdk_43_method_23_17 rfl rfl ?_
  refine own_icmpN (pc' := 22) X0 dd_jdk_43_method_23_19 rfl ((teq (by decide)).2) ?_
  refine own_iload (pc' := 24) X0 dd_jdk_43_method_23_22 rfl rfl ?_
  exact own_ret X0 hGe (t := .int) rfl rfl (Or.inl ⟨rfl, by simp, _, rfl⟩) dd_jdk_43_method_23_24 (by decide) (by decide) ⟨rfl, rfl⟩
theorem ef_own_iol1 (m : MethodId) (x0 : Addr) (x1 : Int32) (x2 : Int32) (x3 : Int32) : entryFrame m #[(.ref x0), (.int x1), (.int x2), (.int x3)] 4 = mkF m 0 #[.val (.ref x0), .val (.int x1), .val (.int x2), .val (.int x3)] [] := by first | (simp [entryFrame, mkF, argsToLocals, Value.category]; done) | rfl
set_option maxRecDepth 65536 in
set_option maxHeartbeats 40000000 in
theorem own_iol1 (l : Launch) (Z : State) (a0 : Array Value) (hw : ∀ d ∈ tables_1, d.before a0 Z = true) (EWf : own_EW Z own_EL) (n0 : Nat) (t : Addr) (kb : ClassId) (h0 : Heap) (O0 : Old Z n0 h0) (p_A : own_Arr Z h0 t kb .byte [(.int 46), (.int 95), (.int 45), (.int 58)]) :
    own_Met l Z own_EL [] n0 (⟨"java/lang/StringLatin1", "indexOf", "([BIII)I"⟩ : MethodName) jdk_43_method_22_code 4 (some .int) ({ frames := 1, cells := 0, slots := 0, locals := 17 } : Room) #[(.ref t), (.int (95 : Int32)), (.int (0 : Int32)), (.int (4 : Int32))] h0 (fun v h => v = some (.int 1) ∧ h0 = h) := by
  refine own_enter (own := "java/lang/StringLatin1") (nm := "indexOf") (plainFor_of_name pn_4) rfl rfl O0 EWf ?_
  have W : ∀ (k : Nat) {d : Jvm.Cond}, tables_1[k]? = some d → d.before a0 Z = true := fun k d q => hw d (List.mem_of_getElem? q)
  intro G p e s m below meth c T0 hGe X0
  rw [ef_own_iol1 m t ((95 : Int32)) ((0 : Int32)) ((4 : Int32))]
  refine own_iload_n (pc' := 1) X0 dd_jdk_43_method_22_0 rfl rfl ?_
  refine own_callSM (pc' := 4) (cells' := 0) (slots' := 0) (argsL := [(.int (95 : Int32))]) (rest := []) (W := 0) (y := (⟨"java/lang/StringLatin1", "canEncode", "(I)Z"⟩ : MethodName)) X0 (W 127 rfl) (W 128 rfl) (by decide) (own_ce1 l Z a0 hw EWf n0  h0 (own_old X0) ) all0 (W 129 rfl) (W 79 rfl) (by decide) (by decide) rfl (lenOf pd_0 rfl) rfl rfl dd_jdk_43_method_22_1 rfl rfl rfl rfl (by decide) (by decide) ?_
  intro v1 T1 h1 s1 X1 q1
  obtain ⟨rfl, rfl⟩ := q1
  show G T1 (mkF m 4 #[.val (.ref t), .val (.int (95 : Int32)), .val (.int (0 : Int32)), .val (.int (4 : Int32))] [(.int (1 : Int32))])
  refine own_ifY (pc' := 9) X1 dd_jdk_43_method_22_4 ((feq (by decide)).2) (by decide) (by decide) ?_
  refine own_iload_n (pc' := 10) X1 dd_jdk_43_method_22_9 rfl rfl ?_
  refine own_iconst (pc' := 11) X1 dd_jdk_43_method_22_10 rfl (z := (0 : Int32)) (by decide) ?_
  refine own_callSM (pc' := 14) (cells' := 0) (slots' := 0) (argsL := [(.int (0 : Int32)), (.int (0 : Int32))]) (rest := []) (W := 0) (y := (⟨"java/lang/Math", "max", "(II)I"⟩ : MethodName)) X1 (W 130 rfl) (W 131 rfl) (by decide) (own_max0 l Z a0 hw EWf n0  h0 (own_old X1) ) all0 (W 133 rfl) (W 132 rfl) (by decide) (by decide) rfl (lenOf pd_1 rfl) rfl rfl dd_jdk_43_method_22_11 rfl rfl rfl rfl (by decide) (by decide) ?_
  intro v2 T2 h2 s2 X2 q2
  obtain ⟨rfl, rfl⟩ := q2
  show G T2 (mkF m 14 #[.val (.ref t), .val (.int (95 : Int32)), .val (.int (0 : Int32)), .val (.int (4 : Int32))] [(.int (0 : Int32))])
  refine own_istore_n (pc' := 15) X2 dd_jdk_43_method_22_14 rfl (Ls' := #[.val (.ref t), .val (.int (95 : Int32)), .val (.int (0 : Int32)), .val (.int (4 : Int32))]) rfl ?_
  refine own_iload_n (pc' := 16) X2 dd_jdk_43_method_22_15 rfl rfl ?_
  refine own_aload_n (pc' := 17) X2 dd_jdk_43_method_22_16 rfl rfl rfl ?_
  refine own_arraylength (pc' := 18) (z := (4 : Int32)) X2 p_A rfl dd_jdk_43_method_22_17 rfl ?_
  refine own_callSM (pc' := 21) (cells' := 0) (slots' := 0) (argsL := [(.int (4 : Int32)), (.int (4 : Int32))]) (rest := []) (W := 0) (y := (⟨"java/lang/Math", "min", "(II)I"⟩ : MethodName)) X2 (W 134 rfl) (W 135 rfl) (by decide) (own_min4 l Z a0 hw EWf n0  h0 (own_old X2) ) all0 (W 136 rfl) (W 132 rfl) (by decide) (by decide) rfl (lenOf pd_1 rfl) rfl rfl dd_jdk_43_method_22_18 rfl rfl rfl rfl (by decide) (by decide) ?_
  intro v3 T3 h3 s3 X3 q3
  obtain ⟨rfl, rfl⟩ := q3
  show G T3 (mkF m 21 #[.val (.ref t), .val (.int (95 : Int32)), .val (.int (0 : Int32)), .val (.int (4 : Int32))] [(.int (4 : Int32))])
  refine own_istore_n (pc' := 22) X3 dd_jdk_43_method_22_21 rfl (Ls' := #[.val (.ref t), .val (.int (95 : Int32)), .val (.int (0 : Int32)), .val (.int (4 : Int32))]) rfl ?_
  refine own_iload_n (pc' := 23) X3 dd_jdk_43_method_22_22 rfl rfl ?_
  refine own_iload_n (pc' := 24) X3 dd_jdk_43_method_22_23 rfl rfl ?_
  refine own_icmpY (pc' := 29) X3 dd_jdk_43_method_22_24 ((tlt (by decide)).1) (by decide) (by decide) ?_
  refine own_aload_n (pc' := 30) X3 dd_jdk_43_method_22_29 rfl rfl rfl ?_
  refine own_iload_n (pc' := 31) X3 dd_jdk_43_method_22_30 rfl rfl ?_
  refine own_iload_n (pc' := 32) X3 dd_jdk_43_method_22_31 rfl rfl ?_
  refine own_iload_n (pc' := 33) X3 dd_jdk_43_method_22_32 rfl rfl ?_
  refine own_callSM (pc' := 36) (cells' := 0) (slots' := 0) (argsL := [(.ref t), (.int (95 : Int32)), (.int (0 : Int32)), (.int (4 : Int32))]) (rest := []) (W := 0) (y := (⟨"java/lang/StringLatin1", "indexOfChar", "([BIII)I"⟩ : MethodName)) X3 (W 137 rfl) (W 138 rfl) (by decide) (own_ioc1 l Z a0 hw EWf n0 t kb h0 (own_old X3) p_A) all0 (W 139 rfl) (W 79 rfl) (by decide) (by decide) rfl (lenOf pd_2 rfl) rfl rfl dd_jdk_43_method_22_33 rfl rfl rfl rfl (by decide) (by decide) ?_
  intro v4 T4 h4 s4 X4 q4
  obtain ⟨rfl, rfl⟩ := q4
  show G T4 (mkF m 36 #[.val (.ref t), .val (.int (95 : Int32)), .val (.int (0 : Int32)), .val (.int (4 : Int32))] [(.int (1 : Int32))])
  exact own_ret X4 hGe (t := .int) rfl rfl (Or.inl ⟨rfl, by simp, _, rfl⟩) dd_jdk_43_method_22_36 (by decide) (by decide) ⟨rfl, rfl⟩
theorem ef_own_io21 (m : MethodId) (x0 : Addr) (x1 : Int32) (x2 : Int32) : entryFrame m #[(.ref x0), (.int x1), (.int x2)] 3 = mkF m 0 #[.val (.ref x0), .val (.int x1), .val (.int x2)] [] := by first | (simp [entryFrame, mkF, argsToLocals, Value.category]; done) | rfl
set_option maxRecDepth 65536 in
set_option maxHeartbeats 40000000 in
theorem own_io21 (l : Launch) (Z : State) (a0 : Array Value) (hw : ∀ d ∈ tables_1, d.before a0 Z = true) (EWf : own_EW Z own_EL) (n0 : Nat) (a t : Addr) (kb : ClassId) (h0 : Heap) (O0 : Old Z n0 h0) (p_E : Exa Z h0 a "java/lang/String") (p_V : Fld Z h0 a "java/lang/String" "value" "[B" (.ref t)) (p_C : Fld Z h0 a "java/lang/String" "coder" "B" (.int 0)) (p_A : own_Arr Z h0 t kb .byte [(.int 46), (.int 95), (.int 45), (.int 58)]) (CS : own_CS Z) :
    own_Met l Z own_EL [] n0 (⟨"java/lang/String", "indexOf", "(II)I"⟩ : MethodName) jdk_42_method_80_code 3 (some .int) ({ frames := 2, cells := 0, slots := 0, locals := 32 } : Room) #[(.ref a), (.int (95 : Int32)), (.int (0 : Int32))] h0 (fun v h => v = some (.int 1) ∧ h0 = h) := by
  refine own_enter (own := "java/lang/String") (nm := "indexOf") (plainFor_of_name pn_1) rfl rfl O0 EWf ?_
  have W : ∀ (k : Nat) {d : Jvm.Cond}, tables_1[k]? = some d → d.before a0 Z = true := fun k d q => hw d (List.mem_of_getElem? q)
  intro G p e s m below meth c T0 hGe X0
  rw [ef_own_io21 m a ((95 : Int32)) ((0 : Int32))]
  refine own_aload_n (pc' := 1) X0 dd_jdk_42_method_80_0 rfl rfl rfl ?_
  refine own_callVM (pc' := 4) (cells' := 0) (slots' := 0) (argsL := []) (rest := []) (W := 0) (y := (⟨"java/lang/String", "isLatin1", "()Z"⟩ : MethodName)) (z := (⟨"java/lang/String", "isLatin1", "()Z"⟩ : MethodName)) (a := a) X0 (W 72 rfl) (W 73 rfl) (fun s' hZ' => notFace_of_selects (args := #[]) (mvT hZ' (W 75 rfl))) (W 75 rfl) (W 74 rfl) (by decide) p_E (own_lat l Z a0 hw EWf n0 a h0 (own_old X0) p_C CS) all0 (W 76 rfl) (W 10 rfl) (by decide) (by decide) rfl (lenOf pd_3 rfl) rfl rfl dd_jdk_42_method_80_1 rfl rfl rfl rfl (by decide) (by decide) ?_
  intro v1 T1 h1 s1 X1 q1
  obtain ⟨rfl, rfl⟩ := q1
  show G T1 (mkF m 4 #[.val (.ref a), .val (.int (95 : Int32)), .val (.int (0 : Int32))] [(.int (1 : Int32))])
  refine own_ifN (pc' := 7) X1 dd_jdk_42_method_80_4 rfl ((feq (by decide)).1) ?_
  refine own_aload_n (pc' := 8) X1 dd_jdk_42_method_80_7 rfl rfl rfl ?_
  refine own_get (pc' := 11) X1 (host := "") (Or.inl (W 36 rfl)) Via.refl p_V dd_jdk_42_method_80_8 rfl ?_
  intro T2 X2
  refine own_iload_n (pc' := 12) X2 dd_jdk_42_method_80_11 rfl rfl ?_
  refine own_iload_n (pc' := 13) X2 dd_jdk_42_method_80_12 rfl rfl ?_
  refine own_aload_n (pc' := 14) X2 dd_jdk_42_method_80_13 rfl rfl rfl ?_
  have p_S := own_StrLit (cs := [46, 95, 45, 58]) p_E p_V p_C p_A (by decide) (by decide) (by decide)
  refine own_strlen (pc' := 17) (W := 3) X2 (fun d hd => hw d (own_in_wordsLen d hd)) CS (W 123 rfl) (W 58 rfl) (W 60 rfl) (W 59 rfl) (W 9 rfl) p_S  (by decide) (by decide) (lenOf (L := []) pd_4 rfl) rfl rfl dd_jdk_42_method_80_14 rfl (by decide) (by decide) ?_
  intro T3 X3
  show G T3 (mkF m 17 #[.val (.ref a), .val (.int (95 : Int32)), .val (.int (0 : Int32))] [(.int (4 : Int32)), (.int (0 : Int32)), (.int (95 : Int32)), (.ref t)])
  refine own_callSM (pc' := 20) (cells' := 0) (slots' := 0) (argsL := [(.ref t), (.int (95 : Int32)), (.int (0 : Int32)), (.int (4 : Int32))]) (rest := []) (W := 0) (y := (⟨"java/lang/StringLatin1", "indexOf", "([BIII)I"⟩ : MethodName)) X3 (W 124 rfl) (W 125 rfl) (by decide) (own_iol1 l Z a0 hw EWf n0 t kb h0 (own_old X3) p_A) all0 (W 126 rfl) (W 79 rfl) (by decide) (by decide) rfl (lenOf pd_2 rfl) rfl rfl dd_jdk_42_method_80_17 rfl rfl rfl rfl (by decide) (by decide) ?_
  intro v4 T4 h4 s4 X4 q4
  obtain ⟨rfl, rfl⟩ := q4
  show G T4 (mkF m 20 #[.val (.ref a), .val (.int (95 : Int32)), .val (.int (0 : Int32))] [(.int (1 : Int32))])
  refine own_goto (pc' := 36) X4 dd_jdk_42_method_80_20 (by decide) (by decide) ?_
  exact own_ret X4 hGe (t := .int) rfl rfl (Or.inl ⟨rfl, by simp, _, rfl⟩) dd_jdk_42_method_80_36 (by decide) (by decide) ⟨rfl, rfl⟩
theorem ef_own_io11 (m : MethodId) (x0 : Addr) (x1 : Int32) : entryFrame m #[(.ref x0), (.int x1)] 2 = mkF m 0 #[.val (.ref x0), .val (.int x1)] [] := by first | (simp [entryFrame, mkF, argsToLocals, Value.category]; done) | rfl
set_option maxRecDepth 65536 in
set_option maxHeartbeats 40000000 in
theorem own_io11 (l : Launch) (Z : State) (a0 : Array Value) (hw : ∀ d ∈ tables_1, d.before a0 Z = true) (EWf : own_EW Z own_EL) (n0 : Nat) (a t : Addr) (kb : ClassId) (h0 : Heap) (O0 : Old Z n0 h0) (p_E : Exa Z h0 a "java/lang/String") (p_V : Fld Z h0 a "java/lang/String" "value" "[B" (.ref t)) (p_C : Fld Z h0 a "java/lang/String" "coder" "B" (.int 0)) (p_A : own_Arr Z h0 t kb .byte [(.int 46), (.int 95), (.int 45), (.int 58)]) (CS : own_CS Z) :
    own_Met l Z own_EL [] n0 (⟨"java/lang/String", "indexOf", "(I)I"⟩ : MethodName) jdk_42_method_79_code 2 (some .int) ({ frames := 3, cells := 0, slots := 0, locals := 46 } : Room) #[(.ref a), (.int (95 : Int32))] h0 (fun v h => v = some (.int 1) ∧ h0 = h) := by
  refine own_enter (own := "java/lang/String") (nm := "indexOf") (plainFor_of_name pn_1) rfl rfl O0 EWf ?_
  have W : ∀ (k : Nat) {d : Jvm.Cond}, tables_1[k]? = some d → d.before a0 Z = true := fun k d q => hw d (List.mem_of_getElem? q)
  intro G p e s m below meth c T0 hGe X0
  rw [ef_own_io11 m a ((95 : Int32))]
  refine own_aload_n (pc' := 1) X0 dd_jdk_42_method_79_0 rfl rfl rfl ?_
  refine own_iload_n (pc' := 2) X0 dd_jdk_42_method_79_1 rfl rfl ?_
  refine own_iconst (pc' := 3) X0 dd_jdk_42_method_79_2 rfl (z := (0 : Int32)) (by decide) ?_
  refine own_callVM (pc' := 6) (cells' := 0) (slots' := 0) (argsL := [(.int (95 : Int32)), (.int (0 : Int32))]) (rest := []) (W := 0) (y := (⟨"java/lang/String", "indexOf", "(II)I"⟩ : MethodName)) (z := (⟨"java/lang/String", "indexOf", "(II)I"⟩ : MethodName)) (a := a) X0 (W 118 rfl) (W 119 rfl) (fun s' hZ' => notFace_of_selects (args := #[]) (mvT hZ' (W 121 rfl))) (W 121 rfl) (W 120 rfl) (by decide) p_E (own_io21 l Z a0 hw EWf n0 a t kb h0 (own_old X0) p_E p_V p_C p_A CS) all0 (W 122 rfl) (W 10 rfl) (by decide) (by decide) rfl (lenOf pd_1 rfl) rfl rfl dd_jdk_42_method_79_3 rfl rfl rfl rfl (by decide) (by decide) ?_
  intro v1 T1 h1 s1 X1 q1
  obtain ⟨rfl, rfl⟩ := q1
  show G T1 (mkF m 6 #[.val (.ref a), .val (.int (95 : Int32))] [(.int (1 : Int32))])
  exact own_ret X1 hGe (t := .int) rfl rfl (Or.inl ⟨rfl, by simp, _, rfl⟩) dd_jdk_42_method_79_6 (by decide) (by decide) ⟨rfl, rfl⟩
theorem ef_own_ce2 (m : MethodId) (x0 : Int32) : entryFrame m #[(.int x0)] 1 = mkF m 0 #[.val (.int x0)] [] := by first | (simp [entryFrame, mkF, argsToLocals, Value.category]; done) | rfl
set_option maxRecDepth 65536 in
set_option maxHeartbeats 40000000 in
theorem own_ce2 (l : Launch) (Z : State) (a0 : Array Value) (hw : ∀ d ∈ tables_1, d.before a0 Z = true) (EWf : own_EW Z own_EL) (n0 : Nat)  (h0 : Heap) (O0 : Old Z n0 h0)  :
    own_Met l Z own_EL [] n0 (⟨"java/lang/StringLatin1", "canEncode", "(I)Z"⟩ : MethodName) jdk_43_method_4_code 1 (some .boolean) ({ frames := 0, cells := 0, slots := 0, locals := 0 } : Room) #[(.int (45 : Int32))] h0 (fun v h => v = some (.int 1) ∧ h0 = h) := by
  refine own_enter (own := "java/lang/StringLatin1") (nm := "canEncode") (plainFor_of_name pn_4) rfl rfl O0 EWf ?_
  have W : ∀ (k : Nat) {d : Jvm.Cond}, tables_1[k]? = some d → d.before a0 Z = true := fun k d q => hw d (List.mem_of_getElem? q)
  intro G p e s m below meth c T0 hGe X0
  rw [ef_own_ce2 m ((45 : Int32))]
  refine own_iload_n (pc' := 1) X0 dd_jdk_43_method_4_0 rfl rfl ?_
  refine own_ifN (pc' := 4) X0 dd_jdk_43_method_4_1 rfl ((flt (by decide)).1) ?_
  refine own_iload_n (pc' := 5) X0 dd_jdk_43_method_4_4 rfl rfl ?_
  refine own_sipush (pc' := 8) X0 dd_jdk_43_method_4_5 rfl (z := (255 : Int32)) (by decide) ?_
  refine own_icmpN (pc' := 11) X0 dd_jdk_43_method_4_8 rfl ((flt (by decide)).2.2.1) ?_
  refine own_iconst (pc' := 12) X0 dd_jdk_43_method_4_11 rfl (z := (1 : Int32)) (by decide) ?_
  refine own_goto (pc' := 16) X0 dd_jdk_43_method_4_12 (by decide) (by decide) ?_
  exact own_ret X0 hGe (t := .boolean) rfl rfl (Or.inl ⟨rfl, by simp, _, rfl⟩) dd_jdk_43_method_4_16 (by decide) (by decide) ⟨rfl, rfl⟩
theorem ef_own_ioc2 (m : MethodId) (x0 : Addr) (x1 : Int32) (x2 : Int32) (x3 : Int32) : entryFrame m #[(.ref x0), (.int x1), (.int x2), (.int x3)] 6 = mkF m 0 #[.val (.ref x0), .val (.int x1), .val (.int x2), .val (.int x3), .unset, .unset] [] := by first | (simp [entryFrame, mkF, argsToLocals, Value.category]; done) | rfl
set_option maxRecDepth 65536 in
set_option maxHeartbeats 40000000 in
theorem own_ioc2 (l : Launch) (Z : State) (a0 : Array Value) (hw : ∀ d ∈ tables_1, d.before a0 Z = true) (EWf : own_EW Z own_EL) (n0 : Nat) (t : Addr) (kb : ClassId) (h0 : Heap) (O0 : Old Z n0 h0) (p_A : own_Arr Z h0 t kb .byte [(.int 46), (.int 95), (.int 45), (.int 58)]) :
    own_Met l Z own_EL [] n0 (⟨"java/lang/StringLatin1", "indexOfChar", "([BIII)I"⟩ : MethodName) jdk_43_method_23_code 6 (some .int) ({ frames := 0, cells := 0, slots := 0, locals := 0 } : Room) #[(.ref t), (.int (45 : Int32)), (.int (0 : Int32)), (.int (4 : Int32))] h0 (fun v h => v = some (.int 2) ∧ h0 = h) := by
  refine own_enter (own := "java/lang/StringLatin1") (nm := "indexOfChar") (plainFor_of_name pn_4) rfl rfl O0 EWf ?_
  have W : ∀ (k : Nat) {d : Jvm.Cond}, tables_1[k]? = some d → d.before a0 Z = true := fun k d q => hw d (List.mem_of_getElem? q)
  intro G p e s m below meth c T0 hGe X0
  rw [ef_own_ioc2 m t ((45 : Int32)) ((0 : Int32)) ((4 : Int32))]
  refine own_iload_n (pc' := 1) X0 dd_jdk_43_method_23_0 rfl rfl ?_
  refine own_i2b (pc' := 2) X0 dd_jdk_43_method_23_1 rfl ?_
  refine own_istore (pc' := 4) X0 dd_jdk_43_method_23_2 rfl (Ls' := #[.val (.ref t), .val (.int (45 : Int32)), .val (.int (0 : Int32)), .val (.int (4 : Int32)), .val (.int (own_b8 (45 : Int32))), .unset]) rfl ?_
  refine own_iload_n (pc' := 5) X0 dd_jdk_43_method_23_4 rfl rfl ?_
  refine own_istore (pc' := 7) X0 dd_jdk_43_method_23_5 rfl (Ls' := #[.val (.ref t), .val (.int (45 : Int32)), .val (.int (0 : Int32)), .val (.int (4 : Int32)), .val (.int (own_b8 (45 : Int32))), .val (.int (0 : Int32))]) rfl ?_
  refine own_iload (pc' := 9) X0 dd_jdk_43_method_23_7 rfl rfl ?_
  refine own_iload_n (pc' := 10) X0 dd_jdk_43_method_23_9 rfl rfl ?_
  refine own_icmpN (pc' := 13) X0 dd_jdk_43_method_23_10 rfl ((tlt (by decide)).2.1) ?_
  refine own_aload_n (pc' := 14) X0 dd_jdk_43_method_23_13 rfl rfl rfl ?_
  refine own_iload (pc' := 16) X0 dd_jdk_43_method_23_14 rfl rfl ?_
  refine own_baload (pc' := 17) (i := 0) (v := (.int (46 : Int32))) X0 p_A (by decide) rfl dd_jdk_43_method_23_16 rfl ?_
  refine own_iload (pc' := 19) X0 dd_jdk_43_method_23_17 rfl rfl ?_
  refine own_icmpY (pc' := 25) X0 dd_jdk_43_method_23_19 ((feq (by decide)).2) (by decide) (by decide) ?_
  refine own_iinc (pc' := 28) X0 dd_jdk_43_method_23_25 rfl rfl (z := (1 : Int32)) (by decide) (r := (1 : Int32)) (by decide) (Ls' := #[.val (.ref t), .val (.int (45 : Int32)), .val (.int (0 : Int32)), .val (.int (4 : Int32)), .val (.int (own_b8 (45 : Int32))), .val (.int (1 : Int32))]) rfl ?_
  refine own_goto (pc' := 7) X0 dd_jdk_43_method_23_28 (by decide) (by decide) ?_
  refine own_iload (pc' := 9) X0 dd_jdk_43_method_23_7 rfl rfl ?_
  refine own_iload_n (pc' := 10) X0 dd_jdk_43_method_23_9 rfl rfl ?_
  refine own_icmpN (pc' := 13) X0 dd_jdk_43_method_23_10 rfl ((tlt (by decide)).2.1) ?_
  refine own_aload_n (pc' := 14) X0 dd_jdk_43_method_23_13 rfl rfl rfl ?_
  refine own_iload (pc' := 16) X0 dd_jdk_43_method_23_14 rfl rfl ?_
  refine own_baload (pc' := 17) (i := 1) (v := (.int (95 : Int32))) X0 p_A (by decide) rfl dd_jdk_43_method_23_16 rfl ?_
  refine own_iload (pc' := 19) X0 dd_jdk_43_method_23_17 rfl rfl ?_
  refine own_icmpY (pc' := 25) X0 dd_jdk_43_method_23_19 ((feq (by decide)).2) (by decide) (by decide) ?_
  refine own_iinc (pc' := 28) X0 dd_jdk_43_method_23_25 rfl rfl (z := (1 : Int32)) (by decide) (r := (2 : Int32)) (by decide) (Ls' := #[.val (.ref t), .val (.int (45 : Int32)), .val (.int (0 : Int32)), .val (.int (4 : Int32)), .val (.int (own_b8 (45 : Int32))), .val (.int (2 : Int32))]) rfl ?_
  refine own_goto (pc' := 7) X0 dd_jdk_43_method_23_28 (by decide) (by decide) ?_
  refine own_iload (pc' := 9) X0 dd_jdk_43_method_23_7 rfl rfl ?_
  refine own_iload_n (pc' := 10) X0 dd_jdk_43_method_23_9 rfl rfl ?_
  refine own_icmpN (pc' := 13) X0 dd_jdk_43_method_23_10 rfl ((tlt (by decide)).2.1) ?_
  refine own_aload_n (pc' := 14) X0 dd_jdk_43_method_23_13 rfl rfl rfl ?_
  refine own_iload (pc' := 16) X0 dd_jdk_43_method_23_14 rfl rfl ?_
  refine own_baload (pc' := 17) (i := 2) (v := (.int (45 : Int32))) X0 p_A (by decide) rfl dd_jdk_43_method_23_16 rfl ?_
  refine own_iload (pc' := 19) X0 dd_jdk_43_method_23_17 rfl rfl ?_
  refine own_icmpN (pc' := 22) X0 dd_jdk_43_method_23_19 rfl ((teq (by decide)).2) ?_
  refine own_iload (pc' := 24) X0 dd_jdk_43_method_23_22 rfl rfl ?_
  exact own_ret X0 hGe (t := .int) rfl rfl (Or.inl ⟨rfl, by simp, _, rfl⟩) dd_jdk_43_method_23_24 (by decide) (by decide) ⟨rfl, rfl⟩
theorem ef_own_iol2 (m : MethodId) (x0 : Addr) (x1 : Int32) (x2 : Int32) (x3 : Int32) : entryFrame m #[(.ref x0), (.int x1), (.int x2), (.int x3)] 4 = mkF m 0 #[.val (.ref x0), .val (.int x1), .val (.int x2), .val (.int x3)] [] := by first | (simp [entryFrame, mkF, argsToLocals, Value.category]; done) | rfl
set_option maxRecDepth 65536 in
set_option maxHeartbeats 40000000 in
theorem own_iol2 (l : Launch) (Z : State) (a0 : Array Value) (hw : ∀ d ∈ tables_1, d.before a0 Z = true) (EWf : own_EW Z own_EL) (n0 : Nat) (t : Addr) (kb : ClassId) (h0 : Heap) (O0 : Old Z n0 h0) (p_A : own_Arr Z h0 t kb .byte [(.int 46), (.int 95), (.int 45), (.int 58)]) :
    own_Met l Z own_EL [] n0 (⟨"java/lang/StringLatin1", "indexOf", "([BIII)I"⟩ : MethodName) jdk_43_method_22_code 4 (some .int) ({ frames := 1, cells := 0, slots := 0, locals := 17 } : Room) #[(.ref t), (.int (45 : Int32)), (.int (0 : Int32)), (.int (4 : Int32))] h0 (fun v h => v = some (.int 2) ∧ h0 = h) := by
  refine own_enter (own := "java/lang/StringLatin1") (nm := "indexOf") (plainFor_of_name pn_4) rfl rfl O0 EWf ?_
  have W : ∀ (k : Nat) {d : Jvm.Cond}, tables_1[k]? = some d → d.before a0 Z = true := fun k d q => hw d (List.mem_of_getElem? q)
  intro G p e s m below meth c T0 hGe X0
  rw [ef_own_iol2 m t ((45 : Int32)) ((0 : Int32)) ((4 : Int32))]
  refine own_iload_n (pc' := 1) X0 dd_jdk_43_method_22_0 rfl rfl ?_
  refine own_callSM (pc' := 4) (cells' := 0) (slots' := 0) (argsL := [(.int (45 : Int32))]) (rest := []) (W := 0) (y := (⟨"java/lang/StringLatin1", "canEncode", "(I)Z"⟩ : MethodName)) X0 (W 127 rfl) (W 128 rfl) (by decide) (own_ce2 l Z a0 hw EWf n0  h0 (own_old X0) ) all0 (W 129 rfl) (W 79 rfl) (by decide) (by decide) rfl (lenOf pd_0 rfl) rfl rfl dd_jdk_43_method_22_1 rfl rfl rfl rfl (by decide) (by decide) ?_
  intro v1 T1 h1 s1 X1 q1
  obtain ⟨rfl, rfl⟩ := q1
  show G T1 (mkF m 4 #[.val (.ref t), .val (.int (45 : Int32)), .val (.int (0 : Int32)), .val (.int (4 : Int32))] [(.int (1 : Int32))])
  refine own_ifY (pc' := 9) X1 dd_jdk_43_method_22_4 ((feq (by decide)).2) (by decide) (by decide) ?_
  refine own_iload_n (pc' := 10) X1 dd_jdk_43_method_22_9 rfl rfl ?_
  refine own_iconst (pc' := 11) X1 dd_jdk_43_method_22_10 rfl (z := (0 : Int32)) (by decide) ?_
  refine own_callSM (pc' := 14) (cells' := 0) (slots' := 0) (argsL := [(.int (0 : Int32)), (.int (0 : Int32))]) (rest := []) (W := 0) (y := (⟨"java/lang/Math", "max", "(II)I"⟩ : MethodName)) X1 (W 130 rfl) (W 131 rfl) (by decide) (own_max0 l Z a0 hw EWf n0  h0 (own_old X1) ) all0 (W 133 rfl) (W 132 rfl) (by decide) (by decide) rfl (lenOf pd_1 rfl) rfl rfl dd_jdk_43_method_22_11 rfl rfl rfl rfl (by decide) (by decide) ?_
  intro v2 T2 h2 s2 X2 q2
  obtain ⟨rfl, rfl⟩ := q2
  show G T2 (mkF m 14 #[.val (.ref t), .val (.int (45 : Int32)), .val (.int (0 : Int32)), .val (.int (4 : Int32))] [(.int (0 : Int32))])
  refine own_istore_n (pc' := 15) X2 dd_jdk_43_method_22_14 rfl (Ls' := #[.val (.ref t), .val (.int (45 : Int32)), .val (.int (0 : Int32)), .val (.int (4 : Int32))]) rfl ?_
  refine own_iload_n (pc' := 16) X2 dd_jdk_43_method_22_15 rfl rfl ?_
  refine own_aload_n (pc' := 17) X2 dd_jdk_43_method_22_16 rfl rfl rfl ?_
  refine own_arraylength (pc' := 18) (z := (4 : Int32)) X2 p_A rfl dd_jdk_43_method_22_17 rfl ?_
  refine own_callSM (pc' := 21) (cells' := 0) (slots' := 0) (argsL := [(.int (4 : Int32)), (.int (4 : Int32))]) (rest := []) (W := 0) (y := (⟨"java/lang/Math", "min", "(II)I"⟩ : MethodName)) X2 (W 134 rfl) (W 135 rfl) (by decide) (own_min4 l Z a0 hw EWf n0  h0 (own_old X2) ) all0 (W 136 rfl) (W 132 rfl) (by decide) (by decide) rfl (lenOf pd_1 rfl) rfl rfl dd_jdk_43_method_22_18 rfl rfl rfl rfl (by decide) (by decide) ?_
  intro v3 T3 h3 s3 X3 q3
  obtain ⟨rfl, rfl⟩ := q3
  show G T3 (mkF m 21 #[.val (.ref t), .val (.int (45 : Int32)), .val (.int (0 : Int32)), .val (.int (4 : Int32))] [(.int (4 : Int32))])
  refine own_istore_n (pc' := 22) X3 dd_jdk_43_method_22_21 rfl (Ls' := #[.val (.ref t), .val (.int (45 : Int32)), .val (.int (0 : Int32)), .val (.int (4 : Int32))]) rfl ?_
  refine own_iload_n (pc' := 23) X3 dd_jdk_43_method_22_22 rfl rfl ?_
  refine own_iload_n (pc' := 24) X3 dd_jdk_43_method_22_23 rfl rfl ?_
  refine own_icmpY (pc' := 29) X3 dd_jdk_43_method_22_24 ((tlt (by decide)).1) (by decide) (by decide) ?_
  refine own_aload_n (pc' := 30) X3 dd_jdk_43_method_22_29 rfl rfl rfl ?_
  refine own_iload_n (pc' := 31) X3 dd_jdk_43_method_22_30 rfl rfl ?_
  refine own_iload_n (pc' := 32) X3 dd_jdk_43_method_22_31 rfl rfl ?_
  refine own_iload_n (pc' := 33) X3 dd_jdk_43_method_22_32 rfl rfl ?_
  refine own_callSM (pc' := 36) (cells' := 0) (slots' := 0) (argsL := [(.ref t), (.int (45 : Int32)), (.int (0 : Int32)), (.int (4 : Int32))]) (rest := []) (W := 0) (y := (⟨"java/lang/StringLatin1", "indexOfChar", "([BIII)I"⟩ : MethodName)) X3 (W 137 rfl) (W 138 rfl) (by decide) (own_ioc2 l Z a0 hw EWf n0 t kb h0 (own_old X3) p_A) all0 (W 139 rfl) (W 79 rfl) (by decide) (by decide) rfl (lenOf pd_2 rfl) rfl rfl dd_jdk_43_method_22_33 rfl rfl rfl rfl (by decide) (by decide) ?_
  intro v4 T4 h4 s4 X4 q4
  obtain ⟨rfl, rfl⟩ := q4
  show G T4 (mkF m 36 #[.val (.ref t), .val (.int (45 : Int32)), .val (.int (0 : Int32)), .val (.int (4 : Int32))] [(.int (2 : Int32))])
  exact own_ret X4 hGe (t := .int) rfl rfl (Or.inl ⟨rfl, by simp, _, rfl⟩) dd_jdk_43_method_22_36 (by decide) (by decide) ⟨rfl, rfl⟩
theorem ef_own_io22 (m : MethodId) (x0 : Addr) (x1 : Int32) (x2 : Int32) : entryFrame m #[(.ref x0), (.int x1), (.int x2)] 3 = mkF m 0 #[.val (.ref x0), .val (.int x1), .val (.int x2)] [] := by first | (simp [entryFrame, mkF, argsToLocals, Value.category]; done) | rfl
set_option maxRecDepth 65536 in
set_option maxHeartbeats 40000000 in
theorem own_io22 (l : Launch) (Z : State) (a0 : Array Value) (hw : ∀ d ∈ tables_1, d.before a0 Z = true) (EWf : own_EW Z own_EL) (n0 : Nat) (a t : Addr) (kb : ClassId) (h0 : Heap) (O0 : Old Z n0 h0) (p_E : Exa Z h0 a "java/lang/String") (p_V : Fld Z h0 a "java/lang/String" "value" "[B" (.ref t)) (p_C : Fld Z h0 a "java/lang/String" "coder" "B" (.int 0)) (p_A : own_Arr Z h0 t kb .byte [(.int 46), (.int 95), (.int 45), (.int 58)]) (CS : own_CS Z) :
    own_Met l Z own_EL [] n0 (⟨"java/lang/String", "indexOf", "(II)I"⟩ : MethodName) jdk_42_method_80_code 3 (some .int) ({ frames := 2, cells := 0, slots := 0, locals := 32 } : Room) #[(.ref a), (.int (45 : Int32)), (.int (0 : Int32))] h0 (fun v h => v = some (.int 2) ∧ h0 = h) := by
  refine own_enter (own := "java/lang/String") (nm := "indexOf") (plainFor_of_name pn_1) rfl rfl O0 EWf ?_
  have W : ∀ (k : Nat) {d : Jvm.Cond}, tables_1[k]? = some d → d.before a0 Z = true := fun k d q => hw d (List.mem_of_getElem? q)
  intro G p e s m below meth c T0 hGe X0
  rw [ef_own_io22 m a ((45 : Int32)) ((0 : Int32))]
  refine own_aload_n (pc' := 1) X0 dd_jdk_42_method_80_0 rfl rfl rfl ?_
  refine own_callVM (pc' := 4) (cells' := 0) (slots' := 0) (argsL := []) (rest := []) (W := 0) (y := (⟨"java/lang/String", "isLatin1", "()Z"⟩ : MethodName)) (z := (⟨"java/lang/String", "isLatin1", "()Z"⟩ : MethodName)) (a := a) X0 (W 72 rfl) (W 73 rfl) (fun s' hZ' => notFace_of_selects (args := #[]) (mvT hZ' (W 75 rfl))) (W 75 rfl) (W 74 rfl) (by decide) p_E (own_lat l Z a0 hw EWf n0 a h0 (own_old X0) p_C CS) all0 (W 76 rfl) (W 10 rfl) (by decide) (by decide) rfl (lenOf pd_3 rfl) rfl rfl dd_jdk_42_method_80_1 rfl rfl rfl rfl (by decide) (by decide) ?_
  intro v1 T1 h1 s1 X1 q1
  obtain ⟨rfl, rfl⟩ := q1
  show G T1 (mkF m 4 #[.val (.ref a), .val (.int (45 : Int32)), .val (.int (0 : Int32))] [(.int (1 : Int32))])
  refine own_ifN (pc' := 7) X1 dd_jdk_42_method_80_4 rfl ((feq (by decide)).1) ?_
  refine own_aload_n (pc' := 8) X1 dd_jdk_42_method_80_7 rfl rfl rfl ?_
  refine own_get (pc' := 11) X1 (host := "") (Or.inl (W 36 rfl)) Via.refl p_V dd_jdk_42_method_80_8 rfl ?_
  intro T2 X2
  refine own_iload_n (pc' := 12) X2 dd_jdk_42_method_80_11 rfl rfl ?_
  refine own_iload_n (pc' := 13) X2 dd_jdk_42_method_80_12 rfl rfl ?_
  refine own_aload_n (pc' := 14) X2 dd_jdk_42_method_80_13 rfl rfl rfl ?_
  have p_S := own_StrLit (cs := [46, 95, 45, 58]) p_E p_V p_C p_A (by decide) (by decide) (by decide)
  refine own_strlen (pc' := 17) (W := 3) X2 (fun d hd => hw d (own_in_wordsLen d hd)) CS (W 123 rfl) (W 58 rfl) (W 60 rfl) (W 59 rfl) (W 9 rfl) p_S  (by decide) (by decide) (lenOf (L := []) pd_4 rfl) rfl rfl dd_jdk_42_method_80_14 rfl (by decide) (by decide) ?_
  intro T3 X3
  show G T3 (mkF m 17 #[.val (.ref a), .val (.int (45 : Int32)), .val (.int (0 : Int32))] [(.int (4 : Int32)), (.int (0 : Int32)), (.int (45 : Int32)), (.ref t)])
  refine own_callSM (pc' := 20) (cells' := 0) (slots' := 0) (argsL := [(.ref t), (.int (45 : Int32)), (.int (0 : Int32)), (.int (4 : Int32))]) (rest := []) (W := 0) (y := (⟨"java/lang/StringLatin1", "indexOf", "([BIII)I"⟩ : MethodName)) X3 (W 124 rfl) (W 125 rfl) (by decide) (own_iol2 l Z a0 hw EWf n0 t kb h0 (own_old X3) p_A) all0 (W 126 rfl) (W 79 rfl) (by decide) (by decide) rfl (lenOf pd_2 rfl) rfl rfl dd_jdk_42_method_80_17 rfl rfl rfl rfl (by decide) (by decide) ?_
  intro v4 T4 h4 s4 X4 q4
  obtain ⟨rfl, rfl⟩ := q4
  show G T4 (mkF m 20 #[.val (.ref a), .val (.int (45 : Int32)), .val (.int (0 : Int32))] [(.int (2 : Int32))])
  refine own_goto (pc' := 36) X4 dd_jdk_42_method_80_20 (by decide) (by decide) ?_
  exact own_ret X4 hGe (t := .int) rfl rfl (Or.inl ⟨rfl, by simp, _, rfl⟩) dd_jdk_42_method_80_36 (by decide) (by decide) ⟨rfl, rfl⟩
theorem ef_own_io12 (m : MethodId) (x0 : Addr) (x1 : Int32) : entryFrame m #[(.ref x0), (.int x1)] 2 = mkF m 0 #[.val (.ref x0), .val (.int x1)] [] := by first | (simp [entryFrame, mkF, argsToLocals, Value.category]; done) | rfl
set_option maxRecDepth 65536 in
set_option maxHeartbeats 40000000 in
theorem own_io12 (l : Launch) (Z : State) (a0 : Array Value) (hw : ∀ d ∈ tables_1, d.before a0 Z = true) (EWf : own_EW Z own_EL) (n0 : Nat) (a t : Addr) (kb : ClassId) (h0 : Heap) (O0 : Old Z n0 h0) (p_E : Exa Z h0 a "java/lang/String") (p_V : Fld Z h0 a "java/lang/String" "value" "[B" (.ref t)) (p_C : Fld Z h0 a "java/lang/String" "coder" "B" (.int 0)) (p_A : own_Arr Z h0 t kb .byte [(.int 46), (.int 95), (.int 45), (.int 58)]) (CS : own_CS Z) :
    own_Met l Z own_EL [] n0 (⟨"java/lang/String", "indexOf", "(I)I"⟩ : MethodName) jdk_42_method_79_code 2 (some .int) ({ frames := 3, cells := 0, slots := 0, locals := 46 } : Room) #[(.ref a), (.int (45 : Int32))] h0 (fun v h => v = some (.int 2) ∧ h0 = h) := by
  refine own_enter (own := "java/lang/String") (nm := "indexOf") (plainFor_of_name pn_1) rfl rfl O0 EWf ?_
  have W : ∀ (k : Nat) {d : Jvm.Cond}, tables_1[k]? = some d → d.before a0 Z = true := fun k d q => hw d (List.mem_of_getElem? q)
  intro G p e s m below meth c T0 hGe X0
  rw [ef_own_io12 m a ((45 : Int32))]
  refine own_aload_n (pc' := 1) X0 dd_jdk_42_method_79_0 rfl rfl rfl ?_
  refine own_iload_n (pc' := 2) X0 dd_jdk_42_method_79_1 rfl rfl ?_
  refine own_iconst (pc' := 3) X0 dd_jdk_42_method_79_2 rfl (z := (0 : Int32)) (by decide) ?_
  refine own_callVM (pc' := 6) (cells' := 0) (slots' := 0) (argsL := [(.int (45 : Int32)), (.int (0 : Int32))]) (rest := []) (W := 0) (y := (⟨"java/lang/String", "indexOf", "(II)I"⟩ : MethodName)) (z := (⟨"java/lang/String", "indexOf", "(II)I"⟩ : MethodName)) (a := a) X0 (W 118 rfl) (W 119 rfl) (fun s' hZ' => notFace_of_selects (args := #[]) (mvT hZ' (W 121 rfl))) (W 121 rfl) (W 120 rfl) (by decide) p_E (own_io22 l Z a0 hw EWf n0 a t kb h0 (own_old X0) p_E p_V p_C p_A CS) all0 (W 122 rfl) (W 10 rfl) (by decide) (by decide) rfl (lenOf pd_1 rfl) rfl rfl dd_jdk_42_method_79_3 rfl rfl rfl rfl (by decide) (by decide) ?_
  intro v1 T1 h1 s1 X1 q1
  obtain ⟨rfl, rfl⟩ := q1
  show G T1 (mkF m 6 #[.val (.ref a), .val (.int (45 : Int32))] [(.int (2 : Int32))])
  exact own_ret X1 hGe (t := .int) rfl rfl (Or.inl ⟨rfl, by simp, _, rfl⟩) dd_jdk_42_method_79_6 (by decide) (by decide) ⟨rfl, rfl⟩
theorem ef_own_ce3 (m : MethodId) (x0 : Int32) : entryFrame m #[(.int x0)] 1 = mkF m 0 #[.val (.int x0)] [] := by first | (simp [entryFrame, mkF, argsToLocals, Value.category]; done) | rfl
set_option maxRecDepth 65536 in
set_option maxHeartbeats 40000000 in
theorem own_ce3 (l : Launch) (Z : State) (a0 : Array Value) (hw : ∀ d ∈ tables_1, d.before a0 Z = true) (EWf : own_EW Z own_EL) (n0 : Nat)  (h0 : Heap) (O0 : Old Z n0 h0)  :
    own_Met l Z own_EL [] n0 (⟨"java/lang/StringLatin1", "canEncode", "(I)Z"⟩ : MethodName) jdk_43_method_4_code 1 (some .boolean) ({ frames := 0, cells := 0, slots := 0, locals := 0 } : Room) #[(.int (58 : Int32))] h0 (fun v h => v = some (.int 1) ∧ h0 = h) := by
  refine own_enter (own := "java/lang/StringLatin1") (nm := "canEncode") (plainFor_of_name pn_4) rfl rfl O0 EWf ?_
  have W : ∀ (k : Nat) {d : Jvm.Cond}, tables_1[k]? = some d → d.before a0 Z = true := fun k d q => hw d (List.mem_of_getElem? q)
  intro G p e s m below meth c T0 hGe X0
  rw [ef_own_ce3 m ((58 : Int32))]
  refine own_iload_n (pc' := 1) X0 dd_jdk_43_method_4_0 rfl rfl ?_
  refine own_ifN (pc' := 4) X0 dd_jdk_43_method_4_1 rfl ((flt (by decide)).1) ?_
  refine own_iload_n (pc' := 5) X0 dd_jdk_43_method_4_4 rfl rfl ?_
  refine own_sipush (pc' := 8) X0 dd_jdk_43_method_4_5 rfl (z := (255 : Int32)) (by decide) ?_
  refine own_icmpN (pc' := 11) X0 dd_jdk_43_method_4_8 rfl ((flt (by decide)).2.2.1) ?_
  refine own_iconst (pc' := 12) X0 dd_jdk_43_method_4_11 rfl (z := (1 : Int32)) (by decide) ?_
  refine own_goto (pc' := 16) X0 dd_jdk_43_method_4_12 (by decide) (by decide) ?_
  exact own_ret X0 hGe (t := .boolean) rfl rfl (Or.inl ⟨rfl, by simp, _, rfl⟩) dd_jdk_43_method_4_16 (by decide) (by decide) ⟨rfl, rfl⟩
theorem ef_own_ioc3 (m : MethodId) (x0 : Addr) (x1 : Int32) (x2 : Int32) (x3 : Int32) : entryFrame m #[(.ref x0), (.int x1), (.int x2), (.int x3)] 6 = mkF m 0 #[.val (.ref x0), .val (.int x1), .val (.int x2), .val (.int x3), .unset, .unset] [] := by first | (simp [entryFrame, mkF, argsToLocals, Value.category]; done) | rfl
set_option maxRecDepth 65536 in
set_option maxHeartbeats 40000000 in
theorem own_ioc3 (l : Launch) (Z : State) (a0 : Array Value) (hw : ∀ d ∈ tables_1, d.before a0 Z = true) (EWf : own_EW Z own_EL) (n0 : Nat) (t : Addr) (kb : ClassId) (h0 : Heap) (O0 : Old Z n0 h0) (p_A : own_Arr Z h0 t kb .byte [(.int 46), (.int 95), (.int 45), (.int 58)]) :
    own_Met l Z own_EL [] n0 (⟨"java/lang/StringLatin1", "indexOfChar", "([BIII)I"⟩ : MethodName) jdk_43_method_23_code 6 (some .int) ({ frames := 0, cells := 0, slots := 0, locals := 0 } : Room) #[(.ref t), (.int (58 : Int32)), (.int (0 : Int32)), (.int (4 : Int32))] h0 (fun v h => v = some (.int 3) ∧ h0 = h) := by
  refine own_enter (own := "java/lang/StringLatin1") (nm := "indexOfChar") (plainFor_of_name pn_4) rfl rfl O0 EWf ?_
  have W : ∀ (k : Nat) {d : Jvm.Cond}, tables_1[k]? = some d → d.before a0 Z = true := fun k d q => hw d (List.mem_of_getElem? q)
  intro G p e s m below meth c T0 hGe X0
  rw [ef_own_ioc3 m t ((58 : Int32)) ((0 : Int32)) ((4 : Int32))]
  refine own_iload_n (pc' := 1) X0 dd_jdk_43_method_23_0 rfl rfl ?_
  refine own_i2b (pc' := 2) X0 dd_jdk_43_method_23_1 rfl ?_
  refine own_istore (pc' := 4) X0 dd_jdk_43_method_23_2 rfl (Ls' := #[.val (.ref t), .val (.int (58 : Int32)), .val (.int (0 : Int32)), .val (.int (4 : Int32)), .val (.int (own_b8 (58 : Int32))), .unset]) rfl ?_
  refine own_iload_n (pc' := 5) X0 dd_jdk_43_method_23_4 rfl rfl ?_
  refine own_istore (pc' := 7) X0 dd_jdk_43_method_23_5 rfl (Ls' := #[.val (.ref t), .val (.int (58 : Int32)), .val (.int (0 : Int32)), .val (.int (4 : Int32)), .val (.int (own_b8 (58 : Int32))), .val (.int (0 : Int32))]) rfl ?_
  refine own_iload (pc' := 9) X0 dd_jdk_43_method_23_7 rfl rfl ?_
  refine own_iload_n (pc' := 10) X0 dd_jdk_43_method_23_9 rfl rfl ?_
  refine own_icmpN (pc' := 13) X0 dd_jdk_43_method_23_10 rfl ((tlt (by decide)).2.1) ?_
  refine own_aload_n (pc' := 14) X0 dd_jdk_43_method_23_13 rfl rfl rfl ?_
  refine own_iload (pc' := 16) X0 dd_jdk_43_method_23_14 rfl rfl ?_
  refine own_baload (pc' := 17) (i := 0) (v := (.int (46 : Int32))) X0 p_A (by decide) rfl dd_jdk_43_method_23_16 rfl ?_
  refine own_iload (pc' := 19) X0 dd_jdk_43_method_23_17 rfl rfl ?_
  refine own_icmpY (pc' := 25) X0 dd_jdk_43_method_23_19 ((feq (by decide)).2) (by decide) (by decide) ?_
  refine own_iinc (pc' := 28) X0 dd_jdk_43_method_23_25 rfl rfl (z := (1 : Int32)) (by decide) (r := (1 : Int32)) (by decide) (Ls' := #[.val (.ref t), .val (.int (58 : Int32)), .val (.int (0 : Int32)), .val (.int (4 : Int32)), .val (.int (own_b8 (58 : Int32))), .val (.int (1 : Int32))]) rfl ?_
  refine own_goto (pc' := 7) X0 dd_jdk_43_method_23_28 (by decide) (by decide) ?_
  refine own_iload (pc' := 9) X0 dd_jdk_43_method_23_7 rfl rfl ?_
  refine own_iload_n (pc' := 10) X0 dd_jdk_43_method_23_9 rfl rfl ?_
  refine own_icmpN (pc' := 13) X0 dd_jdk_43_method_23_10 rfl ((tlt (by decide)).2.1) ?_
  refine own_aload_n (pc' := 14) X0 dd_jdk_43_method_23_13 rfl rfl rfl ?_
  refine own_iload (pc' := 16) X0 dd_jdk_43_method_23_14 rfl rfl ?_
  refine own_baload (pc' := 17) (i := 1) (v := (.int (95 : Int32))) X0 p_A (by decide) rfl dd_jdk_43_method_23_16 rfl ?_
  refine own_iload (pc' := 19) X0 dd_jdk_43_method_23_17 rfl rfl ?_
  refine own_icmpY (pc' := 25) X0 dd_jdk_43_method_23_19 ((feq (by decide)).2) (by decide) (by decide) ?_
  refine own_iinc (pc' := 28) X0 dd_jdk_43_method_23_25 rfl rfl (z := (1 : Int32)) (by decide) (r := (2 : Int32)) (by decide) (Ls' := #[.val (.ref t), .val (.int (58 : Int32)), .val (.int (0 : Int32)), .val (.int (4 : Int32)), .val (.int (own_b8 (58 : Int32))), .val (.int (2 : Int32))]) rfl ?_
  refine own_goto (pc' := 7) X0 dd_jdk_43_method_23_28 (by decide) (by decide) ?_
  refine own_iload (pc' := 9) X0 dd_jdk_43_method_23_7 rfl rfl ?_
  refine own_iload_n (pc' := 10) X0 dd_jdk_43_method_23_9 rfl rfl ?_
  refine own_icmpN (pc' := 13) X0 dd_jdk_43_method_23_10 rfl ((tlt (by decide)).2.1) ?_
  refine own_aload_n (pc' := 14) X0 dd_jdk_43_method_23_13 rfl rfl rfl ?_
  refine own_iload (pc' := 16) X0 dd_jdk_43_method_23_14 rfl rfl ?_
  refine own_baload (pc' := 17) (i := 2) (v := (.int (45 : Int32))) X0 p_A (by decide) rfl dd_jdk_43_method_23_16 rfl ?_
  refine own_iload (pc' := 19) X0 dd_jdk_43_method_23_17 rfl rfl ?_
  refine own_icmpY (pc' := 25) X0 dd_jdk_43_method_23_19 ((feq (by decide)).2) (by decide) (by decide) ?_
  refine own_iinc (pc' := 28) X0 dd_jdk_43_method_23_25 rfl rfl (z := (1 : Int32)) (by decide) (r := (3 : Int32)) (by decide) (Ls' := #[.val (.ref t), .val (.int (58 : Int32)), .val (.int (0 : Int32)), .val (.int (4 : Int32)), .val (.int (own_b8 (58 : Int32))), .val (.int (3 : Int32))]) rfl ?_
  refine own_goto (pc' := 7) X0 dd_jdk_43_method_23_28 (by decide) (by decide) ?_
  refine own_iload (pc' := 9) X0 dd_jdk_43_method_23_7 rfl rfl ?_
  refine own_iload_n (pc' := 10) X0 dd_jdk_43_method_23_9 rfl rfl ?_
  refine own_icmpN (pc' := 13) X0 dd_jdk_43_method_23_10 rfl ((tlt (by decide)).2.1) ?_
  refine own_aload_n (pc' := 14) X0 dd_jdk_43_method_23_13 rfl rfl rfl ?_
  refine own_iload (pc' := 16) X0 dd_jdk_43_method_23_14 rfl rfl ?_
  refine own_baload (pc' := 17) (i := 3) (v := (.int (58 : Int32))) X0 p_A (by decide) rfl dd_jdk_43_method_23_16 rfl ?_
  refine own_iload (pc' := 19) X0 dd_jdk_43_method_23_17 rfl rfl ?_
  refine own_icmpN (pc' := 22) X0 dd_jdk_43_method_23_19 rfl ((teq (by decide)).2) ?_
  refine own_iload (pc' := 24) X0 dd_jdk_43_method_23_22 rfl rfl ?_
  exact own_ret X0 hGe (t := .int) rfl rfl (Or.inl ⟨rfl, by simp, _, rfl⟩) dd_jdk_43_method_23_24 (by decide) (by decide) ⟨rfl, rfl⟩
theorem ef_own_iol3 (m : MethodId) (x0 : Addr) (x1 : Int32) (x2 : Int32) (x3 : Int32) : entryFrame m #[(.ref x0), (.int x1), (.int x2), (.int x3)] 4 = mkF m 0 #[.val (.ref x0), .val (.int x1), .val (.int x2), .val (.int x3)] [] := by first | (simp [entryFrame, mkF, argsToLocals, Value.category]; done) | rfl
set_option maxRecDepth 65536 in
set_option maxHeartbeats 40000000 in
theorem own_iol3 (l : Launch) (Z : State) (a0 : Array Value) (hw : ∀ d ∈ tables_1, d.before a0 Z = true) (EWf : own_EW Z own_EL) (n0 : Nat) (t : Addr) (kb : ClassId) (h0 : Heap) (O0 : Old Z n0 h0) (p_A : own_Arr Z h0 t kb .byte [(.int 46), (.int 95), (.int 45), (.int 58)]) :
    own_Met l Z own_EL [] n0 (⟨"java/lang/StringLatin1", "indexOf", "([BIII)I"⟩ : MethodName) jdk_43_method_22_code 4 (some .int) ({ frames := 1, cells := 0, slots := 0, locals := 17 } : Room) #[(.ref t), (.int (58 : Int32)), (.int (0 : Int32)), (.int (4 : Int32))] h0 (fun v h => v = some (.int 3) ∧ h0 = h) := by
  refine own_enter (own := "java/lang/StringLatin1") (nm := "indexOf") (plainFor_of_name pn_4) rfl rfl O0 EWf ?_
  have W : ∀ (k : Nat) {d : Jvm.Cond}, tables_1[k]? = some d → d.before a0 Z = true := fun k d q => hw d (List.mem_of_getElem? q)
  intro G p e s m below meth c T0 hGe X0
  rw [ef_own_iol3 m t ((58 : Int32)) ((0 : Int32)) ((4 : Int32))]
  refine own_iload_n (pc' := 1) X0 dd_jdk_43_method_22_0 rfl rfl ?_
  refine own_callSM (pc' := 4) (cells' := 0) (slots' := 0) (argsL := [(.int (58 : Int32))]) (rest := []) (W := 0) (y := (⟨"java/lang/StringLatin1", "canEncode", "(I)Z"⟩ : MethodName)) X0 (W 127 rfl) (W 128 rfl) (by decide) (own_ce3 l Z a0 hw EWf n0  h0 (own_old X0) ) all0 (W 129 rfl) (W 79 rfl) (by decide) (by decide) rfl (lenOf pd_0 rfl) rfl rfl dd_jdk_43_method_22_1 rfl rfl rfl rfl (by decide) (by decide) ?_
  intro v1 T1 h1 s1 X1 q1
  obtain ⟨rfl, rfl⟩ := q1
  show G T1 (mkF m 4 #[.val (.ref t), .val (.int (58 : Int32)), .val (.int (0 : Int32)), .val (.int (4 : Int32))] [(.int (1 : Int32))])
  refine own_ifY (pc' := 9) X1 dd_jdk_43_method_22_4 ((feq (by decide)).2) (by decide) (by decide) ?_
  refine own_iload_n (pc' := 10) X1 dd_jdk_43_method_22_9 rfl rfl ?_
  refine own_iconst (pc' := 11) X1 dd_jdk_43_method_22_10 rfl (z := (0 : Int32)) (by decide) ?_
  refine own_callSM (pc' := 14) (cells' := 0) (slots' := 0) (argsL := [(.int (0 : Int32)), (.int (0 : Int32))]) (rest := []) (W := 0) (y := (⟨"java/lang/Math", "max", "(II)I"⟩ : MethodName)) X1 (W 130 rfl) (W 131 rfl) (by decide) (own_max0 l Z a0 hw EWf n0  h0 (own_old X1) ) all0 (W 133 rfl) (W 132 rfl) (by decide) (by decide) rfl (lenOf pd_1 rfl) rfl rfl dd_jdk_43_method_22_11 rfl rfl rfl rfl (by decide) (by decide) ?_
  intro v2 T2 h2 s2 X2 q2
  obtain ⟨rfl, rfl⟩ := q2
  show G T2 (mkF m 14 #[.val (.ref t), .val (.int (58 : Int32)), .val (.int (0 : Int32)), .val (.int (4 : Int32))] [(.int (0 : Int32))])
  refine own_istore_n (pc' := 15) X2 dd_jdk_43_method_22_14 rfl (Ls' := #[.val (.ref t), .val (.int (58 : Int32)), .val (.int (0 : Int32)), .val (.int (4 : Int32))]) rfl ?_
  refine own_iload_n (pc' := 16) X2 dd_jdk_43_method_22_15 rfl rfl ?_
  refine own_aload_n (pc' := 17) X2 dd_jdk_43_method_22_16 rfl rfl rfl ?_
  refine own_arraylength (pc' := 18) (z := (4 : Int32)) X2 p_A rfl dd_jdk_43_method_22_17 rfl ?_
  refine own_callSM (pc' := 21) (cells' := 0) (slots' := 0) (argsL := [(.int (4 : Int32)), (.int (4 : Int32))]) (rest := []) (W := 0) (y := (⟨"java/lang/Math", "min", "(II)I"⟩ : MethodName)) X2 (W 134 rfl) (W 135 rfl) (by decide) (own_min4 l Z a0 hw EWf n0  h0 (own_old X2) ) all0 (W 136 rfl) (W 132 rfl) (by decide) (by decide) rfl (lenOf pd_1 rfl) rfl rfl dd_jdk_43_method_22_18 rfl rfl rfl rfl (by decide) (by decide) ?_
  intro v3 T3 h3 s3 X3 q3
  obtain ⟨rfl, rfl⟩ := q3
  show G T3 (mkF m 21 #[.val (.ref t), .val (.int (58 : Int32)), .val (.int (0 : Int32)), .val (.int (4 : Int32))] [(.int (4 : Int32))])
  refine own_istore_n (pc' := 22) X3 dd_jdk_43_method_22_21 rfl (Ls' := #[.val (.ref t), .val (.int (58 : Int32)), .val (.int (0 : Int32)), .val (.int (4 : Int32))]) rfl ?_
  refine own_iload_n (pc' := 23) X3 dd_jdk_43_method_22_22 rfl rfl ?_
  refine own_iload_n (pc' := 24) X3 dd_jdk_43_method_22_23 rfl rfl ?_
  refine own_icmpY (pc' := 29) X3 dd_jdk_43_method_22_24 ((tlt (by decide)).1) (by decide) (by decide) ?_
  refine own_aload_n (pc' := 30) X3 dd_jdk_43_method_22_29 rfl rfl rfl ?_
  refine own_iload_n (pc' := 31) X3 dd_jdk_43_method_22_30 rfl rfl ?_
  refine own_iload_n (pc' := 32) X3 dd_jdk_43_method_22_31 rfl rfl ?_
  refine own_iload_n (pc' := 33) X3 dd_jdk_43_method_22_32 rfl rfl ?_
  refine own_callSM (pc' := 36) (cells' := 0) (slots' := 0) (argsL := [(.ref t), (.int (58 : Int32)), (.int (0 : Int32)), (.int (4 : Int32))]) (rest := []) (W := 0) (y := (⟨"java/lang/StringLatin1", "indexOfChar", "([BIII)I"⟩ : MethodName)) X3 (W 137 rfl) (W 138 rfl) (by decide) (own_ioc3 l Z a0 hw EWf n0 t kb h0 (own_old X3) p_A) all0 (W 139 rfl) (W 79 rfl) (by decide) (by decide) rfl (lenOf pd_2 rfl) rfl rfl dd_jdk_43_method_22_33 rfl rfl rfl rfl (by decide) (by decide) ?_
  intro v4 T4 h4 s4 X4 q4
  obtain ⟨rfl, rfl⟩ := q4
  show G T4 (mkF m 36 #[.val (.ref t), .val (.int (58 : Int32)), .val (.int (0 : Int32)), .val (.int (4 : Int32))] [(.int (3 : Int32))])
  exact own_ret X4 hGe (t := .int) rfl rfl (Or.inl ⟨rfl, by simp, _, rfl⟩) dd_jdk_43_method_22_36 (by decide) (by decide) ⟨rfl, rfl⟩
theorem ef_own_io23 (m : MethodId) (x0 : Addr) (x1 : Int32) (x2 : Int32) : entryFrame m #[(.ref x0), (.int x1), (.int x2)] 3 = mkF m 0 #[.val (.ref x0), .val (.int x1), .val (.int x2)] [] := by first | (simp [entryFrame, mkF, argsToLocals, Value.category]; done) | rfl
set_option maxRecDepth 65536 in
set_option maxHeartbeats 40000000 in
theorem own_io23 (l : Launch) (Z : State) (a0 : Array Value) (hw : ∀ d ∈ tables_1, d.before a0 Z = true) (EWf : own_EW Z own_EL) (n0 : Nat) (a t : Addr) (kb : ClassId) (h0 : Heap) (O0 : Old Z n0 h0) (p_E : Exa Z h0 a "java/lang/String") (p_V : Fld Z h0 a "java/lang/String" "value" "[B" (.ref t)) (p_C : Fld Z h0 a "java/lang/String" "coder" "B" (.int 0)) (p_A : own_Arr Z h0 t kb .byte [(.int 46), (.int 95), (.int 45), (.int 58)]) (CS : own_CS Z) :
    own_Met l Z own_EL [] n0 (⟨"java/lang/String", "indexOf", "(II)I"⟩ : MethodName) jdk_42_method_80_code 3 (some .int) ({ frames := 2, cells := 0, slots := 0, locals := 32 } : Room) #[(.ref a), (.int (58 : Int32)), (.int (0 : Int32))] h0 (fun v h => v = some (.int 3) ∧ h0 = h) := by
  refine own_enter (own := "java/lang/String") (nm := "indexOf") (plainFor_of_name pn_1) rfl rfl O0 EWf ?_
  have W : ∀ (k : Nat) {d : Jvm.Cond}, tables_1[k]? = some d → d.before a0 Z = true := fun k d q => hw d (List.mem_of_getElem? q)
  intro G p e s m below meth c T0 hGe X0
  rw [ef_own_io23 m a ((58 : Int32)) ((0 : Int32))]
  refine own_aload_n (pc' := 1) X0 dd_jdk_42_method_80_0 rfl rfl rfl ?_
  refine own_callVM (pc' := 4) (cells' := 0) (slots' := 0) (argsL := []) (rest := []) (W := 0) (y := (⟨"java/lang/String", "isLatin1", "()Z"⟩ : MethodName)) (z := (⟨"java/lang/String", "isLatin1", "()Z"⟩ : MethodName)) (a := a) X0 (W 72 rfl) (W 73 rfl) (fun s' hZ' => notFace_of_selects (args := #[]) (mvT hZ' (W 75 rfl))) (W 75 rfl) (W 74 rfl) (by decide) p_E (own_lat l Z a0 hw EWf n0 a h0 (own_old X0) p_C CS) all0 (W 76 rfl) (W 10 rfl) (by decide) (by decide) rfl (lenOf pd_3 rfl) rfl rfl dd_jdk_42_method_80_1 rfl rfl rfl rfl (by decide) (by decide) ?_
  intro v1 T1 h1 s1 X1 q1
  obtain ⟨rfl, rfl⟩ := q1
  show G T1 (mkF m 4 #[.val (.ref a), .val (.int (58 : Int32)), .val (.int (0 : Int32))] [(.int (1 : Int32))])
  refine own_ifN (pc' := 7) X1 dd_jdk_42_method_80_4 rfl ((feq (by decide)).1) ?_
  refine own_aload_n (pc' := 8) X1 dd_jdk_42_method_80_7 rfl rfl rfl ?_
  refine own_get (pc' := 11) X1 (host := "") (Or.inl (W 36 rfl)) Via.refl p_V dd_jdk_42_method_80_8 rfl ?_
  intro T2 X2
  refine own_iload_n (pc' := 12) X2 dd_jdk_42_method_80_11 rfl rfl ?_
  refine own_iload_n (pc' := 13) X2 dd_jdk_42_method_80_12 rfl rfl ?_
  refine own_aload_n (pc' := 14) X2 dd_jdk_42_method_80_13 rfl rfl rfl ?_
  have p_S := own_StrLit (cs := [46, 95, 45, 58]) p_E p_V p_C p_A (by decide) (by decide) (by decide)
  refine own_strlen (pc' := 17) (W := 3) X2 (fun d hd => hw d (own_in_wordsLen d hd)) CS (W 123 rfl) (W 58 rfl) (W 60 rfl) (W 59 rfl) (W 9 rfl) p_S  (by decide) (by decide) (lenOf (L := []) pd_4 rfl) rfl rfl dd_jdk_42_method_80_14 rfl (by decide) (by decide) ?_
  intro T3 X3
  show G T3 (mkF m 17 #[.val (.ref a), .val (.int (58 : Int32)), .val (.int (0 : Int32))] [(.int (4 : Int32)), (.int (0 : Int32)), (.int (58 : Int32)), (.ref t)])
  refine own_callSM (pc' := 20) (cells' := 0) (slots' := 0) (argsL := [(.ref t), (.int (58 : Int32)), (.int (0 : Int32)), (.int (4 : Int32))]) (rest := []) (W := 0) (y := (⟨"java/lang/StringLatin1", "indexOf", "([BIII)I"⟩ : MethodName)) X3 (W 124 rfl) (W 125 rfl) (by decide) (own_iol3 l Z a0 hw EWf n0 t kb h0 (own_old X3) p_A) all0 (W 126 rfl) (W 79 rfl) (by decide) (by decide) rfl (lenOf pd_2 rfl) rfl rfl dd_jdk_42_method_80_17 rfl rfl rfl rfl (by decide) (by decide) ?_
  intro v4 T4 h4 s4 X4 q4
  obtain ⟨rfl, rfl⟩ := q4
  show G T4 (mkF m 20 #[.val (.ref a), .val (.int (58 : Int32)), .val (.int (0 : Int32))] [(.int (3 : Int32))])
  refine own_goto (pc' := 36) X4 dd_jdk_42_method_80_20 (by decide) (by decide) ?_
  exact own_ret X4 hGe (t := .int) rfl rfl (Or.inl ⟨rfl, by simp, _, rfl⟩) dd_jdk_42_method_80_36 (by decide) (by decide) ⟨rfl, rfl⟩
theorem ef_own_io13 (m : MethodId) (x0 : Addr) (x1 : Int32) : entryFrame m #[(.ref x0), (.int x1)] 2 = mkF m 0 #[.val (.ref x0), .val (.int x1)] [] := by first | (simp [entryFrame, mkF, argsToLocals, Value.category]; done) | rfl
set_option maxRecDepth 65536 in
set_option maxHeartbeats 40000000 in
theorem own_io13 (l : Launch) (Z : State) (a0 : Array Value) (hw : ∀ d ∈ tables_1, d.before a0 Z = true) (EWf : own_EW Z own_EL) (n0 : Nat) (a t : Addr) (kb : ClassId) (h0 : Heap) (O0 : Old Z n0 h0) (p_E : Exa Z h0 a "java/lang/String") (p_V : Fld Z h0 a "java/lang/String" "value" "[B" (.ref t)) (p_C : Fld Z h0 a "java/lang/String" "coder" "B" (.int 0)) (p_A : own_Arr Z h0 t kb .byte [(.int 46), (.int 95), (.int 45), (.int 58)]) (CS : own_CS Z) :
    own_Met l Z own_EL [] n0 (⟨"java/lang/String", "indexOf", "(I)I"⟩ : MethodName) jdk_42_method_79_code 2 (some .int) ({ frames := 3, cells := 0, slots := 0, locals := 46 } : Room) #[(.ref a), (.int (58 : Int32))] h0 (fun v h => v = some (.int 3) ∧ h0 = h) := by
  refine own_enter (own := "java/lang/String") (nm := "indexOf") (plainFor_of_name pn_1) rfl rfl O0 EWf ?_
  have W : ∀ (k : Nat) {d : Jvm.Cond}, tables_1[k]? = some d → d.before a0 Z = true := fun k d q => hw d (List.mem_of_getElem? q)
  intro G p e s m below meth c T0 hGe X0
  rw [ef_own_io13 m a ((58 : Int32))]
  refine own_aload_n (pc' := 1) X0 dd_jdk_42_method_79_0 rfl rfl rfl ?_
  refine own_iload_n (pc' := 2) X0 dd_jdk_42_method_79_1 rfl rfl ?_
  refine own_iconst (pc' := 3) X0 dd_jdk_42_method_79_2 rfl (z := (0 : Int32)) (by decide) ?_
  refine own_callVM (pc' := 6) (cells' := 0) (slots' := 0) (argsL := [(.int (58 : Int32)), (.int (0 : Int32))]) (rest := []) (W := 0) (y := (⟨"java/lang/String", "indexOf", "(II)I"⟩ : MethodName)) (z := (⟨"java/lang/String", "indexOf", "(II)I"⟩ : MethodName)) (a := a) X0 (W 118 rfl) (W 119 rfl) (fun s' hZ' => notFace_of_selects (args := #[]) (mvT hZ' (W 121 rfl))) (W 121 rfl) (W 120 rfl) (by decide) p_E (own_io23 l Z a0 hw EWf n0 a t kb h0 (own_old X0) p_E p_V p_C p_A CS) all0 (W 122 rfl) (W 10 rfl) (by decide) (by decide) rfl (lenOf pd_1 rfl) rfl rfl dd_jdk_42_method_79_3 rfl rfl rfl rfl (by decide) (by decide) ?_
  intro v1 T1 h1 s1 X1 q1
  obtain ⟨rfl, rfl⟩ := q1
  show G T1 (mkF m 6 #[.val (.ref a), .val (.int (58 : Int32))] [(.int (3 : Int32))])
  exact own_ret X1 hGe (t := .int) rfl rfl (Or.inl ⟨rfl, by simp, _, rfl⟩) dd_jdk_42_method_79_6 (by decide) (by decide) ⟨rfl, rfl⟩
theorem dd_prog_17_method_6_0 : decode prog_17_method_6_code 0 = .ok (.iload_n 0, 1) := by decide +kernel
theorem dd_prog_17_method_6_1 : decode prog_17_method_6_code 1 = .ok (.bipush 65, 2) := by decide +kernel
theorem dd_prog_17_method_6_3 : decode prog_17_method_6_code 3 = .ok (.if_icmp .lt 9, 3) := by decide +kernel
theorem dd_prog_17_method_6_6 : decode prog_17_method_6_code 6 = .ok (.iload_n 0, 1) := by decide +kernel
theorem dd_prog_17_method_6_7 : decode prog_17_method_6_code 7 = .ok (.bipush 90, 2) := by decide +kernel
theorem dd_prog_17_method_6_9 : decode prog_17_method_6_code 9 = .ok (.if_icmp .le 36, 3) := by decide +kernel
theorem dd_prog_17_method_6_45 : decode prog_17_method_6_code 45 = .ok (.iconst 1, 1) := by decide +kernel
theorem dd_prog_17_method_6_46 : decode prog_17_method_6_code 46 = .ok (.goto 4, 3) := by decide +kernel
theorem dd_prog_17_method_6_50 : decode prog_17_method_6_code 50 = .ok (.ireturn, 1) := by decide +kernel
theorem dd_prog_17_method_6_12 : decode prog_17_method_6_code 12 = .ok (.iload_n 0, 1) := by decide +kernel
theorem dd_prog_17_method_6_13 : decode prog_17_method_6_code 13 = .ok (.bipush 97, 2) := by decide +kernel
theorem dd_prog_17_method_6_15 : decode prog_17_method_6_code 15 = .ok (.if_icmp .lt 9, 3) := by decide +kernel
theorem dd_prog_17_method_6_18 : decode prog_17_method_6_code 18 = .ok (.iload_n 0, 1) := by decide +kernel
theorem dd_prog_17_method_6_19 : decode prog_17_method_6_code 19 = .ok (.bipush 122, 2) := by decide +kernel
theorem dd_prog_17_method_6_21 : decode prog_17_method_6_code 21 = .ok (.if_icmp .le 24, 3) := by decide +kernel
theorem dd_prog_17_method_6_24 : decode prog_17_method_6_code 24 = .ok (.iload_n 0, 1) := by decide +kernel
theorem dd_prog_17_method_6_25 : decode prog_17_method_6_code 25 = .ok (.bipush 48, 2) := by decide +kernel
theorem dd_prog_17_method_6_27 : decode prog_17_method_6_code 27 = .ok (.if_icmp .lt 9, 3) := by decide +kernel
theorem dd_prog_17_method_6_30 : decode prog_17_method_6_code 30 = .ok (.iload_n 0, 1) := by decide +kernel
theorem dd_prog_17_method_6_31 : decode prog_17_method_6_code 31 = .ok (.bipush 57, 2) := by decide +kernel
theorem dd_prog_17_method_6_33 : decode prog_17_method_6_code 33 = .ok (.if_icmp .le 12, 3) := by decide +kernel
theorem dd_prog_17_method_6_36 : decode prog_17_method_6_code 36 = .ok (.ldc 69, 2) := by decide +kernel
theorem dd_prog_17_method_6_38 : decode prog_17_method_6_code 38 = .ok (.iload_n 0, 1) := by decide +kernel
theorem dd_prog_17_method_6_39 : decode prog_17_method_6_code 39 = .ok (.invokevirtual 71, 3) := by decide +kernel
theorem pd_5 : parseMethodDescriptor "(I)I" = some ⟨[.int], some .int⟩ := by decide +kernel
theorem dd_prog_17_method_6_42 : decode prog_17_method_6_code 42 = .ok (.ifCond .lt 7, 3) := by decide +kernel
theorem pn_5 : plainName "com/example/periwinkle/periwinkle/Name" = true := by first | (simp [plainName, overriddenIn]; done) | decide +kernel
theorem ef_own_isal (m : MethodId) (x0 : Int32) : entryFrame m #[(.int x0)] 1 = mkF m 0 #[.val (.int x0)] [] := by first | (simp [entryFrame, mkF, argsToLocals, Value.category]; done) | rfl
set_option maxRecDepth 65536 in
set_option maxHeartbeats 40000000 in
theorem own_isal (l : Launch) (Z : State) (a0 : Array Value) (hw : ∀ d ∈ tables_1, d.before a0 Z = true) (EWf : own_EW Z own_EL) (n0 : Nat) (c0 : Int32) (h0 : Heap) (O0 : Old Z n0 h0) (p_a : own_Alw c0) (CS : own_CS Z) :
    own_Met l Z own_EL [] n0 (⟨"com/example/periwinkle/periwinkle/Name", "isAllowed", "(C)Z"⟩ : MethodName) prog_17_method_6_code 1 (some .boolean) ({ frames := 4, cells := 2, slots := 20, locals := 59 } : Room) #[(.int c0)] h0 (fun v h => v = some (.int 1) ∧ Keep h0 h []) := by
  refine own_enter (own := "com/example/periwinkle/periwinkle/Name") (nm := "isAllowed") (plainFor_of_name pn_5) rfl rfl O0 EWf ?_
  have W : ∀ (k : Nat) {d : Jvm.Cond}, tables_1[k]? = some d → d.before a0 Z = true := fun k d q => hw d (List.mem_of_getElem? q)
  intro G p e s m below meth c T0 hGe X0
  rw [ef_own_isal m c0]
  rcases p_a with ha | ha | ha | rfl | rfl | rfl | rfl
  · refine own_iload_n (pc' := 1) X0 dd_prog_17_method_6_0 rfl rfl ?_
    refine own_bipush (pc' := 3) X0 dd_prog_17_method_6_1 rfl (z := (65 : Int32)) (by decide) ?_
    refine own_icmpN (pc' := 6) X0 dd_prog_17_method_6_3 rfl ((flt (own_nltk (z := 65) (by decide) (by omega))).1) ?_
    refine own_iload_n (pc' := 7) X0 dd_prog_17_method_6_6 rfl rfl ?_
    refine own_bipush (pc' := 9) X0 dd_prog_17_method_6_7 rfl (z := (90 : Int32)) (by decide) ?_
    refine own_icmpY (pc' := 45) X0 dd_prog_17_method_6_9 ((flt (own_ngtk (z := 90) (by decide) (by omega))).2.2.2) (by decide) (by decide) ?_
    refine own_iconst (pc' := 46) X0 dd_prog_17_method_6_45 rfl (z := (1 : Int32)) (by decide) ?_
    refine own_goto (pc' := 50) X0 dd_prog_17_method_6_46 (by decide) (by decide) ?_
    exact own_ret X0 hGe (t := .boolean) rfl rfl (Or.inl ⟨rfl, by simp, _, rfl⟩) dd_prog_17_method_6_50 (by decide) (by decide) ⟨rfl, (Keep.refl h0 [])⟩
  · refine own_iload_n (pc' := 1) X0 dd_prog_17_method_6_0 rfl rfl ?_
    refine own_bipush (pc' := 3) X0 dd_prog_17_method_6_1 rfl (z := (65 : Int32)) (by decide) ?_
    refine own_icmpN (pc' := 6) X0 dd_prog_17_method_6_3 rfl ((flt (own_nltk (z := 65) (by decide) (by omega))).1) ?_
    refine own_iload_n (pc' := 7) X0 dd_prog_17_method_6_6 rfl rfl ?_
    refine own_bipush (pc' := 9) X0 dd_prog_17_method_6_7 rfl (z := (90 : Int32)) (by decide) ?_
    refine own_icmpN (pc' := 12) X0 dd_prog_17_method_6_9 rfl ((tlt (own_gtk (z := 90) (by decide) (by omega))).2.2.2) ?_
    refine own_iload_n (pc' := 13) X0 dd_prog_17_method_6_12 rfl rfl ?_
    refine own_bipush (pc' := 15) X0 dd_prog_17_method_6_13 rfl (z := (97 : Int32)) (by decide) ?_
    refine own_icmpN (pc' := 18) X0 dd_prog_17_method_6_15 rfl ((flt (own_nltk (z := 97) (by decide) (by omega))).1) ?_
    refine own_iload_n (pc' := 19) X0 dd_prog_17_method_6_18 rfl rfl ?_
    refine own_bipush (pc' := 21) X0 dd_prog_17_method_6_19 rfl (z := (122 : Int32)) (by decide) ?_
    refine own_icmpY (pc' := 45) X0 dd_prog_17_method_6_21 ((flt (own_ngtk (z := 122) (by decide) (by omega))).2.2.2) (by decide) (by decide) ?_
    refine own_iconst (pc' := 46) X0 dd_prog_17_method_6_45 rfl (z := (1 : Int32)) (by decide) ?_
    refine own_goto (pc' := 50) X0 dd_prog_17_method_6_46 (by decide) (by decide) ?_
    exact own_ret X0 hGe (t := .boolean) rfl rfl (Or.inl ⟨rfl, by simp, _, rfl⟩) dd_prog_17_method_6_50 (by decide) (by decide) ⟨rfl, (Keep.refl h0 [])⟩
  · refine own_iload_n (pc' := 1) X0 dd_prog_17_method_6_0 rfl rfl ?_
    refine own_bipush (pc' := 3) X0 dd_prog_17_method_6_1 rfl (z := (65 : Int32)) (by decide) ?_
    refine own_icmpY (pc' := 12) X0 dd_prog_17_method_6_3 ((tlt (own_ltk (z := 65) (by decide) (by omega))).1) (by decide) (by decide) ?_
    refine own_iload_n (pc' := 13) X0 dd_prog_17_method_6_12 rfl rfl ?_
    refine own_bipush (pc' := 15) X0 dd_prog_17_method_6_13 rfl (z := (97 : Int32)) (by decide) ?_
    refine own_icmpY (pc' := 24) X0 dd_prog_17_method_6_15 ((tlt (own_ltk (z := 97) (by decide) (by omega))).1) (by decide) (by decide) ?_
    refine own_iload_n (pc' := 25) X0 dd_prog_17_method_6_24 rfl rfl ?_
    refine own_bipush (pc' := 27) X0 dd_prog_17_method_6_25 rfl (z := (48 : Int32)) (by decide) ?_
    refine own_icmpN (pc' := 30) X0 dd_prog_17_method_6_27 rfl ((flt (own_nltk (z := 48) (by decide) (by omega))).1) ?_
    refine own_iload_n (pc' := 31) X0 dd_prog_17_method_6_30 rfl rfl ?_
    refine own_bipush (pc' := 33) X0 dd_prog_17_method_6_31 rfl (z := (57 : Int32)) (by decide) ?_
    refine own_icmpY (pc' := 45) X0 dd_prog_17_method_6_33 ((flt (own_ngtk (z := 57) (by decide) (by omega))).2.2.2) (by decide) (by decide) ?_
    refine own_iconst (pc' := 46) X0 dd_prog_17_method_6_45 rfl (z := (1 : Int32)) (by decide) ?_
    refine own_goto (pc' := 50) X0 dd_prog_17_method_6_46 (by decide) (by decide) ?_
    exact own_ret X0 hGe (t := .boolean) rfl rfl (Or.inl ⟨rfl, by simp, _, rfl⟩) dd_prog_17_method_6_50 (by decide) (by decide) ⟨rfl, (Keep.refl h0 [])⟩
  · refine own_iload_n (pc' := 1) X0 dd_prog_17_method_6_0 rfl rfl ?_
    refine own_bipush (pc' := 3) X0 dd_prog_17_method_6_1 rfl (z := (65 : Int32)) (by decide) ?_
    refine own_icmpY (pc' := 12) X0 dd_prog_17_method_6_3 ((tlt (by decide)).1) (by decide) (by decide) ?_
    refine own_iload_n (pc' := 13) X0 dd_prog_17_method_6_12 rfl rfl ?_
    refine own_bipush (pc' := 15) X0 dd_prog_17_method_6_13 rfl (z := (97 : Int32)) (by decide) ?_
    refine own_icmpY (pc' := 24) X0 dd_prog_17_method_6_15 ((tlt (by decide)).1) (by decide) (by decide) ?_
    refine own_iload_n (pc' := 25) X0 dd_prog_17_method_6_24 rfl rfl ?_
    refine own_bipush (pc' := 27) X0 dd_prog_17_method_6_25 rfl (z := (48 : Int32)) (by decide) ?_
    refine own_icmpY (pc' := 36) X0 dd_prog_17_method_6_27 ((tlt (by decide)).1) (by decide) (by decide) ?_
    refine own_ldcR (pc' := 38) (cells' := 2) (slots' := 20) (n := 16) (text := "._-:") (vs := [(.int 46), (.int 95), (.int 45), (.int 58)]) X0 (W 112 rfl) (fun d hd => hw d (own_in_atoms d hd)) (List.mem_of_getElem? (i := 0) rfl) ⟨by decide, by decide⟩ (by decide) (by decide) (by decide) dd_prog_17_method_6_36 rfl rfl rfl (by decide) (by decide) ?_
    intro T1 h1 s1 a1 b1 k1 X1 K1 E1 Fc1 Fv1 A1 N1
    refine own_iload_n (pc' := 39) X1 dd_prog_17_method_6_38 rfl rfl ?_
    refine own_callVM (pc' := 42) (cells' := 2) (slots' := 20) (argsL := [(.int (46 : Int32))]) (rest := []) (W := 0) (y := (⟨"java/lang/String", "indexOf", "(I)I"⟩ : MethodName)) (z := (⟨"java/lang/String", "indexOf", "(I)I"⟩ : MethodName)) (a := a1) X1 (W 113 rfl) (W 114 rfl) (fun s' hZ' => notFace_of_selects (args := #[]) (mvT hZ' (W 116 rfl))) (W 116 rfl) (W 115 rfl) (by decide) E1 (own_io10 l Z a0 hw EWf n0 a1 b1 k1 h1 (own_old X1) E1 Fv1 Fc1 A1 CS) all0 (W 117 rfl) (W 10 rfl) (by decide) (by decide) rfl (lenOf pd_5 rfl) rfl rfl dd_prog_17_method_6_39 rfl rfl rfl rfl (by decide) (by decide) ?_
    intro v2 T2 h2 s2 X2 q2
    obtain ⟨rfl, rfl⟩ := q2
    show G T2 (mkF m 42 #[.val (.int (46 : Int32))] [(.int (0 : Int32))])
    refine own_ifN (pc' := 45) X2 dd_prog_17_method_6_42 rfl ((flt (by decide)).1) ?_
    refine own_iconst (pc' := 46) X2 dd_prog_17_method_6_45 rfl (z := (1 : Int32)) (by decide) ?_
    refine own_goto (pc' := 50) X2 dd_prog_17_method_6_46 (by decide) (by decide) ?_
    exact own_ret X2 hGe (t := .boolean) rfl rfl (Or.inl ⟨rfl, by simp, _, rfl⟩) dd_prog_17_method_6_50 (by decide) (by decide) ⟨rfl, ((Keep.refl h0 []).trans K1 all0)⟩
  · refine own_iload_n (pc' := 1) X0 dd_prog_17_method_6_0 rfl rfl ?_
    refine own_bipush (pc' := 3) X0 dd_prog_17_method_6_1 rfl (z := (65 : Int32)) (by decide) ?_
    refine own_icmpN (pc' := 6) X0 dd_prog_17_method_6_3 rfl ((flt (by decide)).1) ?_
    refine own_iload_n (pc' := 7) X0 dd_prog_17_method_6_6 rfl rfl ?_
    refine own_bipush (pc' := 9) X0 dd_prog_17_method_6_7 rfl (z := (90 : Int32)) (by decide) ?_
    refine own_icmpN (pc' := 12) X0 dd_prog_17_method_6_9 rfl ((tlt (by decide)).2.2.2) ?_
    refine own_iload_n (pc' := 13) X0 dd_prog_17_method_6_12 rfl rfl ?_
    refine own_bipush (pc' := 15) X0 dd_prog_17_method_6_13 rfl (z := (97 : Int32)) (by decide) ?_
    refine own_icmpY (pc' := 24) X0 dd_prog_17_method_6_15 ((tlt (by decide)).1) (by decide) (by decide) ?_
    refine own_iload_n (pc' := 25) X0 dd_prog_17_method_6_24 rfl rfl ?_
    refine own_bipush (pc' := 27) X0 dd_prog_17_method_6_25 rfl (z := (48 : Int32)) (by decide) ?_
    refine own_icmpN (pc' := 30) X0 dd_prog_17_method_6_27 rfl ((flt (by decide)).1) ?_
    refine own_iload_n (pc' := 31) X0 dd_prog_17_method_6_30 rfl rfl ?_
    refine own_bipush (pc' := 33) X0 dd_prog_17_method_6_31 rfl (z := (57 : Int32)) (by decide) ?_
    refine own_icmpN (pc' := 36) X0 dd_prog_17_method_6_33 rfl ((tlt (by decide)).2.2.2) ?_
    refine own_ldcR (pc' := 38) (cells' := 2) (slots' := 20) (n := 16) (text := "._-:") (vs := [(.int 46), (.int 95), (.int 45), (.int 58)]) X0 (W 112 rfl) (fun d hd => hw d (own_in_atoms d hd)) (List.mem_of_getElem? (i := 0) rfl) ⟨by decide, by decide⟩ (by decide) (by decide) (by decide) dd_prog_17_method_6_36 rfl rfl rfl (by decide) (by decide) ?_
    intro T3 h3 s3 a3 b3 k3 X3 K3 E3 Fc3 Fv3 A3 N3
    refine own_iload_n (pc' := 39) X3 dd_prog_17_method_6_38 rfl rfl ?_
    refine own_callVM (pc' := 42) (cells' := 2) (slots' := 20) (argsL := [(.int (95 : Int32))]) (rest := []) (W := 0) (y := (⟨"java/lang/String", "indexOf", "(I)I"⟩ : MethodName)) (z := (⟨"java/lang/String", "indexOf", "(I)I"⟩ : MethodName)) (a := a3) X3 (W 113 rfl) (W 114 rfl) (fun s' hZ' => notFace_of_selects (args := #[]) (mvT hZ' (W 116 rfl))) (W 116 rfl) (W 115 rfl) (by decide) E3 (own_io11 l Z a0 hw EWf n0 a3 b3 k3 h3 (own_old X3) E3 Fv3 Fc3 A3 CS) all0 (W 117 rfl) (W 10 rfl) (by decide) (by decide) rfl (lenOf pd_5 rfl) rfl rfl dd_prog_17_method_6_39 rfl rfl rfl rfl (by decide) (by decide) ?_
    intro v4 T4 h4 s4 X4 q4
    obtain ⟨rfl, rfl⟩ := q4
    show G T4 (mkF m 42 #[.val (.int (95 : Int32))] [(.int (1 : Int32))])
    refine own_ifN (pc' := 45) X4 dd_prog_17_method_6_42 rfl ((flt (by decide)).1) ?_
    refine own_iconst (pc' := 46) X4 dd_prog_17_method_6_45 rfl (z := (1 : Int32)) (by decide) ?_
    refine own_goto (pc' := 50) X4 dd_prog_17_method_6_46 (by decide) (by decide) ?_
    exact own_ret X4 hGe (t := .boolean) rfl rfl (Or.inl ⟨rfl, by simp, _, rfl⟩) dd_prog_17_method_6_50 (by decide) (by decide) ⟨rfl, ((Keep.refl h0 []).trans K3 all0)⟩
  · refine own_iload_n (pc' := 1) X0 dd_prog_17_method_6_0 rfl rfl ?_
    refine own_bipush (pc' := 3) X0 dd_prog_17_method_6_1 rfl (z := (65 : Int32)) (by decide) ?_
    refine own_icmpY (pc' := 12) X0 dd_prog_17_method_6_3 ((tlt (by decide)).1) (by decide) (by decide) ?_
    refine own_iload_n (pc' := 13) X0 dd_prog_17_method_6_12 rfl rfl ?_
    refine own_bipush (pc' := 15) X0 dd_prog_17_method_6_13 rfl (z := (97 : Int32)) (by decide) ?_
    refine own_icmpY (pc' := 24) X0 dd_prog_17_method_6_15 ((tlt (by decide)).1) (by decide) (by decide) ?_
    refine own_iload_n (pc' := 25) X0 dd_prog_17_method_6_24 rfl rfl ?_
    refine own_bipush (pc' := 27) X0 dd_prog_17_method_6_25 rfl (z := (48 : Int32)) (by decide) ?_
    refine own_icmpY (pc' := 36) X0 dd_prog_17_method_6_27 ((tlt (by decide)).1) (by decide) (by decide) ?_
    refine own_ldcR (pc' := 38) (cells' := 2) (slots' := 20) (n := 16) (text := "._-:") (vs := [(.int 46), (.int 95), (.int 45), (.int 58)]) X0 (W 112 rfl) (fun d hd => hw d (own_in_atoms d hd)) (List.mem_of_getElem? (i := 0) rfl) ⟨by decide, by decide⟩ (by decide) (by decide) (by decide) dd_prog_17_method_6_36 rfl rfl rfl (by decide) (by decide) ?_
    intro T5 h5 s5 a5 b5 k5 X5 K5 E5 Fc5 Fv5 A5 N5
    refine own_iload_n (pc' := 39) X5 dd_prog_17_method_6_38 rfl rfl ?_
    refine own_callVM (pc' := 42) (cells' := 2) (slots' := 20) (argsL := [(.int (45 : Int32))]) (rest := []) (W := 0) (y := (⟨"java/lang/String", "indexOf", "(I)I"⟩ : MethodName)) (z := (⟨"java/lang/String", "indexOf", "(I)I"⟩ : MethodName)) (a := a5) X5 (W 113 rfl) (W 114 rfl) (fun s' hZ' => notFace_of_selects (args := #[]) (mvT hZ' (W 116 rfl))) (W 116 rfl) (W 115 rfl) (by decide) E5 (own_io12 l Z a0 hw EWf n0 a5 b5 k5 h5 (own_old X5) E5 Fv5 Fc5 A5 CS) all0 (W 117 rfl) (W 10 rfl) (by decide) (by decide) rfl (lenOf pd_5 rfl) rfl rfl dd_prog_17_method_6_39 rfl rfl rfl rfl (by decide) (by decide) ?_
    intro v6 T6 h6 s6 X6 q6
    obtain ⟨rfl, rfl⟩ := q6
    show G T6 (mkF m 42 #[.val (.int (45 : Int32))] [(.int (2 : Int32))])
    refine own_ifN (pc' := 45) X6 dd_prog_17_method_6_42 rfl ((flt (by decide)).1) ?_
    refine own_iconst (pc' := 46) X6 dd_prog_17_method_6_45 rfl (z := (1 : Int32)) (by decide) ?_
    refine own_goto (pc' := 50) X6 dd_prog_17_method_6_46 (by decide) (by decide) ?_
    exact own_ret X6 hGe (t := .boolean) rfl rfl (Or.inl ⟨rfl, by simp, _, rfl⟩) dd_prog_17_method_6_50 (by decide) (by decide) ⟨rfl, ((Keep.refl h0 []).trans K5 all0)⟩
  · refine own_iload_n (pc' := 1) X0 dd_prog_17_method_6_0 rfl rfl ?_
    refine own_bipush (pc' := 3) X0 dd_prog_17_method_6_1 rfl (z := (65 : Int32)) (by decide) ?_
    refine own_icmpY (pc' := 12) X0 dd_prog_17_method_6_3 ((tlt (by decide)).1) (by decide) (by decide) ?_
    refine own_iload_n (pc' := 13) X0 dd_prog_17_method_6_12 rfl rfl ?_
    refine own_bipush (pc' := 15) X0 dd_prog_17_method_6_13 rfl (z := (97 : Int32)) (by decide) ?_
    refine own_icmpY (pc' := 24) X0 dd_prog_17_method_6_15 ((tlt (by decide)).1) (by decide) (by decide) ?_
    refine own_iload_n (pc' := 25) X0 dd_prog_17_method_6_24 rfl rfl ?_
    refine own_bipush (pc' := 27) X0 dd_prog_17_method_6_25 rfl (z := (48 : Int32)) (by decide) ?_
    refine own_icmpN (pc' := 30) X0 dd_prog_17_method_6_27 rfl ((flt (by decide)).1) ?_
    refine own_iload_n (pc' := 31) X0 dd_prog_17_method_6_30 rfl rfl ?_
    refine own_bipush (pc' := 33) X0 dd_prog_17_method_6_31 rfl (z := (57 : Int32)) (by decide) ?_
    refine own_icmpN (pc' := 36) X0 dd_prog_17_method_6_33 rfl ((tlt (by decide)).2.2.2) ?_
    refine own_ldcR (pc' := 38) (cells' := 2) (slots' := 20) (n := 16) (text := "._-:") (vs := [(.int 46), (.int 95), (.int 45), (.int 58)]) X0 (W 112 rfl) (fun d hd => hw d (own_in_atoms d hd)) (List.mem_of_getElem? (i := 0) rfl) ⟨by decide, by decide⟩ (by decide) (by decide) (by decide) dd_prog_17_method_6_36 rfl rfl rfl (by decide) (by decide) ?_
    intro T7 h7 s7 a7 b7 k7 X7 K7 E7 Fc7 Fv7 A7 N7
    refine own_iload_n (pc' := 39) X7 dd_prog_17_method_6_38 rfl rfl ?_
    refine own_callVM (pc' := 42) (cells' := 2) (slots' := 20) (argsL := [(.int (58 : Int32))]) (rest := []) (W := 0) (y := (⟨"java/lang/String", "indexOf", "(I)I"⟩ : MethodName)) (z := (⟨"java/lang/String", "indexOf", "(I)I"⟩ : MethodName)) (a := a7) X7 (W 113 rfl) (W 114 rfl) (fun s' hZ' => notFace_of_selects (args := #[]) (mvT hZ' (W 116 rfl))) (W 116 rfl) (W 115 rfl) (by decide) E7 (own_io13 l Z a0 hw EWf n0 a7 b7 k7 h7 (own_old X7) E7 Fv7 Fc7 A7 CS) all0 (W 117 rfl) (W 10 rfl) (by decide) (by decide) rfl (lenOf pd_5 rfl) rfl rfl dd_prog_17_method_6_39 rfl rfl rfl rfl (by decide) (by decide) ?_
    intro v8 T8 h8 s8 X8 q8
    obtain ⟨rfl, rfl⟩ := q8
    show G T8 (mkF m 42 #[.val (.int (58 : Int32))] [(.int (3 : Int32))])
    refine own_ifN (pc' := 45) X8 dd_prog_17_method_6_42 rfl ((flt (by decide)).1) ?_
    refine own_iconst (pc' := 46) X8 dd_prog_17_method_6_45 rfl (z := (1 : Int32)) (by decide) ?_
    refine own_goto (pc' := 50) X8 dd_prog_17_method_6_46 (by decide) (by decide) ?_
    exact own_ret X8 hGe (t := .boolean) rfl rfl (Or.inl ⟨rfl, by simp, _, rfl⟩) dd_prog_17_method_6_50 (by decide) (by decide) ⟨rfl, ((Keep.refl h0 []).trans K7 all0)⟩
theorem dd_jdk_31_method_11_0 : decode jdk_31_method_11_code 0 = .ok (.aload_n 0, 1) := by decide +kernel
theorem dd_jdk_31_method_11_1 : decode jdk_31_method_11_code 1 = .ok (.ifnonnull 12, 3) := by decide +kernel
theorem dd_jdk_31_method_11_13 : decode jdk_31_method_11_code 13 = .ok (.aload_n 0, 1) := by decide +kernel
theorem dd_jdk_31_method_11_14 : decode jdk_31_method_11_code 14 = .ok (.areturn, 1) := by decide +kernel
theorem pn_6 : plainName "java/util/Objects" = true := by first | (simp [plainName, overriddenIn]; done) | decide +kernel
theorem ef_own_rq2 (m : MethodId) (x0 : Addr) (x1 : Addr) : entryFrame m #[(.ref x0), (.ref x1)] 2 = mkF m 0 #[.val (.ref x0), .val (.ref x1)] [] := by first | (simp [entryFrame, mkF, argsToLocals, Value.category]; done) | rfl
set_option maxRecDepth 65536 in
set_option maxHeartbeats 40000000 in
theorem own_rq2 (l : Launch) (Z : State) (a0 : Array Value) (hw : ∀ d ∈ tables_1, d.before a0 Z = true) (EWf : own_EW Z own_EL) (n0 : Nat) (o b : Addr) (h0 : Heap) (O0 : Old Z n0 h0)  :
    own_Met l Z own_EL [] n0 (⟨"java/util/Objects", "requireNonNull", "(Ljava/lang/Object;Ljava/lang/String;)Ljava/lang/Object;"⟩ : MethodName) jdk_31_method_11_code 2 (some (.object "java/lang/Object")) ({ frames := 0, cells := 0, slots := 0, locals := 0 } : Room) #[(.ref o), (.ref b)] h0 (fun v h => v = some (.ref o) ∧ h0 = h) := by
  refine own_enter (own := "java/util/Objects") (nm := "requireNonNull") (plainFor_of_name pn_6) rfl rfl O0 EWf ?_
  have W : ∀ (k : Nat) {d : Jvm.Cond}, tables_1[k]? = some d → d.before a0 Z = true := fun k d q => hw d (List.mem_of_getElem? q)
  intro G p e s m below meth c T0 hGe X0
  rw [ef_own_rq2 m o b]
  refine own_aload_n (pc' := 1) X0 dd_jdk_31_method_11_0 rfl rfl rfl ?_
  refine own_ifnonnullY (pc' := 13) X0 dd_jdk_31_method_11_1 (by decide) (by decide) ?_
  refine own_aload_n (pc' := 14) X0 dd_jdk_31_method_11_13 rfl rfl rfl ?_
  exact own_ret X0 hGe (t := (.object "java/lang/Object")) rfl rfl (Or.inr (Or.inr (Or.inr (Or.inr ⟨rfl, rfl, rfl⟩)))) dd_jdk_31_method_11_14 (by decide) (by decide) ⟨rfl, rfl⟩
theorem dd_prog_17_method_1_0 : decode prog_17_method_1_code 0 = .ok (.aload_n 0, 1) := by decide +kernel
theorem dd_prog_17_method_1_1 : decode prog_17_method_1_code 1 = .ok (.invokespecial 1, 3) := by decide +kernel
theorem dd_prog_17_method_1_4 : decode prog_17_method_1_code 4 = .ok (.aload_n 1, 1) := by decide +kernel
theorem dd_prog_17_method_1_5 : decode prog_17_method_1_code 5 = .ok (.ldc 7, 2) := by decide +kernel
theorem dd_prog_17_method_1_7 : decode prog_17_method_1_code 7 = .ok (.invokestatic 9, 3) := by decide +kernel
theorem pd_6 : parseMethodDescriptor "(Ljava/lang/Object;Ljava/lang/String;)Ljava/lang/Object;" = some ⟨[(.object "java/lang/Object"), (.object "java/lang/String")], some (.object "java/lang/Object")⟩ := by decide +kernel
theorem dd_prog_17_method_1_10 : decode prog_17_method_1_code 10 = .ok (.pop, 1) := by decide +kernel
theorem dd_prog_17_method_1_11 : decode prog_17_method_1_code 11 = .ok (.aload_n 1, 1) := by decide +kernel
theorem dd_prog_17_method_1_12 : decode prog_17_method_1_code 12 = .ok (.invokevirtual 15, 3) := by decide +kernel
theorem dd_prog_17_method_1_15 : decode prog_17_method_1_code 15 = .ok (.ifCond .eq 13, 3) := by decide +kernel
theorem dd_prog_17_method_1_28 : decode prog_17_method_1_code 28 = .ok (.iconst 0, 1) := by decide +kernel
theorem dd_prog_17_method_1_29 : decode prog_17_method_1_code 29 = .ok (.istore_n 2, 1) := by decide +kernel
theorem dd_prog_17_method_1_30 : decode prog_17_method_1_code 30 = .ok (.iload_n 2, 1) := by decide +kernel
theorem dd_prog_17_method_1_31 : decode prog_17_method_1_code 31 = .ok (.aload_n 1, 1) := by decide +kernel
theorem dd_prog_17_method_1_32 : decode prog_17_method_1_code 32 = .ok (.invokevirtual 28, 3) := by decide +kernel
theorem dd_prog_17_method_1_35 : decode prog_17_method_1_code 35 = .ok (.if_icmp .ge 47, 3) := by decide +kernel
theorem dd_prog_17_method_1_38 : decode prog_17_method_1_code 38 = .ok (.aload_n 1, 1) := by decide +kernel
theorem dd_prog_17_method_1_39 : decode prog_17_method_1_code 39 = .ok (.iload_n 2, 1) := by decide +kernel
theorem dd_prog_17_method_1_40 : decode prog_17_method_1_code 40 = .ok (.invokevirtual 32, 3) := by decide +kernel
theorem pd_7 : parseMethodDescriptor "(I)C" = some ⟨[.int], some .char⟩ := by decide +kernel
theorem dd_prog_17_method_1_43 : decode prog_17_method_1_code 43 = .ok (.invokestatic 36, 3) := by decide +kernel
theorem pd_8 : parseMethodDescriptor "(C)Z" = some ⟨[.char], some .boolean⟩ := by decide +kernel
theorem dd_prog_17_method_1_46 : decode prog_17_method_1_code 46 = .ok (.ifCond .ne 30, 3) := by decide +kernel
theorem dd_prog_17_method_1_76 : decode prog_17_method_1_code 76 = .ok (.iinc 2 1, 3) := by decide +kernel
theorem dd_prog_17_method_1_79 : decode prog_17_method_1_code 79 = .ok (.goto (-49), 3) := by decide +kernel
theorem dd_prog_17_method_1_82 : decode prog_17_method_1_code 82 = .ok (.aload_n 1, 1) := by decide +kernel
theorem dd_prog_17_method_1_83 : decode prog_17_method_1_code 83 = .ok (.invokevirtual 28, 3) := by decide +kernel
theorem dd_prog_17_method_1_86 : decode prog_17_method_1_code 86 = .ok (.sipush 128, 3) := by decide +kernel
theorem dd_prog_17_method_1_89 : decode prog_17_method_1_code 89 = .ok (.if_icmp .le 20, 3) := by decide +kernel
theorem dd_prog_17_method_1_109 : decode prog_17_method_1_code 109 = .ok (.aload_n 0, 1) := by decide +kernel
theorem dd_prog_17_method_1_110 : decode prog_17_method_1_code 110 = .ok (.aload_n 1, 1) := by decide +kernel
theorem dd_prog_17_method_1_111 : decode prog_17_method_1_code 111 = .ok (.putfield 60, 3) := by decide +kernel
theorem dd_prog_17_method_1_114 : decode prog_17_method_1_code 114 = .ok (.return_, 1) := by decide +kernel
theorem ef_own_nm4 (m : MethodId) (x0 : Addr) (x1 : Addr) : entryFrame m #[(.ref x0), (.ref x1)] 3 = mkF m 0 #[.val (.ref x0), .val (.ref x1), .unset] [] := by first | (simp [entryFrame, mkF, argsToLocals, Value.category]; done) | rfl
set_option maxRecDepth 65536 in
set_option maxHeartbeats 40000000 in
theorem own_nm4 (l : Launch) (Z : State) (a0 : Array Value) (hw : ∀ d ∈ tables_1, d.before a0 Z = true) (EWf : own_EW Z own_EL) (n0 : Nat) (a x t : Addr) (c0 c1 c2 c3 : Int32) (h0 : Heap) (O0 : Old Z n0 h0) (n_a : n0 ≤ a) (p_E : Exa Z h0 a "com/example/periwinkle/periwinkle/Name") (p_F : Fld Z h0 a "com/example/periwinkle/periwinkle/Name" "value" "Ljava/lang/String;" .null) (p_S : own_Str Z h0 x t [c0, c1, c2, c3]) (p_c0 : own_Alw c0) (p_c1 : own_Alw c1) (p_c2 : own_Alw c2) (p_c3 : own_Alw c3) (CS : own_CS Z) (SF : own_SF Z) :
    own_Met l Z own_EL [] n0 (⟨"com/example/periwinkle/periwinkle/Name", "<init>", "(Ljava/lang/String;)V"⟩ : MethodName) prog_17_method_1_code 3 none ({ frames := 5, cells := 10, slots := 104, locals := 71 } : Room) #[(.ref a), (.ref x)] h0 (fun v h => v = none ∧ Keep h0 h [a] ∧ Exa Z h a "com/example/periwinkle/periwinkle/Name" ∧ Fld Z h a "com/example/periwinkle/periwinkle/Name" "value" "Ljava/lang/String;" (.ref x)) := by
  refine own_enter (own := "com/example/periwinkle/periwinkle/Name") (nm := "<init>") (plainFor_of_name pn_5) rfl rfl O0 EWf ?_
  have W : ∀ (k : Nat) {d : Jvm.Cond}, tables_1[k]? = some d → d.before a0 Z = true := fun k d q => hw d (List.mem_of_getElem? q)
  intro G p e s m below meth c T0 hGe X0
  rw [ef_own_nm4 m a x]
  refine own_aload_n (pc' := 1) X0 dd_prog_17_method_1_0 rfl rfl rfl ?_
  refine own_initO (pc' := 4) (W := 0) X0 (W 44 rfl) (W 20 rfl) (W 21 rfl) rfl dd_prog_17_method_1_1 rfl (by decide) rfl (by decide) ?_
  intro T1 X1
  refine own_aload_n (pc' := 5) X1 dd_prog_17_method_1_4 rfl rfl rfl ?_
  refine own_ldcO (pc' := 7) (cells' := 2) (slots' := 24) (n := 20) (text := "value") X1 (W 45 rfl) (fun d hd => hw d (own_in_atoms d hd)) (by decide) (by decide) dd_prog_17_method_1_5 rfl rfl rfl (by decide) (by decide) ?_
  intro T2 h2 s2 a2 X2 K2
  refine own_callSM (pc' := 10) (cells' := 2) (slots' := 24) (argsL := [(.ref x), (.ref a2)]) (rest := []) (W := 0) (y := (⟨"java/util/Objects", "requireNonNull", "(Ljava/lang/Object;Ljava/lang/String;)Ljava/lang/Object;"⟩ : MethodName)) X2 (W 48 rfl) (W 49 rfl) (by decide) (own_rq2 l Z a0 hw EWf n0 x a2 h2 (own_old X2) ) all0 (W 51 rfl) (W 50 rfl) (by decide) (by decide) rfl (lenOf pd_6 rfl) rfl rfl dd_prog_17_method_1_7 rfl rfl rfl rfl (by decide) (by decide) ?_
  intro v3 T3 h3 s3 X3 q3
  obtain ⟨rfl, rfl⟩ := q3
  show G T3 (mkF m 10 #[.val (.ref a), .val (.ref x), .unset] [(.ref x)])
  refine own_pop (pc' := 11) X3 dd_prog_17_method_1_10 rfl rfl ?_
  refine own_aload_n (pc' := 12) X3 dd_prog_17_method_1_11 rfl rfl rfl ?_
  have f4 := (p_S.keep K2 nin0 nin0)
  refine own_stremp (pc' := 15) (W := 0) X3 (fun d hd => hw d (own_in_wordsEmp d hd)) CS (W 52 rfl) (W 53 rfl) (W 55 rfl) (W 54 rfl) (W 9 rfl) f4  (by decide) (by decide) (lenOf (L := []) pd_3 rfl) rfl rfl dd_prog_17_method_1_12 rfl (by decide) (by decide) ?_
  intro T5 X5
  refine own_ifY (pc' := 28) X5 dd_prog_17_method_1_15 ((teq (by simp)).1) (by decide) (by decide) ?_
  refine own_iconst (pc' := 29) X5 dd_prog_17_method_1_28 rfl (z := (0 : Int32)) (by decide) ?_
  refine own_istore_n (pc' := 30) X5 dd_prog_17_method_1_29 rfl (Ls' := #[.val (.ref a), .val (.ref x), .val (.int (0 : Int32))]) rfl ?_
  refine own_iload_n (pc' := 31) X5 dd_prog_17_method_1_30 rfl rfl ?_
  refine own_aload_n (pc' := 32) X5 dd_prog_17_method_1_31 rfl rfl rfl ?_
  refine own_strlen (pc' := 35) (W := 1) X5 (fun d hd => hw d (own_in_wordsLen d hd)) CS (W 57 rfl) (W 58 rfl) (W 60 rfl) (W 59 rfl) (W 9 rfl) f4  (by decide) (by decide) (lenOf (L := []) pd_4 rfl) rfl rfl dd_prog_17_method_1_32 rfl (by decide) (by decide) ?_
  intro T6 X6
  show G T6 (mkF m 35 #[.val (.ref a), .val (.ref x), .val (.int (0 : Int32))] [(.int (4 : Int32)), (.int (0 : Int32))])
  refine own_icmpN (pc' := 38) X6 dd_prog_17_method_1_35 rfl ((tlt (by decide)).2.1) ?_
  refine own_aload_n (pc' := 39) X6 dd_prog_17_method_1_38 rfl rfl rfl ?_
  refine own_iload_n (pc' := 40) X6 dd_prog_17_method_1_39 rfl rfl ?_
  refine own_strchar (pc' := 43) (W := 0) (i' := 0) (ch := c0) X6 (fun d hd => hw d (own_in_wordsChN d hd)) CS SF (W 67 rfl) (W 68 rfl) (W 70 rfl) (W 69 rfl) (W 9 rfl) f4 (own_aS (P := fun z => ¬ (255 : Int32) < z) p_c0.c.2 (own_aS (P := fun z => ¬ (255 : Int32) < z) p_c1.c.2 (own_aS (P := fun z => ¬ (255 : Int32) < z) p_c2.c.2 (own_aS (P := fun z => ¬ (255 : Int32) < z) p_c3.c.2 own_a0)))) rfl rfl (by decide) (by decide) (lenOf (L := [.int (0 : Int32)]) pd_7 rfl) rfl rfl dd_prog_17_method_1_40 rfl (by decide) (by decide) ?_
  intro T7 X7
  refine own_callSM (pc' := 46) (cells' := 4) (slots' := 44) (argsL := [(.int c0)]) (rest := []) (W := 0) (y := (⟨"com/example/periwinkle/periwinkle/Name", "isAllowed", "(C)Z"⟩ : MethodName)) X7 (W 89 rfl) (W 90 rfl) (by decide) (own_isal l Z a0 hw EWf n0 c0 h2 (own_old X7) p_c0 CS) all0 (W 91 rfl) (W 40 rfl) (by decide) (by decide) rfl (lenOf pd_8 rfl) rfl rfl dd_prog_17_method_1_43 rfl rfl rfl rfl (by decide) (by decide) ?_
  intro v8 T8 h8 s8 X8 q8
  obtain ⟨rfl, K8⟩ := q8
  show G T8 (mkF m 46 #[.val (.ref a), .val (.ref x), .val (.int (0 : Int32))] [(.int (1 : Int32))])
  refine own_ifY (pc' := 76) X8 dd_prog_17_method_1_46 ((feq (by decide)).2) (by decide) (by decide) ?_
  refine own_iinc (pc' := 79) X8 dd_prog_17_method_1_76 rfl rfl (z := (1 : Int32)) (by decide) (r := (1 : Int32)) (by decide) (Ls' := #[.val (.ref a), .val (.ref x), .val (.int (1 : Int32))]) rfl ?_
  refine own_goto (pc' := 30) X8 dd_prog_17_method_1_79 (by decide) (by decide) ?_
  refine own_iload_n (pc' := 31) X8 dd_prog_17_method_1_30 rfl rfl ?_
  refine own_aload_n (pc' := 32) X8 dd_prog_17_method_1_31 rfl rfl rfl ?_
  have f9 := (f4.keep K8 nin0 nin0)
  refine own_strlen (pc' := 35) (W := 1) X8 (fun d hd => hw d (own_in_wordsLen d hd)) CS (W 57 rfl) (W 58 rfl) (W 60 rfl) (W 59 rfl) (W 9 rfl) f9  (by decide) (by decide) (lenOf (L := []) pd_4 rfl) rfl rfl dd_prog_17_method_1_32 rfl (by decide) (by decide) ?_
  intro T10 X10
  show G T10 (mkF m 35 #[.val (.ref a), .val (.ref x), .val (.int (1 : Int32))] [(.int (4 : Int32)), (.int (1 : Int32))])
  refine own_icmpN (pc' := 38) X10 dd_prog_17_method_1_35 rfl ((tlt (by decide)).2.1) ?_
  refine own_aload_n (pc' := 39) X10 dd_prog_17_method_1_38 rfl rfl rfl ?_
  refine own_iload_n (pc' := 40) X10 dd_prog_17_method_1_39 rfl rfl ?_
  refine own_strchar (pc' := 43) (W := 0) (i' := 1) (ch := c1) X10 (fun d hd => hw d (own_in_wordsChN d hd)) CS SF (W 67 rfl) (W 68 rfl) (W 70 rfl) (W 69 rfl) (W 9 rfl) f9 (own_aS (P := fun z => ¬ (255 : Int32) < z) p_c0.c.2 (own_aS (P := fun z => ¬ (255 : Int32) < z) p_c1.c.2 (own_aS (P := fun z => ¬ (255 : Int32) < z) p_c2.c.2 (own_aS (P := fun z => ¬ (255 : Int32) < z) p_c3.c.2 own_a0)))) rfl rfl (by decide) (by decide) (lenOf (L := [.int (1 : Int32)]) pd_7 rfl) rfl rfl dd_prog_17_method_1_40 rfl (by decide) (by decide) ?_
  intro T11 X11
  refine own_callSM (pc' := 46) (cells' := 6) (slots' := 64) (argsL := [(.int c1)]) (rest := []) (W := 0) (y := (⟨"com/example/periwinkle/periwinkle/Name", "isAllowed", "(C)Z"⟩ : MethodName)) X11 (W 89 rfl) (W 90 rfl) (by decide) (own_isal l Z a0 hw EWf n0 c1 h8 (own_old X11) p_c1 CS) all0 (W 91 rfl) (W 40 rfl) (by decide) (by decide) rfl (lenOf pd_8 rfl) rfl rfl dd_prog_17_method_1_43 rfl rfl rfl rfl (by decide) (by decide) ?_
  intro v12 T12 h12 s12 X12 q12
  obtain ⟨rfl, K12⟩ := q12
  show G T12 (mkF m 46 #[.val (.ref a), .val (.ref x), .val (.int (1 : Int32))] [(.int (1 : Int32))])
  refine own_ifY (pc' := 76) X12 dd_prog_17_method_1_46 ((feq (by decide)).2) (by decide) (by decide) ?_
  refine own_iinc (pc' := 79) X12 dd_prog_17_method_1_76 rfl rfl (z := (1 : Int32)) (by decide) (r := (2 : Int32)) (by decide) (Ls' := #[.val (.ref a), .val (.ref x), .val (.int (2 : Int32))]) rfl ?_
  refine own_goto (pc' := 30) X12 dd_prog_17_method_1_79 (by decide) (by decide) ?_
  refine own_iload_n (pc' := 31) X12 dd_prog_17_method_1_30 rfl rfl ?_
  refine own_aload_n (pc' := 32) X12 dd_prog_17_method_1_31 rfl rfl rfl ?_
  have f13 := (f9.keep K12 nin0 nin0)
  refine own_strlen (pc' := 35) (W := 1) X12 (fun d hd => hw d (own_in_wordsLen d hd)) CS (W 57 rfl) (W 58 rfl) (W 60 rfl) (W 59 rfl) (W 9 rfl) f13  (by decide) (by decide) (lenOf (L := []) pd_4 rfl) rfl rfl dd_prog_17_method_1_32 rfl (by decide) (by decide) ?_
  intro T14 X14
  show G T14 (mkF m 35 #[.val (.ref a), .val (.ref x), .val (.int (2 : Int32))] [(.int (4 : Int32)), (.int (2 : Int32))])
  refine own_icmpN (pc' := 38) X14 dd_prog_17_method_1_35 rfl ((tlt (by decide)).2.1) ?_
  refine own_aload_n (pc' := 39) X14 dd_prog_17_method_1_38 rfl rfl rfl ?_
  refine own_iload_n (pc' := 40) X14 dd_prog_17_method_1_39 rfl rfl ?_
  refine own_strchar (pc' := 43) (W := 0) (i' := 2) (ch := c2) X14 (fun d hd => hw d (own_in_wordsChN d hd)) CS SF (W 67 rfl) (W 68 rfl) (W 70 rfl) (W 69 rfl) (W 9 rfl) f13 (own_aS (P := fun z => ¬ (255 : Int32) < z) p_c0.c.2 (own_aS (P := fun z => ¬ (255 : Int32) < z) p_c1.c.2 (own_aS (P := fun z => ¬ (255 : Int32) < z) p_c2.c.2 (own_aS (P := fun z => ¬ (255 : Int32) < z) p_c3.c.2 own_a0)))) rfl rfl (by decide) (by decide) (lenOf (L := [.int (2 : Int32)]) pd_7 rfl) rfl rfl dd_prog_17_method_1_40 rfl (by decide) (by decide) ?_
  intro T15 X15
  refine own_callSM (pc' := 46) (cells' := 8) (slots' := 84) (argsL := [(.int c2)]) (rest := []) (W := 0) (y := (⟨"com/example/periwinkle/periwinkle/Name", "isAllowed", "(C)Z"⟩ : MethodName)) X15 (W 89 rfl) (W 90 rfl) (by decide) (own_isal l Z a0 hw EWf n0 c2 h12 (own_old X15) p_c2 CS) all0 (W 91 rfl) (W 40 rfl) (by decide) (by decide) rfl (lenOf pd_8 rfl) rfl rfl dd_prog_17_method_1_43 rfl rfl rfl rfl (by decide) (by decide) ?_
  intro v16 T16 h16 s16 X16 q16
  obtain ⟨rfl, K16⟩ := q16
  show G T16 (mkF m 46 #[.val (.ref a), .val (.ref x), .val (.int (2 : Int32))] [(.int (1 : Int32))])
  refine own_ifY (pc' := 76) X16 dd_prog_17_method_1_46 ((feq (by decide)).2) (by decide) (by decide) ?_
  refine own_iinc (pc' := 79) X16 dd_prog_17_method_1_76 rfl rfl (z := (1 : Int32)) (by decide) (r := (3 : Int32)) (by decide) (Ls' := #[.val (.ref a), .val (.ref x), .val (.int (3 : Int32))]) rfl ?_
  refine own_goto (pc' := 30) X16 dd_prog_17_method_1_79 (by decide) (by decide) ?_
  refine own_iload_n (pc' := 31) X16 dd_prog_17_method_1_30 rfl rfl ?_
  refine own_aload_n (pc' := 32) X16 dd_prog_17_method_1_31 rfl rfl rfl ?_
  have f17 := (f13.keep K16 nin0 nin0)
  refine own_strlen (pc' := 35) (W := 1) X16 (fun d hd => hw d (own_in_wordsLen d hd)) CS (W 57 rfl) (W 58 rfl) (W 60 rfl) (W 59 rfl) (W 9 rfl) f17  (by decide) (by decide) (lenOf (L := []) pd_4 rfl) rfl rfl dd_prog_17_method_1_32 rfl (by decide) (by decide) ?_
  intro T18 X18
  show G T18 (mkF m 35 #[.val (.ref a), .val (.ref x), .val (.int (3 : Int32))] [(.int (4 : Int32)), (.int (3 : Int32))])
  refine own_icmpN (pc' := 38) X18 dd_prog_17_method_1_35 rfl ((tlt (by decide)).2.1) ?_
  refine own_aload_n (pc' := 39) X18 dd_prog_17_method_1_38 rfl rfl rfl ?_
  refine own_iload_n (pc' := 40) X18 dd_prog_17_method_1_39 rfl rfl ?_
  refine own_strchar (pc' := 43) (W := 0) (i' := 3) (ch := c3) X18 (fun d hd => hw d (own_in_wordsChN d hd)) CS SF (W 67 rfl) (W 68 rfl) (W 70 rfl) (W 69 rfl) (W 9 rfl) f17 (own_aS (P := fun z => ¬ (255 : Int32) < z) p_c0.c.2 (own_aS (P := fun z => ¬ (255 : Int32) < z) p_c1.c.2 (own_aS (P := fun z => ¬ (255 : Int32) < z) p_c2.c.2 (own_aS (P := fun z => ¬ (255 : Int32) < z) p_c3.c.2 own_a0)))) rfl rfl (by decide) (by decide) (lenOf (L := [.int (3 : Int32)]) pd_7 rfl) rfl rfl dd_prog_17_method_1_40 rfl (by decide) (by decide) ?_
  intro T19 X19
  refine own_callSM (pc' := 46) (cells' := 10) (slots' := 104) (argsL := [(.int c3)]) (rest := []) (W := 0) (y := (⟨"com/example/periwinkle/periwinkle/Name", "isAllowed", "(C)Z"⟩ : MethodName)) X19 (W 89 rfl) (W 90 rfl) (by decide) (own_isal l Z a0 hw EWf n0 c3 h16 (own_old X19) p_c3 CS) all0 (W 91 rfl) (W 40 rfl) (by decide) (by decide) rfl (lenOf pd_8 rfl) rfl rfl dd_prog_17_method_1_43 rfl rfl rfl rfl (by decide) (by decide) ?_
  intro v20 T20 h20 s20 X20 q20
  obtain ⟨rfl, K20⟩ := q20
  show G T20 (mkF m 46 #[.val (.ref a), .val (.ref x), .val (.int (3 : Int32))] [(.int (1 : Int32))])
  refine own_ifY (pc' := 76) X20 dd_prog_17_method_1_46 ((feq (by decide)).2) (by decide) (by decide) ?_
  refine own_iinc (pc' := 79) X20 dd_prog_17_method_1_76 rfl rfl (z := (1 : Int32)) (by decide) (r := (4 : Int32)) (by decide) (Ls' := #[.val (.ref a), .val (.ref x), .val (.int (4 : Int32))]) rfl ?_
  refine own_goto (pc' := 30) X20 dd_prog_17_method_1_79 (by decide) (by decide) ?_
  refine own_iload_n (pc' := 31) X20 dd_prog_17_method_1_30 rfl rfl ?_
  refine own_aload_n (pc' := 32) X20 dd_prog_17_method_1_31 rfl rfl rfl ?_
  have f21 := (f17.keep K20 nin0 nin0)
  refine own_strlen (pc' := 35) (W := 1) X20 (fun d hd => hw d (own_in_wordsLen d hd)) CS (W 57 rfl) (W 58 rfl) (W 60 rfl) (W 59 rfl) (W 9 rfl) f21  (by decide) (by decide) (lenOf (L := []) pd_4 rfl) rfl rfl dd_prog_17_method_1_32 rfl (by decide) (by decide) ?_
  intro T22 X22
  show G T22 (mkF m 35 #[.val (.ref a), .val (.ref x), .val (.int (4 : Int32))] [(.int (4 : Int32)), (.int (4 : Int32))])
  refine own_icmpY (pc' := 82) X22 dd_prog_17_method_1_35 ((flt (by decide)).2.1) (by decide) (by decide) ?_
  refine own_aload_n (pc' := 83) X22 dd_prog_17_method_1_82 rfl rfl rfl ?_
  refine own_strlen (pc' := 86) (W := 0) X22 (fun d hd => hw d (own_in_wordsLen d hd)) CS (W 57 rfl) (W 58 rfl) (W 60 rfl) (W 59 rfl) (W 9 rfl) f21  (by decide) (by decide) (lenOf (L := []) pd_4 rfl) rfl rfl dd_prog_17_method_1_83 rfl (by decide) (by decide) ?_
  intro T23 X23
  show G T23 (mkF m 86 #[.val (.ref a), .val (.ref x), .val (.int (4 : Int32))] [(.int (4 : Int32))])
  refine own_sipush (pc' := 89) X23 dd_prog_17_method_1_86 rfl (z := (128 : Int32)) (by decide) ?_
  refine own_icmpY (pc' := 109) X23 dd_prog_17_method_1_89 ((flt (by decide)).2.2.2) (by decide) (by decide) ?_
  refine own_aload_n (pc' := 110) X23 dd_prog_17_method_1_109 rfl rfl rfl ?_
  refine own_aload_n (pc' := 111) X23 dd_prog_17_method_1_110 rfl rfl rfl ?_
  have f24 := (((((p_F.keep K2 nin0).keep K8 nin0).keep K12 nin0).keep K16 nin0).keep K20 nin0)
  have f25 := (((((p_E.keep K2).keep K8).keep K12).keep K16).keep K20)
  refine own_put (pc' := 114) X23 (host := "") (Or.inl (W 92 rfl)) Via.refl f24 f25 (Or.inr ⟨(W 93 rfl), rfl, rfl⟩) (W 39 rfl) (ty := (.object "java/lang/String")) (by decide) rfl rfl n_a (Or.inl ⟨by decide, by decide⟩) dd_prog_17_method_1_111 rfl ?_
  intro T26 h26 X26 W26 K26
  have f26_ := f24.same W26
  have f27 := (f25.keep K26)
  exact own_retV X26 hGe rfl dd_prog_17_method_1_114 (by decide) (by decide) ⟨rfl, (((((((Keep.refl h0 [a]).trans K2 all0).trans K8 all0).trans K12 all0).trans K16 all0).trans K20 all0).trans K26 (allS (Or.inl (List.mem_of_getElem? (i := 0) rfl)) all0)), f27, f26_⟩
theorem ef_own_nm3 (m : MethodId) (x0 : Addr) (x1 : Addr) : entryFrame m #[(.ref x0), (.ref x1)] 3 = mkF m 0 #[.val (.ref x0), .val (.ref x1), .unset] [] := by first | (simp [entryFrame, mkF, argsToLocals, Value.category]; done) | rfl
set_option maxRecDepth 65536 in
set_option maxHeartbeats 40000000 in
theorem own_nm3 (l : Launch) (Z : State) (a0 : Array Value) (hw : ∀ d ∈ tables_1, d.before a0 Z = true) (EWf : own_EW Z own_EL) (n0 : Nat) (a x t : Addr) (c0 c1 c2 : Int32) (h0 : Heap) (O0 : Old Z n0 h0) (n_a : n0 ≤ a) (p_E : Exa Z h0 a "com/example/periwinkle/periwinkle/Name") (p_F : Fld Z h0 a "com/example/periwinkle/periwinkle/Name" "value" "Ljava/lang/String;" .null) (p_S : own_Str Z h0 x t [c0, c1, c2]) (p_c0 : own_Alw c0) (p_c1 : own_Alw c1) (p_c2 : own_Alw c2) (CS : own_CS Z) (SF : own_SF Z) :
    own_Met l Z own_EL [] n0 (⟨"com/example/periwinkle/periwinkle/Name", "<init>", "(Ljava/lang/String;)V"⟩ : MethodName) prog_17_method_1_code 3 none ({ frames := 5, cells := 10, slots := 104, locals := 71 } : Room) #[(.ref a), (.ref x)] h0 (fun v h => v = none ∧ Keep h0 h [a] ∧ Exa Z h a "com/example/periwinkle/periwinkle/Name" ∧ Fld Z h a "com/example/periwinkle/periwinkle/Name" "value" "Ljava/lang/String;" (.ref x)) := by
  refine own_enter (own := "com/example/periwinkle/periwinkle/Name") (nm := "<init>") (plainFor_of_name pn_5) rfl rfl O0 EWf ?_
  have W : ∀ (k : Nat) {d : Jvm.Cond}, tables_1[k]? = some d → d.before a0 Z = true := fun k d q => hw d (List.mem_of_getElem? q)
  intro G p e s m below meth c T0 hGe X0
  rw [ef_own_nm3 m a x]
  refine own_aload_n (pc' := 1) X0 dd_prog_17_method_1_0 rfl rfl rfl ?_
  refine own_initO (pc' := 4) (W := 0) X0 (W 44 rfl) (W 20 rfl) (W 21 rfl) rfl dd_prog_17_method_1_1 rfl (by decide) rfl (by decide) ?_
  intro T1 X1
  refine own_aload_n (pc' := 5) X1 dd_prog_17_method_1_4 rfl rfl rfl ?_
  refine own_ldcO (pc' := 7) (cells' := 2) (slots' := 24) (n := 20) (text := "value") X1 (W 45 rfl) (fun d hd => hw d (own_in_atoms d hd)) (by decide) (by decide) dd_prog_17_method_1_5 rfl rfl rfl (by decide) (by decide) ?_
  intro T2 h2 s2 a2 X2 K2
  refine own_callSM (pc' := 10) (cells' := 2) (slots' := 24) (argsL := [(.ref x), (.ref a2)]) (rest := []) (W := 0) (y := (⟨"java/util/Objects", "requireNonNull", "(Ljava/lang/Object;Ljava/lang/String;)Ljava/lang/Object;"⟩ : MethodName)) X2 (W 48 rfl) (W 49 rfl) (by decide) (own_rq2 l Z a0 hw EWf n0 x a2 h2 (own_old X2) ) all0 (W 51 rfl) (W 50 rfl) (by decide) (by decide) rfl (lenOf pd_6 rfl) rfl rfl dd_prog_17_method_1_7 rfl rfl rfl rfl (by decide) (by decide) ?_
  intro v3 T3 h3 s3 X3 q3
  obtain ⟨rfl, rfl⟩ := q3
  show G T3 (mkF m 10 #[.val (.ref a), .val (.ref x), .unset] [(.ref x)])
  refine own_pop (pc' := 11) X3 dd_prog_17_method_1_10 rfl rfl ?_
  refine own_aload_n (pc' := 12) X3 dd_prog_17_method_1_11 rfl rfl rfl ?_
  have f4 := (p_S.keep K2 nin0 nin0)
  refine own_stremp (pc' := 15) (W := 0) X3 (fun d hd => hw d (own_in_wordsEmp d hd)) CS (W 52 rfl) (W 53 rfl) (W 55 rfl) (W 54 rfl) (W 9 rfl) f4  (by decide) (by decide) (lenOf (L := []) pd_3 rfl) rfl rfl dd_prog_17_method_1_12 rfl (by decide) (by decide) ?_
  intro T5 X5
  refine own_ifY (pc' := 28) X5 dd_prog_17_method_1_15 ((teq (by simp)).1) (by decide) (by decide) ?_
  refine own_iconst (pc' := 29) X5 dd_prog_17_method_1_28 rfl (z := (0 : Int32)) (by decide) ?_
  refine own_istore_n (pc' := 30) X5 dd_prog_17_method_1_29 rfl (Ls' := #[.val (.ref a), .val (.ref x), .val (.int (0 : Int32))]) rfl ?_
  refine own_iload_n (pc' := 31) X5 dd_prog_17_method_1_30 rfl rfl ?_
  refine own_aload_n (pc' := 32) X5 dd_prog_17_method_1_31 rfl rfl rfl ?_
  refine own_strlen (pc' := 35) (W := 1) X5 (fun d hd => hw d (own_in_wordsLen d hd)) CS (W 57 rfl) (W 58 rfl) (W 60 rfl) (W 59 rfl) (W 9 rfl) f4  (by decide) (by decide) (lenOf (L := []) pd_4 rfl) rfl rfl dd_prog_17_method_1_32 rfl (by decide) (by decide) ?_
  intro T6 X6
  show G T6 (mkF m 35 #[.val (.ref a), .val (.ref x), .val (.int (0 : Int32))] [(.int (3 : Int32)), (.int (0 : Int32))])
  refine own_icmpN (pc' := 38) X6 dd_prog_17_method_1_35 rfl ((tlt (by decide)).2.1) ?_
  refine own_aload_n (pc' := 39) X6 dd_prog_17_method_1_38 rfl rfl rfl ?_
  refine own_iload_n (pc' := 40) X6 dd_prog_17_method_1_39 rfl rfl ?_
  refine own_strchar (pc' := 43) (W := 0) (i' := 0) (ch := c0) X6 (fun d hd => hw d (own_in_wordsChN d hd)) CS SF (W 67 rfl) (W 68 rfl) (W 70 rfl) (W 69 rfl) (W 9 rfl) f4 (own_aS (P := fun z => ¬ (255 : Int32) < z) p_c0.c.2 (own_aS (P := fun z => ¬ (255 : Int32) < z) p_c1.c.2 (own_aS (P := fun z => ¬ (255 : Int32) < z) p_c2.c.2 own_a0))) rfl rfl (by decide) (by decide) (lenOf (L := [.int (0 : Int32)]) pd_7 rfl) rfl rfl dd_prog_17_method_1_40 rfl (by decide) (by decide) ?_
  intro T7 X7
  refine own_callSM (pc' := 46) (cells' := 4) (slots' := 44) (argsL := [(.int c0)]) (rest := []) (W := 0) (y := (⟨"com/example/periwinkle/periwinkle/Name", "isAllowed", "(C)Z"⟩ : MethodName)) X7 (W 89 rfl) (W 90 rfl) (by decide) (own_isal l Z a0 hw EWf n0 c0 h2 (own_old X7) p_c0 CS) all0 (W 91 rfl) (W 40 rfl) (by decide) (by decide) rfl (lenOf pd_8 rfl) rfl rfl dd_prog_17_method_1_43 rfl rfl rfl rfl (by decide) (by decide) ?_
  intro v8 T8 h8 s8 X8 q8
  obtain ⟨rfl, K8⟩ := q8
  show G T8 (mkF m 46 #[.val (.ref a), .val (.ref x), .val (.int (0 : Int32))] [(.int (1 : Int32))])
  refine own_ifY (pc' := 76) X8 dd_prog_17_method_1_46 ((feq (by decide)).2) (by decide) (by decide) ?_
  refine own_iinc (pc' := 79) X8 dd_prog_17_method_1_76 rfl rfl (z := (1 : Int32)) (by decide) (r := (1 : Int32)) (by decide) (Ls' := #[.val (.ref a), .val (.ref x), .val (.int (1 : Int32))]) rfl ?_
  refine own_goto (pc' := 30) X8 dd_prog_17_method_1_79 (by decide) (by decide) ?_
  refine own_iload_n (pc' := 31) X8 dd_prog_17_method_1_30 rfl rfl ?_
  refine own_aload_n (pc' := 32) X8 dd_prog_17_method_1_31 rfl rfl rfl ?_
  have f9 := (f4.keep K8 nin0 nin0)
  refine own_strlen (pc' := 35) (W := 1) X8 (fun d hd => hw d (own_in_wordsLen d hd)) CS (W 57 rfl) (W 58 rfl) (W 60 rfl) (W 59 rfl) (W 9 rfl) f9  (by decide) (by decide) (lenOf (L := []) pd_4 rfl) rfl rfl dd_prog_17_method_1_32 rfl (by decide) (by decide) ?_
  intro T10 X10
  show G T10 (mkF m 35 #[.val (.ref a), .val (.ref x), .val (.int (1 : Int32))] [(.int (3 : Int32)), (.int (1 : Int32))])
  refine own_icmpN (pc' := 38) X10 dd_prog_17_method_1_35 rfl ((tlt (by decide)).2.1) ?_
  refine own_aload_n (pc' := 39) X10 dd_prog_17_method_1_38 rfl rfl rfl ?_
  refine own_iload_n (pc' := 40) X10 dd_prog_17_method_1_39 rfl rfl ?_
  refine own_strchar (pc' := 43) (W := 0) (i' := 1) (ch := c1) X10 (fun d hd => hw d (own_in_wordsChN d hd)) CS SF (W 67 rfl) (W 68 rfl) (W 70 rfl) (W 69 rfl) (W 9 rfl) f9 (own_aS (P := fun z => ¬ (255 : Int32) < z) p_c0.c.2 (own_aS (P := fun z => ¬ (255 : Int32) < z) p_c1.c.2 (own_aS (P := fun z => ¬ (255 : Int32) < z) p_c2.c.2 own_a0))) rfl rfl (by decide) (by decide) (lenOf (L := [.int (1 : Int32)]) pd_7 rfl) rfl rfl dd_prog_17_method_1_40 rfl (by decide) (by decide) ?_
  intro T11 X11
  refine own_callSM (pc' := 46) (cells' := 6) (slots' := 64) (argsL := [(.int c1)]) (rest := []) (W := 0) (y := (⟨"com/example/periwinkle/periwinkle/Name", "isAllowed", "(C)Z"⟩ : MethodName)) X11 (W 89 rfl) (W 90 rfl) (by decide) (own_isal l Z a0 hw EWf n0 c1 h8 (own_old X11) p_c1 CS) all0 (W 91 rfl) (W 40 rfl) (by decide) (by decide) rfl (lenOf pd_8 rfl) rfl rfl dd_prog_17_method_1_43 rfl rfl rfl rfl (by decide) (by decide) ?_
  intro v12 T12 h12 s12 X12 q12
  obtain ⟨rfl, K12⟩ := q12
  show G T12 (mkF m 46 #[.val (.ref a), .val (.ref x), .val (.int (1 : Int32))] [(.int (1 : Int32))])
  refine own_ifY (pc' := 76) X12 dd_prog_17_method_1_46 ((feq (by decide)).2) (by decide) (by decide) ?_
  refine own_iinc (pc' := 79) X12 dd_prog_17_method_1_76 rfl rfl (z := (1 : Int32)) (by decide) (r := (2 : Int32)) (by decide) (Ls' := #[.val (.ref a), .val (.ref x), .val (.int (2 : Int32))]) rfl ?_
  refine own_goto (pc' := 30) X12 dd_prog_17_method_1_79 (by decide) (by decide) ?_
  refine own_iload_n (pc' := 31) X12 dd_prog_17_method_1_30 rfl rfl ?_
  refine own_aload_n (pc' := 32) X12 dd_prog_17_method_1_31 rfl rfl rfl ?_
  have f13 := (f9.keep K12 nin0 nin0)
  refine own_strlen (pc' := 35) (W := 1) X12 (fun d hd => hw d (own_in_wordsLen d hd)) CS (W 57 rfl) (W 58 rfl) (W 60 rfl) (W 59 rfl) (W 9 rfl) f13  (by decide) (by decide) (lenOf (L := []) pd_4 rfl) rfl rfl dd_prog_17_method_1_32 rfl (by decide) (by decide) ?_
  intro T14 X14
  show G T14 (mkF m 35 #[.val (.ref a), .val (.ref x), .val (.int (2 : Int32))] [(.int (3 : Int32)), (.int (2 : Int32))])
  refine own_icmpN (pc' := 38) X14 dd_prog_17_method_1_35 rfl ((tlt (by decide)).2.1) ?_
  refine own_aload_n (pc' := 39) X14 dd_prog_17_method_1_38 rfl rfl rfl ?_
  refine own_iload_n (pc' := 40) X14 dd_prog_17_method_1_39 rfl rfl ?_
  refine own_strchar (pc' := 43) (W := 0) (i' := 2) (ch := c2) X14 (fun d hd => hw d (own_in_wordsChN d hd)) CS SF (W 67 rfl) (W 68 rfl) (W 70 rfl) (W 69 rfl) (W 9 rfl) f13 (own_aS (P := fun z => ¬ (255 : Int32) < z) p_c0.c.2 (own_aS (P := fun z => ¬ (255 : Int32) < z) p_c1.c.2 (own_aS (P := fun z => ¬ (255 : Int32) < z) p_c2.c.2 own_a0))) rfl rfl (by decide) (by decide) (lenOf (L := [.int (2 : Int32)]) pd_7 rfl) rfl rfl dd_prog_17_method_1_40 rfl (by decide) (by decide) ?_
  intro T15 X15
  refine own_callSM (pc' := 46) (cells' := 8) (slots' := 84) (argsL := [(.int c2)]) (rest := []) (W := 0) (y := (⟨"com/example/periwinkle/periwinkle/Name", "isAllowed", "(C)Z"⟩ : MethodName)) X15 (W 89 rfl) (W 90 rfl) (by decide) (own_isal l Z a0 hw EWf n0 c2 h12 (own_old X15) p_c2 CS) all0 (W 91 rfl) (W 40 rfl) (by decide) (by decide) rfl (lenOf pd_8 rfl) rfl rfl dd_prog_17_method_1_43 rfl rfl rfl rfl (by decide) (by decide) ?_
  intro v16 T16 h16 s16 X16 q16
  obtain ⟨rfl, K16⟩ := q16
  show G T16 (mkF m 46 #[.val (.ref a), .val (.ref x), .val (.int (2 : Int32))] [(.int (1 : Int32))])
  refine own_ifY (pc' := 76) X16 dd_prog_17_method_1_46 ((feq (by decide)).2) (by decide) (by decide) ?_
  refine own_iinc (pc' := 79) X16 dd_prog_17_method_1_76 rfl rfl (z := (1 : Int32)) (by decide) (r := (3 : Int32)) (by decide) (Ls' := #[.val (.ref a), .val (.ref x), .val (.int (3 : Int32))]) rfl ?_
  refine own_goto (pc' := 30) X16 dd_prog_17_method_1_79 (by decide) (by decide) ?_
  refine own_iload_n (pc' := 31) X16 dd_prog_17_method_1_30 rfl rfl ?_
  refine own_aload_n (pc' := 32) X16 dd_prog_17_method_1_31 rfl rfl rfl ?_
  have f17 := (f13.keep K16 nin0 nin0)
  refine own_strlen (pc' := 35) (W := 1) X16 (fun d hd => hw d (own_in_wordsLen d hd)) CS (W 57 rfl) (W 58 rfl) (W 60 rfl) (W 59 rfl) (W 9 rfl) f17  (by decide) (by decide) (lenOf (L := []) pd_4 rfl) rfl rfl dd_prog_17_method_1_32 rfl (by decide) (by decide) ?_
  intro T18 X18
  show G T18 (mkF m 35 #[.val (.ref a), .val (.ref x), .val (.int (3 : Int32))] [(.int (3 : Int32)), (.int (3 : Int32))])
  refine own_icmpY (pc' := 82) X18 dd_prog_17_method_1_35 ((flt (by decide)).2.1) (by decide) (by decide) ?_
  refine own_aload_n (pc' := 83) X18 dd_prog_17_method_1_82 rfl rfl rfl ?_
  refine own_strlen (pc' := 86) (W := 0) X18 (fun d hd => hw d (own_in_wordsLen d hd)) CS (W 57 rfl) (W 58 rfl) (W 60 rfl) (W 59 rfl) (W 9 rfl) f17  (by decide) (by decide) (lenOf (L := []) pd_4 rfl) rfl rfl dd_prog_17_method_1_83 rfl (by decide) (by decide) ?_
  intro T19 X19
  show G T19 (mkF m 86 #[.val (.ref a), .val (.ref x), .val (.int (3 : Int32))] [(.int (3 : Int32))])
  refine own_sipush (pc' := 89) X19 dd_prog_17_method_1_86 rfl (z := (128 : Int32)) (by decide) ?_
  refine own_icmpY (pc' := 109) X19 dd_prog_17_method_1_89 ((flt (by decide)).2.2.2) (by decide) (by decide) ?_
  refine own_aload_n (pc' := 110) X19 dd_prog_17_method_1_109 rfl rfl rfl ?_
  refine own_aload_n (pc' := 111) X19 dd_prog_17_method_1_110 rfl rfl rfl ?_
  have f20 := ((((p_F.keep K2 nin0).keep K8 nin0).keep K12 nin0).keep K16 nin0)
  have f21 := ((((p_E.keep K2).keep K8).keep K12).keep K16)
  refine own_put (pc' := 114) X19 (host := "") (Or.inl (W 92 rfl)) Via.refl f20 f21 (Or.inr ⟨(W 93 rfl), rfl, rfl⟩) (W 39 rfl) (ty := (.object "java/lang/String")) (by decide) rfl rfl n_a (Or.inl ⟨by decide, by decide⟩) dd_prog_17_method_1_111 rfl ?_
  intro T22 h22 X22 W22 K22
  have f22_ := f20.same W22
  have f23 := (f21.keep K22)
  exact own_retV X22 hGe rfl dd_prog_17_method_1_114 (by decide) (by decide) ⟨rfl, ((((((Keep.refl h0 [a]).trans K2 all0).trans K8 all0).trans K12 all0).trans K16 all0).trans K22 (allS (Or.inl (List.mem_of_getElem? (i := 0) rfl)) all0)), f23, f22_⟩
theorem ef_own_nm2 (m : MethodId) (x0 : Addr) (x1 : Addr) : entryFrame m #[(.ref x0), (.ref x1)] 3 = mkF m 0 #[.val (.ref x0), .val (.ref x1), .unset] [] := by first | (simp [entryFrame, mkF, argsToLocals, Value.category]; done) | rfl
set_option maxRecDepth 65536 in
set_option maxHeartbeats 40000000 in
theorem own_nm2 (l : Launch) (Z : State) (a0 : Array Value) (hw : ∀ d ∈ tables_1, d.before a0 Z = true) (EWf : own_EW Z own_EL) (n0 : Nat) (a x t : Addr) (c0 c1 : Int32) (h0 : Heap) (O0 : Old Z n0 h0) (n_a : n0 ≤ a) (p_E : Exa Z h0 a "com/example/periwinkle/periwinkle/Name") (p_F : Fld Z h0 a "com/example/periwinkle/periwinkle/Name" "value" "Ljava/lang/String;" .null) (p_S : own_Str Z h0 x t [c0, c1]) (p_c0 : own_Alw c0) (p_c1 : own_Alw c1) (CS : own_CS Z) (SF : own_SF Z) :
    own_Met l Z own_EL [] n0 (⟨"com/example/periwinkle/periwinkle/Name", "<init>", "(Ljava/lang/String;)V"⟩ : MethodName) prog_17_method_1_code 3 none ({ frames := 5, cells := 10, slots := 104, locals := 71 } : Room) #[(.ref a), (.ref x)] h0 (fun v h => v = none ∧ Keep h0 h [a] ∧ Exa Z h a "com/example/periwinkle/periwinkle/Name" ∧ Fld Z h a "com/example/periwinkle/periwinkle/Name" "value" "Ljava/lang/String;" (.ref x)) := by
  refine own_enter (own := "com/example/periwinkle/periwinkle/Name") (nm := "<init>") (plainFor_of_name pn_5) rfl rfl O0 EWf ?_
  have W : ∀ (k : Nat) {d : Jvm.Cond}, tables_1[k]? = some d → d.before a0 Z = true := fun k d q => hw d (List.mem_of_getElem? q)
  intro G p e s m below meth c T0 hGe X0
  rw [ef_own_nm2 m a x]
  refine own_aload_n (pc' := 1) X0 dd_prog_17_method_1_0 rfl rfl rfl ?_
  refine own_initO (pc' := 4) (W := 0) X0 (W 44 rfl) (W 20 rfl) (W 21 rfl) rfl dd_prog_17_method_1_1 rfl (by decide) rfl (by decide) ?_
  intro T1 X1
  refine own_aload_n (pc' := 5) X1 dd_prog_17_method_1_4 rfl rfl rfl ?_
  refine own_ldcO (pc' := 7) (cells' := 2) (slots' := 24) (n := 20) (text := "value") X1 (W 45 rfl) (fun d hd => hw d (own_in_atoms d hd)) (by decide) (by decide) dd_prog_17_method_1_5 rfl rfl rfl (by decide) (by decide) ?_
  intro T2 h2 s2 a2 X2 K2
  refine own_callSM (pc' := 10) (cells' := 2) (slots' := 24) (argsL := [(.ref x), (.ref a2)]) (rest := []) (W := 0) (y := (⟨"java/util/Objects", "requireNonNull", "(Ljava/lang/Object;Ljava/lang/String;)Ljava/lang/Object;"⟩ : MethodName)) X2 (W 48 rfl) (W 49 rfl) (by decide) (own_rq2 l Z a0 hw EWf n0 x a2 h2 (own_old X2) ) all0 (W 51 rfl) (W 50 rfl) (by decide) (by decide) rfl (lenOf pd_6 rfl) rfl rfl dd_prog_17_method_1_7 rfl rfl rfl rfl (by decide) (by decide) ?_
  intro v3 T3 h3 s3 X3 q3
  obtain ⟨rfl, rfl⟩ := q3
  show G T3 (mkF m 10 #[.val (.ref a), .val (.ref x), .unset] [(.ref x)])
  refine own_pop (pc' := 11) X3 dd_prog_17_method_1_10 rfl rfl ?_
  refine own_aload_n (pc' := 12) X3 dd_prog_17_method_1_11 rfl rfl rfl ?_
  have f4 := (p_S.keep K2 nin0 nin0)
  refine own_stremp (pc' := 15) (W := 0) X3 (fun d hd => hw d (own_in_wordsEmp d hd)) CS (W 52 rfl) (W 53 rfl) (W 55 rfl) (W 54 rfl) (W 9 rfl) f4  (by decide) (by decide) (lenOf (L := []) pd_3 rfl) rfl rfl dd_prog_17_method_1_12 rfl (by decide) (by decide) ?_
  intro T5 X5
  refine own_ifY (pc' := 28) X5 dd_prog_17_method_1_15 ((teq (by simp)).1) (by decide) (by decide) ?_
  refine own_iconst (pc' := 29) X5 dd_prog_17_method_1_28 rfl (z := (0 : Int32)) (by decide) ?_
  refine own_istore_n (pc' := 30) X5 dd_prog_17_method_1_29 rfl (Ls' := #[.val (.ref a), .val (.ref x), .val (.int (0 : Int32))]) rfl ?_
  refine own_iload_n (pc' := 31) X5 dd_prog_17_method_1_30 rfl rfl ?_
  refine own_aload_n (pc' := 32) X5 dd_prog_17_method_1_31 rfl rfl rfl ?_
  refine own_strlen (pc' := 35) (W := 1) X5 (fun d hd => hw d (own_in_wordsLen d hd)) CS (W 57 rfl) (W 58 rfl) (W 60 rfl) (W 59 rfl) (W 9 rfl) f4  (by decide) (by decide) (lenOf (L := []) pd_4 rfl) rfl rfl dd_prog_17_method_1_32 rfl (by decide) (by decide) ?_
  intro T6 X6
  show G T6 (mkF m 35 #[.val (.ref a), .val (.ref x), .val (.int (0 : Int32))] [(.int (2 : Int32)), (.int (0 : Int32))])
  refine own_icmpN (pc' := 38) X6 dd_prog_17_method_1_35 rfl ((tlt (by decide)).2.1) ?_
  refine own_aload_n (pc' := 39) X6 dd_prog_17_method_1_38 rfl rfl rfl ?_
  refine own_iload_n (pc' := 40) X6 dd_prog_17_method_1_39 rfl rfl ?_
  refine own_strchar (pc' := 43) (W := 0) (i' := 0) (ch := c0) X6 (fun d hd => hw d (own_in_wordsChN d hd)) CS SF (W 67 rfl) (W 68 rfl) (W 70 rfl) (W 69 rfl) (W 9 rfl) f4 (own_aS (P := fun z => ¬ (255 : Int32) < z) p_c0.c.2 (own_aS (P := fun z => ¬ (255 : Int32) < z) p_c1.c.2 own_a0)) rfl rfl (by decide) (by decide) (lenOf (L := [.int (0 : Int32)]) pd_7 rfl) rfl rfl dd_prog_17_method_1_40 rfl (by decide) (by decide) ?_
  intro T7 X7
  refine own_callSM (pc' := 46) (cells' := 4) (slots' := 44) (argsL := [(.int c0)]) (rest := []) (W := 0) (y := (⟨"com/example/periwinkle/periwinkle/Name", "isAllowed", "(C)Z"⟩ : MethodName)) X7 (W 89 rfl) (W 90 rfl) (by decide) (own_isal l Z a0 hw EWf n0 c0 h2 (own_old X7) p_c0 CS) all0 (W 91 rfl) (W 40 rfl) (by decide) (by decide) rfl (lenOf pd_8 rfl) rfl rfl dd_prog_17_method_1_43 rfl rfl rfl rfl (by decide) (by decide) ?_
  intro v8 T8 h8 s8 X8 q8
  obtain ⟨rfl, K8⟩ := q8
  show G T8 (mkF m 46 #[.val (.ref a), .val (.ref x), .val (.int (0 : Int32))] [(.int (1 : Int32))])
  refine own_ifY (pc' := 76) X8 dd_prog_17_method_1_46 ((feq (by decide)).2) (by decide) (by decide) ?_
  refine own_iinc (pc' := 79) X8 dd_prog_17_method_1_76 rfl rfl (z := (1 : Int32)) (by decide) (r := (1 : Int32)) (by decide) (Ls' := #[.val (.ref a), .val (.ref x), .val (.int (1 : Int32))]) rfl ?_
  refine own_goto (pc' := 30) X8 dd_prog_17_method_1_79 (by decide) (by decide) ?_
  refine own_iload_n (pc' := 31) X8 dd_prog_17_method_1_30 rfl rfl ?_
  refine own_aload_n (pc' := 32) X8 dd_prog_17_method_1_31 rfl rfl rfl ?_
  have f9 := (f4.keep K8 nin0 nin0)
  refine own_strlen (pc' := 35) (W := 1) X8 (fun d hd => hw d (own_in_wordsLen d hd)) CS (W 57 rfl) (W 58 rfl) (W 60 rfl) (W 59 rfl) (W 9 rfl) f9  (by decide) (by decide) (lenOf (L := []) pd_4 rfl) rfl rfl dd_prog_17_method_1_32 rfl (by decide) (by decide) ?_
  intro T10 X10
  show G T10 (mkF m 35 #[.val (.ref a), .val (.ref x), .val (.int (1 : Int32))] [(.int (2 : Int32)), (.int (1 : Int32))])
  refine own_icmpN (pc' := 38) X10 dd_prog_17_method_1_35 rfl ((tlt (by decide)).2.1) ?_
  refine own_aload_n (pc' := 39) X10 dd_prog_17_method_1_38 rfl rfl rfl ?_
  refine own_iload_n (pc' := 40) X10 dd_prog_17_method_1_39 rfl rfl ?_
  refine own_strchar (pc' := 43) (W := 0) (i' := 1) (ch := c1) X10 (fun d hd => hw d (own_in_wordsChN d hd)) CS SF (W 67 rfl) (W 68 rfl) (W 70 rfl) (W 69 rfl) (W 9 rfl) f9 (own_aS (P := fun z => ¬ (255 : Int32) < z) p_c0.c.2 (own_aS (P := fun z => ¬ (255 : Int32) < z) p_c1.c.2 own_a0)) rfl rfl (by decide) (by decide) (lenOf (L := [.int (1 : Int32)]) pd_7 rfl) rfl rfl dd_prog_17_method_1_40 rfl (by decide) (by decide) ?_
  intro T11 X11
  refine own_callSM (pc' := 46) (cells' := 6) (slots' := 64) (argsL := [(.int c1)]) (rest := []) (W := 0) (y := (⟨"com/example/periwinkle/periwinkle/Name", "isAllowed", "(C)Z"⟩ : MethodName)) X11 (W 89 rfl) (W 90 rfl) (by decide) (own_isal l Z a0 hw EWf n0 c1 h8 (own_old X11) p_c1 CS) all0 (W 91 rfl) (W 40 rfl) (by decide) (by decide) rfl (lenOf pd_8 rfl) rfl rfl dd_prog_17_method_1_43 rfl rfl rfl rfl (by decide) (by decide) ?_
  intro v12 T12 h12 s12 X12 q12
  obtain ⟨rfl, K12⟩ := q12
  show G T12 (mkF m 46 #[.val (.ref a), .val (.ref x), .val (.int (1 : Int32))] [(.int (1 : Int32))])
  refine own_ifY (pc' := 76) X12 dd_prog_17_method_1_46 ((feq (by decide)).2) (by decide) (by decide) ?_
  refine own_iinc (pc' := 79) X12 dd_prog_17_method_1_76 rfl rfl (z := (1 : Int32)) (by decide) (r := (2 : Int32)) (by decide) (Ls' := #[.val (.ref a), .val (.ref x), .val (.int (2 : Int32))]) rfl ?_
  refine own_goto (pc' := 30) X12 dd_prog_17_method_1_79 (by decide) (by decide) ?_
  refine own_iload_n (pc' := 31) X12 dd_prog_17_method_1_30 rfl rfl ?_
  refine own_aload_n (pc' := 32) X12 dd_prog_17_method_1_31 rfl rfl rfl ?_
  have f13 := (f9.keep K12 nin0 nin0)
  refine own_strlen (pc' := 35) (W := 1) X12 (fun d hd => hw d (own_in_wordsLen d hd)) CS (W 57 rfl) (W 58 rfl) (W 60 rfl) (W 59 rfl) (W 9 rfl) f13  (by decide) (by decide) (lenOf (L := []) pd_4 rfl) rfl rfl dd_prog_17_method_1_32 rfl (by decide) (by decide) ?_
  intro T14 X14
  show G T14 (mkF m 35 #[.val (.ref a), .val (.ref x), .val (.int (2 : Int32))] [(.int (2 : Int32)), (.int (2 : Int32))])
  refine own_icmpY (pc' := 82) X14 dd_prog_17_method_1_35 ((flt (by decide)).2.1) (by decide) (by decide) ?_
  refine own_aload_n (pc' := 83) X14 dd_prog_17_method_1_82 rfl rfl rfl ?_
  refine own_strlen (pc' := 86) (W := 0) X14 (fun d hd => hw d (own_in_wordsLen d hd)) CS (W 57 rfl) (W 58 rfl) (W 60 rfl) (W 59 rfl) (W 9 rfl) f13  (by decide) (by decide) (lenOf (L := []) pd_4 rfl) rfl rfl dd_prog_17_method_1_83 rfl (by decide) (by decide) ?_
  intro T15 X15
  show G T15 (mkF m 86 #[.val (.ref a), .val (.ref x), .val (.int (2 : Int32))] [(.int (2 : Int32))])
  refine own_sipush (pc' := 89) X15 dd_prog_17_method_1_86 rfl (z := (128 : Int32)) (by decide) ?_
  refine own_icmpY (pc' := 109) X15 dd_prog_17_method_1_89 ((flt (by decide)).2.2.2) (by decide) (by decide) ?_
  refine own_aload_n (pc' := 110) X15 dd_prog_17_method_1_109 rfl rfl rfl ?_
  refine own_aload_n (pc' := 111) X15 dd_prog_17_method_1_110 rfl rfl rfl ?_
  have f16 := (((p_F.keep K2 nin0).keep K8 nin0).keep K12 nin0)
  have f17 := (((p_E.keep K2).keep K8).keep K12)
  refine own_put (pc' := 114) X15 (host := "") (Or.inl (W 92 rfl)) Via.refl f16 f17 (Or.inr ⟨(W 93 rfl), rfl, rfl⟩) (W 39 rfl) (ty := (.object "java/lang/String")) (by decide) rfl rfl n_a (Or.inl ⟨by decide, by decide⟩) dd_prog_17_method_1_111 rfl ?_
  intro T18 h18 X18 W18 K18
  have f18_ := f16.same W18
  have f19 := (f17.keep K18)
  exact own_retV X18 hGe rfl dd_prog_17_method_1_114 (by decide) (by decide) ⟨rfl, (((((Keep.refl h0 [a]).trans K2 all0).trans K8 all0).trans K12 all0).trans K18 (allS (Or.inl (List.mem_of_getElem? (i := 0) rfl)) all0)), f19, f18_⟩
theorem ef_own_nm1 (m : MethodId) (x0 : Addr) (x1 : Addr) : entryFrame m #[(.ref x0), (.ref x1)] 3 = mkF m 0 #[.val (.ref x0), .val (.ref x1), .unset] [] := by first | (simp [entryFrame, mkF, argsToLocals, Value.category]; done) | rfl
set_option maxRecDepth 65536 in
set_option maxHeartbeats 40000000 in
theorem own_nm1 (l : Launch) (Z : State) (a0 : Array Value) (hw : ∀ d ∈ tables_1, d.before a0 Z = true) (EWf : own_EW Z own_EL) (n0 : Nat) (a x t : Addr) (c0 : Int32) (h0 : Heap) (O0 : Old Z n0 h0) (n_a : n0 ≤ a) (p_E : Exa Z h0 a "com/example/periwinkle/periwinkle/Name") (p_F : Fld Z h0 a "com/example/periwinkle/periwinkle/Name" "value" "Ljava/lang/String;" .null) (p_S : own_Str Z h0 x t [c0]) (p_c0 : own_Alw c0) (CS : own_CS Z) (SF : own_SF Z) :
    own_Met l Z own_EL [] n0 (⟨"com/example/periwinkle/periwinkle/Name", "<init>", "(Ljava/lang/String;)V"⟩ : MethodName) prog_17_method_1_code 3 none ({ frames := 5, cells := 10, slots := 104, locals := 71 } : Room) #[(.ref a), (.ref x)] h0 (fun v h => v = none ∧ Keep h0 h [a] ∧ Exa Z h a "com/example/periwinkle/periwinkle/Name" ∧ Fld Z h a "com/example/periwinkle/periwinkle/Name" "value" "Ljava/lang/String;" (.ref x)) := by
  refine own_enter (own := "com/example/periwinkle/periwinkle/Name") (nm := "<init>") (plainFor_of_name pn_5) rfl rfl O0 EWf ?_
  have W : ∀ (k : Nat) {d : Jvm.Cond}, tables_1[k]? = some d → d.before a0 Z = true := fun k d q => hw d (List.mem_of_getElem? q)
  intro G p e s m below meth c T0 hGe X0
  rw [ef_own_nm1 m a x]
  refine own_aload_n (pc' := 1) X0 dd_prog_17_method_1_0 rfl rfl rfl ?_
  refine own_initO (pc' := 4) (W := 0) X0 (W 44 rfl) (W 20 rfl) (W 21 rfl) rfl dd_prog_17_method_1_1 rfl (by decide) rfl (by decide) ?_
  intro T1 X1
  refine own_aload_n (pc' := 5) X1 dd_prog_17_method_1_4 rfl rfl rfl ?_
  refine own_ldcO (pc' := 7) (cells' := 2) (slots' := 24) (n := 20) (text := "value") X1 (W 45 rfl) (fun d hd => hw d (own_in_atoms d hd)) (by decide) (by decide) dd_prog_17_method_1_5 rfl rfl rfl (by decide) (by decide) ?_
  intro T2 h2 s2 a2 X2 K2
  refine own_callSM (pc' := 10) (cells' := 2) (slots' := 24) (argsL := [(.ref x), (.ref a2)]) (rest := []) (W := 0) (y := (⟨"java/util/Objects", "requireNonNull", "(Ljava/lang/Object;Ljava/lang/String;)Ljava/lang/Object;"⟩ : MethodName)) X2 (W 48 rfl) (W 49 rfl) (by decide) (own_rq2 l Z a0 hw EWf n0 x a2 h2 (own_old X2) ) all0 (W 51 rfl) (W 50 rfl) (by decide) (by decide) rfl (lenOf pd_6 rfl) rfl rfl dd_prog_17_method_1_7 rfl rfl rfl rfl (by decide) (by decide) ?_
  intro v3 T3 h3 s3 X3 q3
  obtain ⟨rfl, rfl⟩ := q3
  show G T3 (mkF m 10 #[.val (.ref a), .val (.ref x), .unset] [(.ref x)])
  refine own_pop (pc' := 11) X3 dd_prog_17_method_1_10 rfl rfl ?_
  refine own_aload_n (pc' := 12) X3 dd_prog_17_method_1_11 rfl rfl rfl ?_
  have f4 := (p_S.keep K2 nin0 nin0)
  refine own_stremp (pc' := 15) (W := 0) X3 (fun d hd => hw d (own_in_wordsEmp d hd)) CS (W 52 rfl) (W 53 rfl) (W 55 rfl) (W 54 rfl) (W 9 rfl) f4  (by decide) (by decide) (lenOf (L := []) pd_3 rfl) rfl rfl dd_prog_17_method_1_12 rfl (by decide) (by decide) ?_
  intro T5 X5
  refine own_ifY (pc' := 28) X5 dd_prog_17_method_1_15 ((teq (by simp)).1) (by decide) (by decide) ?_
  refine own_iconst (pc' := 29) X5 dd_prog_17_method_1_28 rfl (z := (0 : Int32)) (by decide) ?_
  refine own_istore_n (pc' := 30) X5 dd_prog_17_method_1_29 rfl (Ls' := #[.val (.ref a), .val (.ref x), .val (.int (0 : Int32))]) rfl ?_
  refine own_iload_n (pc' := 31) X5 dd_prog_17_method_1_30 rfl rfl ?_
  refine own_aload_n (pc' := 32) X5 dd_prog_17_method_1_31 rfl rfl rfl ?_
  refine own_strlen (pc' := 35) (W := 1) X5 (fun d hd => hw d (own_in_wordsLen d hd)) CS (W 57 rfl) (W 58 rfl) (W 60 rfl) (W 59 rfl) (W 9 rfl) f4  (by decide) (by decide) (lenOf (L := []) pd_4 rfl) rfl rfl dd_prog_17_method_1_32 rfl (by decide) (by decide) ?_
  intro T6 X6
  show G T6 (mkF m 35 #[.val (.ref a), .val (.ref x), .val (.int (0 : Int32))] [(.int (1 : Int32)), (.int (0 : Int32))])
  refine own_icmpN (pc' := 38) X6 dd_prog_17_method_1_35 rfl ((tlt (by decide)).2.1) ?_
  refine own_aload_n (pc' := 39) X6 dd_prog_17_method_1_38 rfl rfl rfl ?_
  refine own_iload_n (pc' := 40) X6 dd_prog_17_method_1_39 rfl rfl ?_
  refine own_strchar (pc' := 43) (W := 0) (i' := 0) (ch := c0) X6 (fun d hd => hw d (own_in_wordsChN d hd)) CS SF (W 67 rfl) (W 68 rfl) (W 70 rfl) (W 69 rfl) (W 9 rfl) f4 (own_aS (P := fun z => ¬ (255 : Int32) < z) p_c0.c.2 own_a0) rfl rfl (by decide) (by decide) (lenOf (L := [.int (0 : Int32)]) pd_7 rfl) rfl rfl dd_prog_17_method_1_40 rfl (by decide) (by decide) ?_
  intro T7 X7
  refine own_callSM (pc' := 46) (cells' := 4) (slots' := 44) (argsL := [(.int c0)]) (rest := []) (W := 0) (y := (⟨"com/example/periwinkle/periwinkle/Name", "isAllowed", "(C)Z"⟩ : MethodName)) X7 (W 89 rfl) (W 90 rfl) (by decide) (own_isal l Z a0 hw EWf n0 c0 h2 (own_old X7) p_c0 CS) all0 (W 91 rfl) (W 40 rfl) (by decide) (by decide) rfl (lenOf pd_8 rfl) rfl rfl dd_prog_17_method_1_43 rfl rfl rfl rfl (by decide) (by decide) ?_
  intro v8 T8 h8 s8 X8 q8
  obtain ⟨rfl, K8⟩ := q8
  show G T8 (mkF m 46 #[.val (.ref a), .val (.ref x), .val (.int (0 : Int32))] [(.int (1 : Int32))])
  refine own_ifY (pc' := 76) X8 dd_prog_17_method_1_46 ((feq (by decide)).2) (by decide) (by decide) ?_
  refine own_iinc (pc' := 79) X8 dd_prog_17_method_1_76 rfl rfl (z := (1 : Int32)) (by decide) (r := (1 : Int32)) (by decide) (Ls' := #[.val (.ref a), .val (.ref x), .val (.int (1 : Int32))]) rfl ?_
  refine own_goto (pc' := 30) X8 dd_prog_17_method_1_79 (by decide) (by decide) ?_
  refine own_iload_n (pc' := 31) X8 dd_prog_17_method_1_30 rfl rfl ?_
  refine own_aload_n (pc' := 32) X8 dd_prog_17_method_1_31 rfl rfl rfl ?_
  have f9 := (f4.keep K8 nin0 nin0)
  refine own_strlen (pc' := 35) (W := 1) X8 (fun d hd => hw d (own_in_wordsLen d hd)) CS (W 57 rfl) (W 58 rfl) (W 60 rfl) (W 59 rfl) (W 9 rfl) f9  (by decide) (by decide) (lenOf (L := []) pd_4 rfl) rfl rfl dd_prog_17_method_1_32 rfl (by decide) (by decide) ?_
  intro T10 X10
  show G T10 (mkF m 35 #[.val (.ref a), .val (.ref x), .val (.int (1 : Int32))] [(.int (1 : Int32)), (.int (1 : Int32))])
  refine own_icmpY (pc' := 82) X10 dd_prog_17_method_1_35 ((flt (by decide)).2.1) (by decide) (by decide) ?_
  refine own_aload_n (pc' := 83) X10 dd_prog_17_method_1_82 rfl rfl rfl ?_
  refine own_strlen (pc' := 86) (W := 0) X10 (fun d hd => hw d (own_in_wordsLen d hd)) CS (W 57 rfl) (W 58 rfl) (W 60 rfl) (W 59 rfl) (W 9 rfl) f9  (by decide) (by decide) (lenOf (L := []) pd_4 rfl) rfl rfl dd_prog_17_method_1_83 rfl (by decide) (by decide) ?_
  intro T11 X11
  show G T11 (mkF m 86 #[.val (.ref a), .val (.ref x), .val (.int (1 : Int32))] [(.int (1 : Int32))])
  refine own_sipush (pc' := 89) X11 dd_prog_17_method_1_86 rfl (z := (128 : Int32)) (by decide) ?_
  refine own_icmpY (pc' := 109) X11 dd_prog_17_method_1_89 ((flt (by decide)).2.2.2) (by decide) (by decide) ?_
  refine own_aload_n (pc' := 110) X11 dd_prog_17_method_1_109 rfl rfl rfl ?_
  refine own_aload_n (pc' := 111) X11 dd_prog_17_method_1_110 rfl rfl rfl ?_
  have f12 := ((p_F.keep K2 nin0).keep K8 nin0)
  have f13 := ((p_E.keep K2).keep K8)
  refine own_put (pc' := 114) X11 (host := "") (Or.inl (W 92 rfl)) Via.refl f12 f13 (Or.inr ⟨(W 93 rfl), rfl, rfl⟩) (W 39 rfl) (ty := (.object "java/lang/String")) (by decide) rfl rfl n_a (Or.inl ⟨by decide, by decide⟩) dd_prog_17_method_1_111 rfl ?_
  intro T14 h14 X14 W14 K14
  have f14_ := f12.same W14
  have f15 := (f13.keep K14)
  exact own_retV X14 hGe rfl dd_prog_17_method_1_114 (by decide) (by decide) ⟨rfl, ((((Keep.refl h0 [a]).trans K2 all0).trans K8 all0).trans K14 (allS (Or.inl (List.mem_of_getElem? (i := 0) rfl)) all0)), f15, f14_⟩
theorem own_nm (l : Launch) (Z : State) (a0 : Array Value) (hw : ∀ d ∈ tables_1, d.before a0 Z = true) (EWf : own_EW Z own_EL) (n0 : Nat) (a x t : Addr) (n c0 c1 c2 c3 : Int32) (h0 : Heap) (O0 : Old Z n0 h0) (n_a : n0 ≤ a) (p_E : Exa Z h0 a "com/example/periwinkle/periwinkle/Name") (p_F : Fld Z h0 a "com/example/periwinkle/periwinkle/Name" "value" "Ljava/lang/String;" .null) (p_S : own_Str Z h0 x t (own_mk n c0 c1 c2 c3)) (p_n : own_14 n) (a_0 : own_Alw c0) (a_1 : own_Alw c1) (a_2 : own_Alw c2) (a_3 : own_Alw c3) (CS : own_CS Z) (SF : own_SF Z) :
    own_Met l Z own_EL [] n0 (⟨"com/example/periwinkle/periwinkle/Name", "<init>", "(Ljava/lang/String;)V"⟩ : MethodName) prog_17_method_1_code 3 none ({ frames := 5, cells := 10, slots := 104, locals := 71 } : Room) #[.ref a, .ref x] h0 (fun v h => v = none ∧ Keep h0 h [a] ∧ Exa Z h a "com/example/periwinkle/periwinkle/Name" ∧ Fld Z h a "com/example/periwinkle/periwinkle/Name" "value" "Ljava/lang/String;" (.ref x)) := by
  rcases p_n with rfl | rfl | rfl | rfl
  · exact own_nm1 l Z a0 hw EWf n0 a x t c0 h0 O0 n_a p_E p_F p_S a_0 CS SF
  · exact own_nm2 l Z a0 hw EWf n0 a x t c0 c1 h0 O0 n_a p_E p_F p_S a_0 a_1 CS SF
  · exact own_nm3 l Z a0 hw EWf n0 a x t c0 c1 c2 h0 O0 n_a p_E p_F p_S a_0 a_1 a_2 CS SF
  · exact own_nm4 l Z a0 hw EWf n0 a x t c0 c1 c2 c3 h0 O0 n_a p_E p_F p_S a_0 a_1 a_2 a_3 CS SF
theorem dd_prog_17_method_3_0 : decode prog_17_method_3_code 0 = .ok (.aload_n 1, 1) := by decide +kernel
theorem dd_prog_17_method_3_1 : decode prog_17_method_3_code 1 = .ok (.instanceof 37, 3) := by decide +kernel
theorem dd_prog_17_method_3_4 : decode prog_17_method_3_code 4 = .ok (.ifCond .eq 24, 3) := by decide +kernel
theorem dd_prog_17_method_3_28 : decode prog_17_method_3_code 28 = .ok (.iconst 0, 1) := by decide +kernel
theorem dd_prog_17_method_3_29 : decode prog_17_method_3_code 29 = .ok (.ireturn, 1) := by decide +kernel
theorem ef_own_eqn (m : MethodId) (x0 : Addr) : entryFrame m #[(.ref x0), .null] 2 = mkF m 0 #[.val (.ref x0), .val .null] [] := by first | (simp [entryFrame, mkF, argsToLocals, Value.category]; done) | rfl
set_option maxRecDepth 65536 in
set_option maxHeartbeats 40000000 in
theorem own_eqn (l : Launch) (Z : State) (a0 : Array Value) (hw : ∀ d ∈ tables_1, d.before a0 Z = true) (EWf : own_EW Z own_EL) (n0 : Nat) (a : Addr) (h0 : Heap) (O0 : Old Z n0 h0)  :
    own_Met l Z own_EL [] n0 (⟨"com/example/periwinkle/periwinkle/Name", "equals", "(Ljava/lang/Object;)Z"⟩ : MethodName) prog_17_method_3_code 2 (some .boolean) ({ frames := 0, cells := 0, slots := 0, locals := 0 } : Room) #[(.ref a), .null] h0 (fun v h => v = some (.int 0) ∧ h0 = h) := by
  refine own_enter (own := "com/example/periwinkle/periwinkle/Name") (nm := "equals") (plainFor_of_name pn_5) rfl rfl O0 EWf ?_
  have W : ∀ (k : Nat) {d : Jvm.Cond}, tables_1[k]? = some d → d.before a0 Z = true := fun k d q => hw d (List.mem_of_getElem? q)
  intro G p e s m below meth c T0 hGe X0
  rw [ef_own_eqn m a]
  refine own_aload_n (pc' := 1) X0 dd_prog_17_method_3_0 rfl rfl rfl ?_
  refine own_instNull (pc' := 4) X0 dd_prog_17_method_3_1 rfl ?_
  refine own_ifY (pc' := 28) X0 dd_prog_17_method_3_4 ((teq rfl).1) (by decide) (by decide) ?_
  refine own_iconst (pc' := 29) X0 dd_prog_17_method_3_28 rfl (z := (0 : Int32)) (by decide) ?_
  exact own_ret X0 hGe (t := .boolean) rfl rfl (Or.inl ⟨rfl, by simp, _, rfl⟩) dd_prog_17_method_3_29 (by decide) (by decide) ⟨rfl, rfl⟩
theorem ef_own_eqx (m : MethodId) (x0 : Addr) (x1 : Addr) : entryFrame m #[(.ref x0), (.ref x1)] 2 = mkF m 0 #[.val (.ref x0), .val (.ref x1)] [] := by first | (simp [entryFrame, mkF, argsToLocals, Value.category]; done) | rfl
set_option maxRecDepth 65536 in
set_option maxHeartbeats 40000000 in
theorem own_eqx (l : Launch) (Z : State) (a0 : Array Value) (hw : ∀ d ∈ tables_1, d.before a0 Z = true) (EWf : own_EW Z own_EL) (n0 : Nat) (a b : Addr) (h0 : Heap) (O0 : Old Z n0 h0) (p_E : Exa Z h0 b "java/lang/String") :
    own_Met l Z own_EL [] n0 (⟨"com/example/periwinkle/periwinkle/Name", "equals", "(Ljava/lang/Object;)Z"⟩ : MethodName) prog_17_method_3_code 2 (some .boolean) ({ frames := 0, cells := 0, slots := 0, locals := 0 } : Room) #[(.ref a), (.ref b)] h0 (fun v h => v = some (.int 0) ∧ h0 = h) := by
  refine own_enter (own := "com/example/periwinkle/periwinkle/Name") (nm := "equals") (plainFor_of_name pn_5) rfl rfl O0 EWf ?_
  have W : ∀ (k : Nat) {d : Jvm.Cond}, tables_1[k]? = some d → d.before a0 Z = true := fun k d q => hw d (List.mem_of_getElem? q)
  intro G p e s m below meth c T0 hGe X0
  rw [ef_own_eqx m a b]
  refine own_aload_n (pc' := 1) X0 dd_prog_17_method_3_0 rfl rfl rfl ?_
  refine own_instN (pc' := 4) X0 (W 99 rfl) p_E (own_no (W 110 rfl) (W 111 rfl) (W 39 rfl) (by decide) (by decide)) dd_prog_17_method_3_1 rfl ?_
  intro T1 X1
  refine own_ifY (pc' := 28) X1 dd_prog_17_method_3_4 ((teq rfl).1) (by decide) (by decide) ?_
  refine own_iconst (pc' := 29) X1 dd_prog_17_method_3_28 rfl (z := (0 : Int32)) (by decide) ?_
  exact own_ret X1 hGe (t := .boolean) rfl rfl (Or.inl ⟨rfl, by simp, _, rfl⟩) dd_prog_17_method_3_29 (by decide) (by decide) ⟨rfl, rfl⟩
theorem dd_prog_17_method_3_7 : decode prog_17_method_3_code 7 = .ok (.aload_n 1, 1) := by decide +kernel
theorem dd_prog_17_method_3_8 : decode prog_17_method_3_code 8 = .ok (.checkcast 37, 3) := by decide +kernel
theorem dd_prog_17_method_3_11 : decode prog_17_method_3_code 11 = .ok (.getfield 60, 3) := by decide +kernel
theorem dd_prog_17_method_3_14 : decode prog_17_method_3_code 14 = .ok (.aload_n 0, 1) := by decide +kernel
theorem dd_prog_17_method_3_15 : decode prog_17_method_3_code 15 = .ok (.getfield 60, 3) := by decide +kernel
theorem dd_prog_17_method_3_18 : decode prog_17_method_3_code 18 = .ok (.invokevirtual 62, 3) := by decide +kernel
theorem pd_9 : parseMethodDescriptor "(Ljava/lang/Object;)Z" = some ⟨[(.object "java/lang/Object")], some .boolean⟩ := by decide +kernel
theorem dd_prog_17_method_3_21 : decode prog_17_method_3_code 21 = .ok (.ifCond .eq 7, 3) := by decide +kernel
theorem dd_prog_17_method_3_24 : decode prog_17_method_3_code 24 = .ok (.iconst 1, 1) := by decide +kernel
theorem dd_prog_17_method_3_25 : decode prog_17_method_3_code 25 = .ok (.goto 4, 3) := by decide +kernel
theorem ef_own_eqs (m : MethodId) (x0 : Addr) (x1 : Addr) : entryFrame m #[(.ref x0), (.ref x1)] 2 = mkF m 0 #[.val (.ref x0), .val (.ref x1)] [] := by first | (simp [entryFrame, mkF, argsToLocals, Value.category]; done) | rfl
set_option maxRecDepth 65536 in
set_option maxHeartbeats 40000000 in
theorem own_eqs (l : Launch) (Z : State) (a0 : Array Value) (hw : ∀ d ∈ tables_1, d.before a0 Z = true) (EWf : own_EW Z own_EL) (n0 : Nat) (a b x t y u : Addr) (cs ds : List Int32) (h0 : Heap) (O0 : Old Z n0 h0) (p_E : Exa Z h0 b "com/example/periwinkle/periwinkle/Name") (p_A : Fld Z h0 a "com/example/periwinkle/periwinkle/Name" "value" "Ljava/lang/String;" (.ref x)) (p_B : Fld Z h0 b "com/example/periwinkle/periwinkle/Name" "value" "Ljava/lang/String;" (.ref y)) (p_S : own_Str Z h0 x t cs) (p_T : own_Str Z h0 y u ds) (CS : own_CS Z) :
    own_Met l Z own_EL [] n0 (⟨"com/example/periwinkle/periwinkle/Name", "equals", "(Ljava/lang/Object;)Z"⟩ : MethodName) prog_17_method_3_code 2 (some .boolean) ({ frames := 2, cells := 0, slots := 0, locals := 28 } : Room) #[(.ref a), (.ref b)] h0 (fun v h => v = some (.int (if ds = cs then 1 else 0)) ∧ h0 = h) := by
  refine own_enter (own := "com/example/periwinkle/periwinkle/Name") (nm := "equals") (plainFor_of_name pn_5) rfl rfl O0 EWf ?_
  have W : ∀ (k : Nat) {d : Jvm.Cond}, tables_1[k]? = some d → d.before a0 Z = true := fun k d q => hw d (List.mem_of_getElem? q)
  intro G p e s m below meth c T0 hGe X0
  rw [ef_own_eqs m a b]
  refine own_aload_n (pc' := 1) X0 dd_prog_17_method_3_0 rfl rfl rfl ?_
  refine own_instY (pc' := 4) X0 (W 99 rfl) (Ins.self p_E) dd_prog_17_method_3_1 rfl ?_
  intro T1 X1
  refine own_ifN (pc' := 7) X1 dd_prog_17_method_3_4 rfl ((feq (by decide)).1) ?_
  refine own_aload_n (pc' := 8) X1 dd_prog_17_method_3_7 rfl rfl rfl ?_
  refine own_castY (pc' := 11) X1 (W 99 rfl) (Ins.self p_E) dd_prog_17_method_3_8 rfl ?_
  intro T2 X2
  refine own_get (pc' := 14) X2 (host := "") (Or.inl (W 92 rfl)) Via.refl p_B dd_prog_17_method_3_11 rfl ?_
  intro T3 X3
  refine own_aload_n (pc' := 15) X3 dd_prog_17_method_3_14 rfl rfl rfl ?_
  refine own_get (pc' := 18) X3 (host := "") (Or.inl (W 92 rfl)) Via.refl p_A dd_prog_17_method_3_15 rfl ?_
  intro T4 X4
  refine own_streq (pc' := 21) (W := 0) X4 (fun d hd => hw d (own_in_wordsEq d hd)) CS (W 101 rfl) (W 102 rfl) (W 104 rfl) (W 103 rfl) (W 9 rfl) p_T p_S (by decide) (by decide) (lenOf (L := [.ref x]) pd_9 rfl) rfl rfl dd_prog_17_method_3_18 rfl (by decide) (by decide) ?_
  intro T5 X5
  by_cases hc : ds = cs
  · rw [if_pos hc]
    refine own_ifN (pc' := 24) X5 dd_prog_17_method_3_21 rfl ((feq (by decide)).1) ?_
    refine own_iconst (pc' := 25) X5 dd_prog_17_method_3_24 rfl (z := (1 : Int32)) (by decide) ?_
    refine own_goto (pc' := 29) X5 dd_prog_17_method_3_25 (by decide) (by decide) ?_
    exact own_ret X5 hGe (t := .boolean) rfl rfl (Or.inl ⟨rfl, by simp, _, rfl⟩) dd_prog_17_method_3_29 (by decide) (by decide) ⟨by rw [if_pos hc], rfl⟩
  · rw [if_neg hc]
    refine own_ifY (pc' := 28) X5 dd_prog_17_method_3_21 ((teq rfl).1) (by decide) (by decide) ?_
    refine own_iconst (pc' := 29) X5 dd_prog_17_method_3_28 rfl (z := (0 : Int32)) (by decide) ?_
    exact own_ret X5 hGe (t := .boolean) rfl rfl (Or.inl ⟨rfl, by simp, _, rfl⟩) dd_prog_17_method_3_29 (by decide) (by decide) ⟨by rw [if_neg hc], rfl⟩
theorem dd_method_3_0 : decode method_3_code 0 = .ok (.iload_n 0, 1) := by decide +kernel
theorem dd_method_3_1 : decode method_3_code 1 = .ok (.iconst 1, 1) := by decide +kernel
theorem dd_method_3_2 : decode method_3_code 2 = .ok (.if_icmp .ne 18, 3) := by decide +kernel
theorem dd_method_3_5 : decode method_3_code 5 = .ok (.new 8, 3) := by decide +kernel
theorem dd_method_3_8 : decode method_3_code 8 = .ok (.dup, 1) := by decide +kernel
theorem dd_method_3_9 : decode method_3_code 9 = .ok (.iconst 1, 1) := by decide +kernel
theorem dd_method_3_10 : decode method_3_code 10 = .ok (.newarray .char, 2) := by decide +kernel
theorem dd_method_3_12 : decode method_3_code 12 = .ok (.dup, 1) := by decide +kernel
theorem dd_method_3_13 : decode method_3_code 13 = .ok (.iconst 0, 1) := by decide +kernel
theorem dd_method_3_14 : decode method_3_code 14 = .ok (.iload_n 1, 1) := by decide +kernel
theorem dd_method_3_15 : decode method_3_code 15 = .ok (.castore, 1) := by decide +kernel
theorem dd_method_3_16 : decode method_3_code 16 = .ok (.invokespecial 10, 3) := by decide +kernel
theorem pd_10 : parseMethodDescriptor "([C)V" = some ⟨[(.array .char)], none⟩ := by decide +kernel
theorem dd_method_3_19 : decode method_3_code 19 = .ok (.areturn, 1) := by decide +kernel
theorem dd_method_3_20 : decode method_3_code 20 = .ok (.iload_n 0, 1) := by decide +kernel
theorem dd_method_3_21 : decode method_3_code 21 = .ok (.iconst 2, 1) := by decide +kernel
theorem dd_method_3_22 : decode method_3_code 22 = .ok (.if_icmp .ne 22, 3) := by decide +kernel
theorem dd_method_3_25 : decode method_3_code 25 = .ok (.new 8, 3) := by decide +kernel
theorem dd_method_3_28 : decode method_3_code 28 = .ok (.dup, 1) := by decide +kernel
theorem dd_method_3_29 : decode method_3_code 29 = .ok (.iconst 2, 1) := by decide +kernel
theorem dd_method_3_30 : decode method_3_code 30 = .ok (.newarray .char, 2) := by decide +kernel
theorem dd_method_3_32 : decode method_3_code 32 = .ok (.dup, 1) := by decide +kernel
theorem dd_method_3_33 : decode method_3_code 33 = .ok (.iconst 0, 1) := by decide +kernel
theorem dd_method_3_34 : decode method_3_code 34 = .ok (.iload_n 1, 1) := by decide +kernel
theorem dd_method_3_35 : decode method_3_code 35 = .ok (.castore, 1) := by decide +kernel
theorem dd_method_3_36 : decode method_3_code 36 = .ok (.dup, 1) := by decide +kernel
theorem dd_method_3_37 : decode method_3_code 37 = .ok (.iconst 1, 1) := by decide +kernel
theorem dd_method_3_38 : decode method_3_code 38 = .ok (.iload_n 2, 1) := by decide +kernel
theorem dd_method_3_39 : decode method_3_code 39 = .ok (.castore, 1) := by decide +kernel
theorem dd_method_3_40 : decode method_3_code 40 = .ok (.invokespecial 10, 3) := by decide +kernel
theorem dd_method_3_43 : decode method_3_code 43 = .ok (.areturn, 1) := by decide +kernel
theorem dd_method_3_44 : decode method_3_code 44 = .ok (.iload_n 0, 1) := by decide +kernel
theorem dd_method_3_45 : decode method_3_code 45 = .ok (.iconst 3, 1) := by decide +kernel
theorem dd_method_3_46 : decode method_3_code 46 = .ok (.if_icmp .ne 26, 3) := by decide +kernel
theorem dd_method_3_49 : decode method_3_code 49 = .ok (.new 8, 3) := by decide +kernel
theorem dd_method_3_52 : decode method_3_code 52 = .ok (.dup, 1) := by decide +kernel
theorem dd_method_3_53 : decode method_3_code 53 = .ok (.iconst 3, 1) := by decide +kernel
theorem dd_method_3_54 : decode method_3_code 54 = .ok (.newarray .char, 2) := by decide +kernel
theorem dd_method_3_56 : decode method_3_code 56 = .ok (.dup, 1) := by decide +kernel
theorem dd_method_3_57 : decode method_3_code 57 = .ok (.iconst 0, 1) := by decide +kernel
theorem dd_method_3_58 : decode method_3_code 58 = .ok (.iload_n 1, 1) := by decide +kernel
theorem dd_method_3_59 : decode method_3_code 59 = .ok (.castore, 1) := by decide +kernel
theorem dd_method_3_60 : decode method_3_code 60 = .ok (.dup, 1) := by decide +kernel
theorem dd_method_3_61 : decode method_3_code 61 = .ok (.iconst 1, 1) := by decide +kernel
theorem dd_method_3_62 : decode method_3_code 62 = .ok (.iload_n 2, 1) := by decide +kernel
theorem dd_method_3_63 : decode method_3_code 63 = .ok (.castore, 1) := by decide +kernel
theorem dd_method_3_64 : decode method_3_code 64 = .ok (.dup, 1) := by decide +kernel
theorem dd_method_3_65 : decode method_3_code 65 = .ok (.iconst 2, 1) := by decide +kernel
theorem dd_method_3_66 : decode method_3_code 66 = .ok (.iload_n 3, 1) := by decide +kernel
theorem dd_method_3_67 : decode method_3_code 67 = .ok (.castore, 1) := by decide +kernel
theorem dd_method_3_68 : decode method_3_code 68 = .ok (.invokespecial 10, 3) := by decide +kernel
theorem dd_method_3_71 : decode method_3_code 71 = .ok (.areturn, 1) := by decide +kernel
theorem dd_method_3_72 : decode method_3_code 72 = .ok (.new 8, 3) := by decide +kernel
theorem dd_method_3_75 : decode method_3_code 75 = .ok (.dup, 1) := by decide +kernel
theorem dd_method_3_76 : decode method_3_code 76 = .ok (.iconst 4, 1) := by decide +kernel
theorem dd_method_3_77 : decode method_3_code 77 = .ok (.newarray .char, 2) := by decide +kernel
theorem dd_method_3_79 : decode method_3_code 79 = .ok (.dup, 1) := by decide +kernel
theorem dd_method_3_80 : decode method_3_code 80 = .ok (.iconst 0, 1) := by decide +kernel
theorem dd_method_3_81 : decode method_3_code 81 = .ok (.iload_n 1, 1) := by decide +kernel
theorem dd_method_3_82 : decode method_3_code 82 = .ok (.castore, 1) := by decide +kernel
theorem dd_method_3_83 : decode method_3_code 83 = .ok (.dup, 1) := by decide +kernel
theorem dd_method_3_84 : decode method_3_code 84 = .ok (.iconst 1, 1) := by decide +kernel
theorem dd_method_3_85 : decode method_3_code 85 = .ok (.iload_n 2, 1) := by decide +kernel
theorem dd_method_3_86 : decode method_3_code 86 = .ok (.castore, 1) := by decide +kernel
theorem dd_method_3_87 : decode method_3_code 87 = .ok (.dup, 1) := by decide +kernel
theorem dd_method_3_88 : decode method_3_code 88 = .ok (.iconst 2, 1) := by decide +kernel
theorem dd_method_3_89 : decode method_3_code 89 = .ok (.iload_n 3, 1) := by decide +kernel
theorem dd_method_3_90 : decode method_3_code 90 = .ok (.castore, 1) := by decide +kernel
theorem dd_method_3_91 : decode method_3_code 91 = .ok (.dup, 1) := by decide +kernel
theorem dd_method_3_92 : decode method_3_code 92 = .ok (.iconst 3, 1) := by decide +kernel
theorem dd_method_3_93 : decode method_3_code 93 = .ok (.iload 4, 2) := by decide +kernel
theorem dd_method_3_95 : decode method_3_code 95 = .ok (.castore, 1) := by decide +kernel
theorem dd_method_3_96 : decode method_3_code 96 = .ok (.invokespecial 10, 3) := by decide +kernel
theorem dd_method_3_99 : decode method_3_code 99 = .ok (.areturn, 1) := by decide +kernel
theorem ef_own_make (m : MethodId) (x0 : Int32) (x1 : Int32) (x2 : Int32) (x3 : Int32) (x4 : Int32) : entryFrame m #[(.int x0), (.int x1), (.int x2), (.int x3), (.int x4)] 5 = mkF m 0 #[.val (.int x0), .val (.int x1), .val (.int x2), .val (.int x3), .val (.int x4)] [] := by first | (simp [entryFrame, mkF, argsToLocals, Value.category]; done) | rfl
set_option maxRecDepth 65536 in
set_option maxHeartbeats 40000000 in
theorem own_make (l : Launch) (Z : State) (a0 : Array Value) (hw : ∀ d ∈ tables_1, d.before a0 Z = true) (EWf : own_EW Z own_EL) (n0 : Nat) (n c0 c1 c2 c3 : Int32) (h0 : Heap) (O0 : Old Z n0 h0) (p_n : own_14 n) (a_0 : own_Alw c0) (a_1 : own_Alw c1) (a_2 : own_Alw c2) (a_3 : own_Alw c3) (CS : own_CS Z) :
    own_Met l Z own_EL [] n0 (⟨"com/example/periwinkle/periwinkle/NameEqualsPinLaw", "make", "(ICCCC)Ljava/lang/String;"⟩ : MethodName) method_3_code 5 (some (.object "java/lang/String")) ({ frames := 4, cells := 3, slots := 12, locals := 66 } : Room) #[(.int n), (.int c0), (.int c1), (.int c2), (.int c3)] h0 (fun v h => ∃ x t : Addr, v = some (.ref x) ∧ Keep h0 h [] ∧ own_Str Z h x t (own_mk n c0 c1 c2 c3)) := by
  refine own_enter (own := "com/example/periwinkle/periwinkle/NameEqualsPinLaw") (nm := "make") (plainFor_of_name pn_0) rfl rfl O0 EWf ?_
  have W : ∀ (k : Nat) {d : Jvm.Cond}, tables_1[k]? = some d → d.before a0 Z = true := fun k d q => hw d (List.mem_of_getElem? q)
  intro G p e s m below meth c T0 hGe X0
  rw [ef_own_make m n c0 c1 c2 c3]
  rcases p_n with rfl | rfl | rfl | rfl
  · refine own_iload_n (pc' := 1) X0 dd_method_3_0 rfl rfl ?_
    refine own_iconst (pc' := 2) X0 dd_method_3_1 rfl (z := (1 : Int32)) (by decide) ?_
    refine own_icmpN (pc' := 5) X0 dd_method_3_2 rfl ((teq rfl).2) ?_
    refine own_newK (pc' := 8) (cells' := 1) (slots' := 4) X0 (W 8 rfl) (W 9 rfl) (W 10 rfl) dd_method_3_5 rfl rfl rfl (by decide) (by decide) ?_
    intro T1 h1 a1 g1 X1 K1 E1 D1 U1
    have n_a1 : n0 ≤ a1 := by rw [g1]; exact own_n0 X0
    have F1_coder : Fld Z h1 a1 "java/lang/String" "coder" "B" (.int (0 : Int32)) := D1 (Or.inr (W 35 rfl)) (ty := .byte) (by decide)
    have F1_value : Fld Z h1 a1 "java/lang/String" "value" "[B" .null := D1 (Or.inr (W 37 rfl)) (ty := (.array .byte)) (by decide)
    refine own_dup (pc' := 9) X1 dd_method_3_8 rfl rfl ?_
    refine own_iconst (pc' := 10) X1 dd_method_3_9 rfl (z := (1 : Int32)) (by decide) ?_
    refine own_newarray (pc' := 12) (cells' := 2) (slots' := 5) (n := 1) (cap := 1) (dv := (.int 0)) X1 (W 11 rfl) rfl rfl (by decide) (by decide) dd_method_3_10 rfl rfl (by decide) (by decide) rfl (by decide) (by decide) ?_
    intro T2 h2 a2 k2 g2 X2 K2 A2
    have n_a2 : n0 ≤ a2 := by rw [g2]; exact own_n0 X1
    have A2' : own_Arr Z h2 a2 k2 .char [(.int 0)] := A2
    refine own_dup (pc' := 13) X2 dd_method_3_12 rfl rfl ?_
    refine own_iconst (pc' := 14) X2 dd_method_3_13 rfl (z := (0 : Int32)) (by decide) ?_
    refine own_iload_n (pc' := 15) X2 dd_method_3_14 rfl rfl ?_
    refine own_castore (pc' := 16) (i := 0) (y := c0) X2 A2' (by decide) (Nat.le_of_ble_eq_true rfl) a_0.n n_a2 dd_method_3_15 rfl ?_
    intro T3 h3 X3 K3 A3
    have A3' : own_Arr Z h3 a2 k2 .char [(.int c0)] := A3
    have f4 := ((E1.keep K2).keep K3)
    have ne_a1_a2 : a1 ≠ a2 := own_ne E1.lt (Nat.le_refl _) (Nat.le_of_eq (Eq.symm g2))
    have f5 := ((F1_value.keep K2 nin0).keep K3 (ninS ne_a1_a2 nin0))
    have f6 := ((F1_coder.keep K2 nin0).keep K3 (ninS ne_a1_a2 nin0))
    refine own_strinit (pc' := 19) (cells' := 3) (slots' := 6) (W := 1) (n := 1) (cs := [c0]) X3 (fun d hd => hw d (own_in_words d hd)) CS (W 12 rfl) (W 13 rfl) (W 14 rfl) (W 9 rfl) f4 f5 f6 A3' n_a1 (List.mem_of_getElem? (i := 0) rfl) rfl (by decide) (by decide) (own_aS a_0.c own_a0) (by decide) (by decide) (lenOf (L := [.ref a2]) pd_10 rfl) rfl rfl dd_method_3_16 rfl rfl rfl (by decide) (by decide) ?_
    intro T7 h7 t7 X7 K7 z7 S7
    have age_a2 : h0.size ≤ a2 := Nat.le_trans (Nat.le_trans K1.1 (Nat.le_refl _)) (Nat.le_of_eq (Eq.symm g2))
    have age_a1 : h0.size ≤ a1 := Nat.le_trans (Nat.le_refl _) (Nat.le_of_eq (Eq.symm g1))
    exact own_ret X7 hGe (t := (.object "java/lang/String")) rfl rfl (Or.inr (Or.inr (Or.inr (Or.inr ⟨rfl, rfl, rfl⟩)))) dd_method_3_19 (by decide) (by decide) ⟨a1, t7, rfl, (((((Keep.refl h0 []).trans K1 all0).trans K2 all0).trans K3 (allS (Or.inr age_a2) all0)).trans K7 (allS (Or.inr age_a1) all0)), S7⟩
  · refine own_iload_n (pc' := 1) X0 dd_method_3_0 rfl rfl ?_
    refine own_iconst (pc' := 2) X0 dd_method_3_1 rfl (z := (1 : Int32)) (by decide) ?_
    refine own_icmpY (pc' := 20) X0 dd_method_3_2 ((feq (by decide)).2) (by decide) (by decide) ?_
    refine own_iload_n (pc' := 21) X0 dd_method_3_20 rfl rfl ?_
    refine own_iconst (pc' := 22) X0 dd_method_3_21 rfl (z := (2 : Int32)) (by decide) ?_
    refine own_icmpN (pc' := 25) X0 dd_method_3_22 rfl ((teq rfl).2) ?_
    refine own_newK (pc' := 28) (cells' := 1) (slots' := 4) X0 (W 8 rfl) (W 9 rfl) (W 10 rfl) dd_method_3_25 rfl rfl rfl (by decide) (by decide) ?_
    intro T8 h8 a8 g8 X8 K8 E8 D8 U8
    have n_a8 : n0 ≤ a8 := by rw [g8]; exact own_n0 X0
    have F8_coder : Fld Z h8 a8 "java/lang/String" "coder" "B" (.int (0 : Int32)) := D8 (Or.inr (W 35 rfl)) (ty := .byte) (by decide)
    have F8_value : Fld Z h8 a8 "java/lang/String" "value" "[B" .null := D8 (Or.inr (W 37 rfl)) (ty := (.array .byte)) (by decide)
    refine own_dup (pc' := 29) X8 dd_method_3_28 rfl rfl ?_
    refine own_iconst (pc' := 30) X8 dd_method_3_29 rfl (z := (2 : Int32)) (by decide) ?_
    refine own_newarray (pc' := 32) (cells' := 2) (slots' := 6) (n := 2) (cap := 2) (dv := (.int 0)) X8 (W 11 rfl) rfl rfl (by decide) (by decide) dd_method_3_30 rfl rfl (by decide) (by decide) rfl (by decide) (by decide) ?_
    intro T9 h9 a9 k9 g9 X9 K9 A9
    have n_a9 : n0 ≤ a9 := by rw [g9]; exact own_n0 X8
    have A9' : own_Arr Z h9 a9 k9 .char [(.int 0), (.int 0)] := A9
    refine own_dup (pc' := 33) X9 dd_method_3_32 rfl rfl ?_
    refine own_iconst (pc' := 34) X9 dd_method_3_33 rfl (z := (0 : Int32)) (by decide) ?_
    refine own_iload_n (pc' := 35) X9 dd_method_3_34 rfl rfl ?_
    refine own_castore (pc' := 36) (i := 0) (y := c0) X9 A9' (by decide) (Nat.le_of_ble_eq_true rfl) a_0.n n_a9 dd_method_3_35 rfl ?_
    intro T10 h10 X10 K10 A10
    have A10' : own_Arr Z h10 a9 k9 .char [(.int c0), (.int 0)] := A10
    refine own_dup (pc' := 37) X10 dd_method_3_36 rfl rfl ?_
    refine own_iconst (pc' := 38) X10 dd_method_3_37 rfl (z := (1 : Int32)) (by decide) ?_
    refine own_iload_n (pc' := 39) X10 dd_method_3_38 rfl rfl ?_
    refine own_castore (pc' := 40) (i := 1) (y := c1) X10 A10' (by decide) (Nat.le_of_ble_eq_true rfl) a_1.n n_a9 dd_method_3_39 rfl ?_
    intro T11 h11 X11 K11 A11
    have A11' : own_Arr Z h11 a9 k9 .char [(.int c0), (.int c1)] := A11
    have f12 := (((E8.keep K9).keep K10).keep K11)
    have ne_a8_a9 : a8 ≠ a9 := own_ne E8.lt (Nat.le_refl _) (Nat.le_of_eq (Eq.symm g9))
    have f13 := (((F8_value.keep K9 nin0).keep K10 (ninS ne_a8_a9 nin0)).keep K11 (ninS ne_a8_a9 nin0))
    have f14 := (((F8_coder.keep K9 nin0).keep K10 (ninS ne_a8_a9 nin0)).keep K11 (ninS ne_a8_a9 nin0))
    refine own_strinit (pc' := 43) (cells' := 3) (slots' := 8) (W := 1) (n := 2) (cs := [c0, c1]) X11 (fun d hd => hw d (own_in_words d hd)) CS (W 12 rfl) (W 13 rfl) (W 14 rfl) (W 9 rfl) f12 f13 f14 A11' n_a8 (List.mem_of_getElem? (i := 0) rfl) rfl (by decide) (by decide) (own_aS a_0.c (own_aS a_1.c own_a0)) (by decide) (by decide) (lenOf (L := [.ref a9]) pd_10 rfl) rfl rfl dd_method_3_40 rfl rfl rfl (by decide) (by decide) ?_
    intro T15 h15 t15 X15 K15 z15 S15
    have age_a9 : h0.size ≤ a9 := Nat.le_trans (Nat.le_trans K8.1 (Nat.le_refl _)) (Nat.le_of_eq (Eq.symm g9))
    have age_a8 : h0.size ≤ a8 := Nat.le_trans (Nat.le_refl _) (Nat.le_of_eq (Eq.symm g8))
    exact own_ret X15 hGe (t := (.object "java/lang/String")) rfl rfl (Or.inr (Or.inr (Or.inr (Or.inr ⟨rfl, rfl, rfl⟩)))) dd_method_3_43 (by decide) (by decide) ⟨a8, t15, rfl, ((((((Keep.refl h0 []).trans K8 all0).trans K9 all0).trans K10 (allS (Or.inr age_a9) all0)).trans K11 (allS (Or.inr age_a9) all0)).trans K15 (allS (Or.inr age_a8) all0)), S15⟩
  · refine own_iload_n (pc' := 1) X0 dd_method_3_0 rfl rfl ?_
    refine own_iconst (pc' := 2) X0 dd_method_3_1 rfl (z := (1 : Int32)) (by decide) ?_
    refine own_icmpY (pc' := 20) X0 dd_method_3_2 ((feq (by decide)).2) (by decide) (by decide) ?_
    refine own_iload_n (pc' := 21) X0 dd_method_3_20 rfl rfl ?_
    refine own_iconst (pc' := 22) X0 dd_method_3_21 rfl (z := (2 : Int32)) (by decide) ?_
    refine own_icmpY (pc' := 44) X0 dd_method_3_22 ((feq (by decide)).2) (by decide) (by decide) ?_
    refine own_iload_n (pc' := 45) X0 dd_method_3_44 rfl rfl ?_
    refine own_iconst (pc' := 46) X0 dd_method_3_45 rfl (z := (3 : Int32)) (by decide) ?_
    refine own_icmpN (pc' := 49) X0 dd_method_3_46 rfl ((teq rfl).2) ?_
    refine own_newK (pc' := 52) (cells' := 1) (slots' := 4) X0 (W 8 rfl) (W 9 rfl) (W 10 rfl) dd_method_3_49 rfl rfl rfl (by decide) (by decide) ?_
    intro T16 h16 a16 g16 X16 K16 E16 D16 U16
    have n_a16 : n0 ≤ a16 := by rw [g16]; exact own_n0 X0
    have F16_coder : Fld Z h16 a16 "java/lang/String" "coder" "B" (.int (0 : Int32)) := D16 (Or.inr (W 35 rfl)) (ty := .byte) (by decide)
    have F16_value : Fld Z h16 a16 "java/lang/String" "value" "[B" .null := D16 (Or.inr (W 37 rfl)) (ty := (.array .byte)) (by decide)
    refine own_dup (pc' := 53) X16 dd_method_3_52 rfl rfl ?_
    refine own_iconst (pc' := 54) X16 dd_method_3_53 rfl (z := (3 : Int32)) (by decide) ?_
    refine own_newarray (pc' := 56) (cells' := 2) (slots' := 7) (n := 3) (cap := 3) (dv := (.int 0)) X16 (W 11 rfl) rfl rfl (by decide) (by decide) dd_method_3_54 rfl rfl (by decide) (by decide) rfl (by decide) (by decide) ?_
    intro T17 h17 a17 k17 g17 X17 K17 A17
    have n_a17 : n0 ≤ a17 := by rw [g17]; exact own_n0 X16
    have A17' : own_Arr Z h17 a17 k17 .char [(.int 0), (.int 0), (.int 0)] := A17
    refine own_dup (pc' := 57) X17 dd_method_3_56 rfl rfl ?_
    refine own_iconst (pc' := 58) X17 dd_method_3_57 rfl (z := (0 : Int32)) (by decide) ?_
    refine own_iload_n (pc' := 59) X17 dd_method_3_58 rfl rfl ?_
    refine own_castore (pc' := 60) (i := 0) (y := c0) X17 A17' (by decide) (Nat.le_of_ble_eq_true rfl) a_0.n n_a17 dd_method_3_59 rfl ?_
    intro T18 h18 X18 K18 A18
    have A18' : own_Arr Z h18 a17 k17 .char [(.int c0), (.int 0), (.int 0)] := A18
    refine own_dup (pc' := 61) X18 dd_method_3_60 rfl rfl ?_
    refine own_iconst (pc' := 62) X18 dd_method_3_61 rfl (z := (1 : Int32)) (by decide) ?_
    refine own_iload_n (pc' := 63) X18 dd_method_3_62 rfl rfl ?_
    refine own_castore (pc' := 64) (i := 1) (y := c1) X18 A18' (by decide) (Nat.le_of_ble_eq_true rfl) a_1.n n_a17 dd_method_3_63 rfl ?_
    intro T19 h19 X19 K19 A19
    have A19' : own_Arr Z h19 a17 k17 .char [(.int c0), (.int c1), (.int 0)] := A19
    refine own_dup (pc' := 65) X19 dd_method_3_64 rfl rfl ?_
    refine own_iconst (pc' := 66) X19 dd_method_3_65 rfl (z := (2 : Int32)) (by decide) ?_
    refine own_iload_n (pc' := 67) X19 dd_method_3_66 rfl rfl ?_
    refine own_castore (pc' := 68) (i := 2) (y := c2) X19 A19' (by decide) (Nat.le_of_ble_eq_true rfl) a_2.n n_a17 dd_method_3_67 rfl ?_
    intro T20 h20 X20 K20 A20
    have A20' : own_Arr Z h20 a17 k17 .char [(.int c0), (.int c1), (.int c2)] := A20
    have f21 := ((((E16.keep K17).keep K18).keep K19).keep K20)
    have ne_a16_a17 : a16 ≠ a17 := own_ne E16.lt (Nat.le_refl _) (Nat.le_of_eq (Eq.symm g17))
    have f22 := ((((F16_value.keep K17 nin0).keep K18 (ninS ne_a16_a17 nin0)).keep K19 (ninS ne_a16_a17 nin0)).keep K20 (ninS ne_a16_a17 nin0))
    have f23 := ((((F16_coder.keep K17 nin0).keep K18 (ninS ne_a16_a17 nin0)).keep K19 (ninS ne_a16_a17 nin0)).keep K20 (ninS ne_a16_a17 nin0))
    refine own_strinit (pc' := 71) (cells' := 3) (slots' := 10) (W := 1) (n := 3) (cs := [c0, c1, c2]) X20 (fun d hd => hw d (own_in_words d hd)) CS (W 12 rfl) (W 13 rfl) (W 14 rfl) (W 9 rfl) f21 f22 f23 A20' n_a16 (List.mem_of_getElem? (i := 0) rfl) rfl (by decide) (by decide) (own_aS a_0.c (own_aS a_1.c (own_aS a_2.c own_a0))) (by decide) (by decide) (lenOf (L := [.ref a17]) pd_10 rfl) rfl rfl dd_method_3_68 rfl rfl rfl (by decide) (by decide) ?_
    intro T24 h24 t24 X24 K24 z24 S24
    have age_a17 : h0.size ≤ a17 := Nat.le_trans (Nat.le_trans K16.1 (Nat.le_refl _)) (Nat.le_of_eq (Eq.symm g17))
    have age_a16 : h0.size ≤ a16 := Nat.le_trans (Nat.le_refl _) (Nat.le_of_eq (Eq.symm g16))
    exact own_ret X24 hGe (t := (.object "java/lang/String")) rfl rfl (Or.inr (Or.inr (Or.inr (Or.inr ⟨rfl, rfl, rfl⟩)))) dd_method_3_71 (by decide) (by decide) ⟨a16, t24, rfl, (((((((Keep.refl h0 []).trans K16 all0).trans K17 all0).trans K18 (allS (Or.inr age_a17) all0)).trans K19 (allS (Or.inr age_a17) all0)).trans K20 (allS (Or.inr age_a17) all0)).trans K24 (allS (Or.inr age_a16) all0)), S24⟩
  · refine own_iload_n (pc' := 1) X0 dd_method_3_0 rfl rfl ?_
    refine own_iconst (pc' := 2) X0 dd_method_3_1 rfl (z := (1 : Int32)) (by decide) ?_
    refine own_icmpY (pc' := 20) X0 dd_method_3_2 ((feq (by decide)).2) (by decide) (by decide) ?_
    refine own_iload_n (pc' := 21) X0 dd_method_3_20 rfl rfl ?_
    refine own_iconst (pc' := 22) X0 dd_method_3_21 rfl (z := (2 : Int32)) (by decide) ?_
    refine own_icmpY (pc' := 44) X0 dd_method_3_22 ((feq (by decide)).2) (by decide) (by decide) ?_
    refine own_iload_n (pc' := 45) X0 dd_method_3_44 rfl rfl ?_
    refine own_iconst (pc' := 46) X0 dd_method_3_45 rfl (z := (3 : Int32)) (by decide) ?_
    refine own_icmpY (pc' := 72) X0 dd_method_3_46 ((feq (by decide)).2) (by decide) (by decide) ?_
    refine own_newK (pc' := 75) (cells' := 1) (slots' := 4) X0 (W 8 rfl) (W 9 rfl) (W 10 rfl) dd_method_3_72 rfl rfl rfl (by decide) (by decide) ?_
    intro T25 h25 a25 g25 X25 K25 E25 D25 U25
    have n_a25 : n0 ≤ a25 := by rw [g25]; exact own_n0 X0
    have F25_coder : Fld Z h25 a25 "java/lang/String" "coder" "B" (.int (0 : Int32)) := D25 (Or.inr (W 35 rfl)) (ty := .byte) (by decide)
    have F25_value : Fld Z h25 a25 "java/lang/String" "value" "[B" .null := D25 (Or.inr (W 37 rfl)) (ty := (.array .byte)) (by decide)
    refine own_dup (pc' := 76) X25 dd_method_3_75 rfl rfl ?_
    refine own_iconst (pc' := 77) X25 dd_method_3_76 rfl (z := (4 : Int32)) (by decide) ?_
    refine own_newarray (pc' := 79) (cells' := 2) (slots' := 8) (n := 4) (cap := 4) (dv := (.int 0)) X25 (W 11 rfl) rfl rfl (by decide) (by decide) dd_method_3_77 rfl rfl (by decide) (by decide) rfl (by decide) (by decide) ?_
    intro T26 h26 a26 k26 g26 X26 K26 A26
    have n_a26 : n0 ≤ a26 := by rw [g26]; exact own_n0 X25
    have A26' : own_Arr Z h26 a26 k26 .char [(.int 0), (.int 0), (.int 0), (.int 0)] := A26
    refine own_dup (pc' := 80) X26 dd_method_3_79 rfl rfl ?_
    refine own_iconst (pc' := 81) X26 dd_method_3_80 rfl (z := (0 : Int32)) (by decide) ?_
    refine own_iload_n (pc' := 82) X26 dd_method_3_81 rfl rfl ?_
    refine own_castore (pc' := 83) (i := 0) (y := c0) X26 A26' (by decide) (Nat.le_of_ble_eq_true rfl) a_0.n n_a26 dd_method_3_82 rfl ?_
    intro T27 h27 X27 K27 A27
    have A27' : own_Arr Z h27 a26 k26 .char [(.int c0), (.int 0), (.int 0), (.int 0)] := A27
    refine own_dup (pc' := 84) X27 dd_method_3_83 rfl rfl ?_
    refine own_iconst (pc' := 85) X27 dd_method_3_84 rfl (z := (1 : Int32)) (by decide) ?_
    refine own_iload_n (pc' := 86) X27 dd_method_3_85 rfl rfl ?_
    refine own_castore (pc' := 87) (i := 1) (y := c1) X27 A27' (by decide) (Nat.le_of_ble_eq_true rfl) a_1.n n_a26 dd_method_3_86 rfl ?_
    intro T28 h28 X28 K28 A28
    have A28' : own_Arr Z h28 a26 k26 .char [(.int c0), (.int c1), (.int 0), (.int 0)] := A28
    refine own_dup (pc' := 88) X28 dd_method_3_87 rfl rfl ?_
    refine own_iconst (pc' := 89) X28 dd_method_3_88 rfl (z := (2 : Int32)) (by decide) ?_
    refine own_iload_n (pc' := 90) X28 dd_method_3_89 rfl rfl ?_
    refine own_castore (pc' := 91) (i := 2) (y := c2) X28 A28' (by decide) (Nat.le_of_ble_eq_true rfl) a_2.n n_a26 dd_method_3_90 rfl ?_
    intro T29 h29 X29 K29 A29
    have A29' : own_Arr Z h29 a26 k26 .char [(.int c0), (.int c1), (.int c2), (.int 0)] := A29
    refine own_dup (pc' := 92) X29 dd_method_3_91 rfl rfl ?_
    refine own_iconst (pc' := 93) X29 dd_method_3_92 rfl (z := (3 : Int32)) (by decide) ?_
    refine own_iload (pc' := 95) X29 dd_method_3_93 rfl rfl ?_
    refine own_castore (pc' := 96) (i := 3) (y := c3) X29 A29' (by decide) (Nat.le_of_ble_eq_true rfl) a_3.n n_a26 dd_method_3_95 rfl ?_
    intro T30 h30 X30 K30 A30
    have A30' : own_Arr Z h30 a26 k26 .char [(.int c0), (.int c1), (.int c2), (.int c3)] := A30
    have f31 := (((((E25.keep K26).keep K27).keep K28).keep K29).keep K30)
    have ne_a25_a26 : a25 ≠ a26 := own_ne E25.lt (Nat.le_refl _) (Nat.le_of_eq (Eq.symm g26))
    have f32 := (((((F25_value.keep K26 nin0).keep K27 (ninS ne_a25_a26 nin0)).keep K28 (ninS ne_a25_a26 nin0)).keep K29 (ninS ne_a25_a26 nin0)).keep K30 (ninS ne_a25_a26 nin0))
    have f33 := (((((F25_coder.keep K26 nin0).keep K27 (ninS ne_a25_a26 nin0)).keep K28 (ninS ne_a25_a26 nin0)).keep K29 (ninS ne_a25_a26 nin0)).keep K30 (ninS ne_a25_a26 nin0))
    refine own_strinit (pc' := 99) (cells' := 3) (slots' := 12) (W := 1) (n := 4) (cs := [c0, c1, c2, c3]) X30 (fun d hd => hw d (own_in_words d hd)) CS (W 12 rfl) (W 13 rfl) (W 14 rfl) (W 9 rfl) f31 f32 f33 A30' n_a25 (List.mem_of_getElem? (i := 0) rfl) rfl (by decide) (by decide) (own_aS a_0.c (own_aS a_1.c (own_aS a_2.c (own_aS a_3.c own_a0)))) (by decide) (by decide) (lenOf (L := [.ref a26]) pd_10 rfl) rfl rfl dd_method_3_96 rfl rfl rfl (by decide) (by decide) ?_
    intro T34 h34 t34 X34 K34 z34 S34
    have age_a26 : h0.size ≤ a26 := Nat.le_trans (Nat.le_trans K25.1 (Nat.le_refl _)) (Nat.le_of_eq (Eq.symm g26))
    have age_a25 : h0.size ≤ a25 := Nat.le_trans (Nat.le_refl _) (Nat.le_of_eq (Eq.symm g25))
    exact own_ret X34 hGe (t := (.object "java/lang/String")) rfl rfl (Or.inr (Or.inr (Or.inr (Or.inr ⟨rfl, rfl, rfl⟩)))) dd_method_3_99 (by decide) (by decide) ⟨a25, t34, rfl, ((((((((Keep.refl h0 []).trans K25 all0).trans K26 all0).trans K27 (allS (Or.inr age_a26) all0)).trans K28 (allS (Or.inr age_a26) all0)).trans K29 (allS (Or.inr age_a26) all0)).trans K30 (allS (Or.inr age_a26) all0)).trans K34 (allS (Or.inr age_a25) all0)), S34⟩
theorem pd_11 : parseMethodDescriptor "(Ljava/lang/String;)V" = some ⟨[(.object "java/lang/String")], none⟩ := by decide +kernel
set_option maxRecDepth 65536 in
set_option maxHeartbeats 40000000 in
theorem own_290 {G : State → JFrame → Prop} {p : Program} {l : Launch} {e : Env} {s0 s : State} {m : MethodId} {args : Array Value} {below : List Frame} {meth : Method} {c : Code} {Z : State} {a0 : Array Value} {n0 : Nat} {T0 : State} {h0 : Heap} (hw : ∀ d ∈ tables_1, d.before a0 Z = true) (EWf : own_EW Z own_EL) (i0 i1 i2 i3 : Int32) (la md lb aA aB aC aD bA bB bC bD : Int32) (x t y u : Addr) (z : Int32)
    (X0 : own_At G p l e room_1 s0 s own_EL [] m args below meth c Z n0 "com/example/periwinkle/periwinkle/NameEqualsPinLaw" "law" code maxLocals ret T0 h0 6 24) (hGe : G = own_Fin p e below s0 own_EL Z n0 (fun v h => v = some (.int 1)) room_1.cells room_1.slots) (CS : own_CS Z) (SF : own_SF Z) (p_la : own_14 la) (p_aA : own_Alw aA) (p_aB : own_Alw aB) (p_aC : own_Alw aC) (p_aD : own_Alw aD) (p_lb : own_14 lb) (p_bA : own_Alw bA) (p_bB : own_Alw bB) (p_bC : own_Alw bC) (p_bD : own_Alw bD) (p_S : own_Str Z h0 x t (own_mk la aA aB aC aD)) (p_T : own_Str Z h0 y u (own_mk lb bA bB bC bD)) (p_z : z = own_ex la lb aA aB aC aD bA bB bC bD) :
    G T0 (mkF m 290 #[.val (.int i0), .val (.int i1), .val (.int i2), .val (.int i3), .val (.int la), .val (.int aA), .val (.int aB), .val (.int aC), .val (.int aD), .val (.int md), .val (.int lb), .val (.int bA), .val (.int bB), .val (.int bC), .val (.int bD), .val (.ref x), .val (.ref y), .unset, .unset, .unset, .unset, .unset] [(.int z)]) := by
  have W : ∀ (k : Nat) {d : Jvm.Cond}, tables_1[k]? = some d → d.before a0 Z = true := fun k d q => hw d (List.mem_of_getElem? q)
  refine own_istore (pc' := 292) X0 at_290 rfl (Ls' := #[.val (.int i0), .val (.int i1), .val (.int i2), .val (.int i3), .val (.int la), .val (.int aA), .val (.int aB), .val (.int aC), .val (.int aD), .val (.int md), .val (.int lb), .val (.int bA), .val (.int bB), .val (.int bC), .val (.int bD), .val (.ref x), .val (.ref y), .val (.int z), .unset, .unset, .unset, .unset]) rfl ?_
  refine own_new (pc' := 295) (cells' := 7) (slots' := 25) X0 (W 38 rfl) (W 39 rfl) (W 40 rfl) at_292 rfl rfl rfl (by decide) (by decide) ?_
  intro T1 h1 a1 g1 X1 K1 E1 D1 U1
  have n_a1 : n0 ≤ a1 := by rw [g1]; exact own_n0 X0
  have F1_value : Fld Z h1 a1 "com/example/periwinkle/periwinkle/Name" "value" "Ljava/lang/String;" .null := D1 (Or.inr (W 93 rfl)) (ty := (.object "java/lang/String")) (by decide)
  refine own_dup (pc' := 296) X1 at_295 rfl rfl ?_
  refine own_aload (pc' := 298) X1 at_296 rfl rfl rfl ?_
  have f2 := (p_S.keep K1 nin0 nin0)
  refine own_callIM (pc' := 301) (cells' := 17) (slots' := 129) (argsL := [(.ref x)]) (rest := [(.ref a1)]) (W := 1) (y := (⟨"com/example/periwinkle/periwinkle/Name", "<init>", "(Ljava/lang/String;)V"⟩ : MethodName)) (a := a1) X1 (W 41 rfl) (W 42 rfl) rfl (by decide) (own_nm l Z a0 hw EWf n0 a1 x t la aA aB aC aD h1 (own_old X1) n_a1 E1 F1_value f2 p_la p_aA p_aB p_aC p_aD CS SF) all0 (W 43 rfl) (W 40 rfl) (by decide) (by decide) rfl (lenOf pd_11 rfl) rfl rfl at_298 rfl rfl rfl rfl (by decide) (by decide) ?_
  intro v3 T3 h3 s3 X3 q3
  obtain ⟨rfl, K3, E3, F3⟩ := q3
  show G T3 (mkF m 301 #[.val (.int i0), .val (.int i1), .val (.int i2), .val (.int i3), .val (.int la), .val (.int aA), .val (.int aB), .val (.int aC), .val (.int aD), .val (.int md), .val (.int lb), .val (.int bA), .val (.int bB), .val (.int bC), .val (.int bD), .val (.ref x), .val (.ref y), .val (.int z), .unset, .unset, .unset, .unset] [(.ref a1)])
  refine own_astore (pc' := 303) X3 at_301 rfl rfl (Ls' := #[.val (.int i0), .val (.int i1), .val (.int i2), .val (.int i3), .val (.int la), .val (.int aA), .val (.int aB), .val (.int aC), .val (.int aD), .val (.int md), .val (.int lb), .val (.int bA), .val (.int bB), .val (.int bC), .val (.int bD), .val (.ref x), .val (.ref y), .val (.int z), .val (.ref a1), .unset, .unset, .unset]) rfl ?_
  refine own_new (pc' := 306) (cells' := 18) (slots' := 130) X3 (W 38 rfl) (W 39 rfl) (W 40 rfl) at_303 rfl rfl rfl (by decide) (by decide) ?_
  intro T4 h4 a4 g4 X4 K4 E4 D4 U4
  have n_a4 : n0 ≤ a4 := by rw [g4]; exact own_n0 X3
  have F4_value : Fld Z h4 a4 "com/example/periwinkle/periwinkle/Name" "value" "Ljava/lang/String;" .null := D4 (Or.inr (W 93 rfl)) (ty := (.object "java/lang/String")) (by decide)
  refine own_dup (pc' := 307) X4 at_306 rfl rfl ?_
  refine own_aload (pc' := 309) X4 at_307 rfl rfl rfl ?_
  have ne_y_a1 : y ≠ a1 := own_ne p_T.lt (Nat.le_refl _) (Nat.le_of_eq (Eq.symm g1))
  have ne_u_a1 : u ≠ a1 := own_ne p_T.ltt (Nat.le_refl _) (Nat.le_of_eq (Eq.symm g1))
  have f5 := (((p_T.keep K1 nin0 nin0).keep K3 (ninS ne_y_a1 nin0) (ninS ne_u_a1 nin0)).keep K4 nin0 nin0)
  refine own_callIM (pc' := 312) (cells' := 28) (slots' := 234) (argsL := [(.ref y)]) (rest := [(.ref a4)]) (W := 1) (y := (⟨"com/example/periwinkle/periwinkle/Name", "<init>", "(Ljava/lang/String;)V"⟩ : MethodName)) (a := a4) X4 (W 41 rfl) (W 42 rfl) rfl (by decide) (own_nm l Z a0 hw EWf n0 a4 y u lb bA bB bC bD h4 (own_old X4) n_a4 E4 F4_value f5 p_lb p_bA p_bB p_bC p_bD CS SF) all0 (W 43 rfl) (W 40 rfl) (by decide) (by decide) rfl (lenOf pd_11 rfl) rfl rfl at_309 rfl rfl rfl rfl (by decide) (by decide) ?_
  intro v6 T6 h6 s6 X6 q6
  obtain ⟨rfl, K6, E6, F6⟩ := q6
  show G T6 (mkF m 312 #[.val (.int i0), .val (.int i1), .val (.int i2), .val (.int i3), .val (.int la), .val (.int aA), .val (.int aB), .val (.int aC), .val (.int aD), .val (.int md), .val (.int lb), .val (.int bA), .val (.int bB), .val (.int bC), .val (.int bD), .val (.ref x), .val (.ref y), .val (.int z), .val (.ref a1), .unset, .unset, .unset] [(.ref a4)])
  refine own_astore (pc' := 314) X6 at_312 rfl rfl (Ls' := #[.val (.int i0), .val (.int i1), .val (.int i2), .val (.int i3), .val (.int la), .val (.int aA), .val (.int aB), .val (.int aC), .val (.int aD), .val (.int md), .val (.int lb), .val (.int bA), .val (.int bB), .val (.int bC), .val (.int bD), .val (.ref x), .val (.ref y), .val (.int z), .val (.ref a1), .val (.ref a4), .unset, .unset]) rfl ?_
  refine own_aconst_null (pc' := 315) X6 at_314 rfl ?_
  refine own_astore (pc' := 317) X6 at_315 rfl rfl (Ls' := #[.val (.int i0), .val (.int i1), .val (.int i2), .val (.int i3), .val (.int la), .val (.int aA), .val (.int aB), .val (.int aC), .val (.int aD), .val (.int md), .val (.int lb), .val (.int bA), .val (.int bB), .val (.int bC), .val (.int bD), .val (.ref x), .val (.ref y), .val (.int z), .val (.ref a1), .val (.ref a4), .val .null, .unset]) rfl ?_
  refine own_aload (pc' := 319) X6 at_317 rfl rfl rfl ?_
  refine own_astore (pc' := 321) X6 at_319 rfl rfl (Ls' := #[.val (.int i0), .val (.int i1), .val (.int i2), .val (.int i3), .val (.int la), .val (.int aA), .val (.int aB), .val (.int aC), .val (.int aD), .val (.int md), .val (.int lb), .val (.int bA), .val (.int bB), .val (.int bC), .val (.int bD), .val (.ref x), .val (.ref y), .val (.int z), .val (.ref a1), .val (.ref a4), .val .null, .val (.ref x)]) rfl ?_
  refine own_aload (pc' := 323) X6 at_321 rfl rfl rfl ?_
  refine own_aload (pc' := 325) X6 at_323 rfl rfl rfl ?_
  subst p_z
  have ne_a1_a4 : a1 ≠ a4 := own_ne E1.lt (Nat.le_trans K3.1 (Nat.le_refl _)) (Nat.le_of_eq (Eq.symm g4))
  have f7 := ((F3.keep K4 nin0).keep K6 (ninS ne_a1_a4 nin0))
  have ne_x_a1 : x ≠ a1 := own_ne p_S.lt (Nat.le_refl _) (Nat.le_of_eq (Eq.symm g1))
  have ne_t_a1 : t ≠ a1 := own_ne p_S.ltt (Nat.le_refl _) (Nat.le_of_eq (Eq.symm g1))
  have ne_x_a4 : x ≠ a4 := own_ne p_S.lt (Nat.le_trans K1.1 (Nat.le_trans K3.1 (Nat.le_refl _))) (Nat.le_of_eq (Eq.symm g4))
  have ne_t_a4 : t ≠ a4 := own_ne p_S.ltt (Nat.le_trans K1.1 (Nat.le_trans K3.1 (Nat.le_refl _))) (Nat.le_of_eq (Eq.symm g4))
  have f8 := (((f2.keep K3 (ninS ne_x_a1 nin0) (ninS ne_t_a1 nin0)).keep K4 nin0 nin0).keep K6 (ninS ne_x_a4 nin0) (ninS ne_t_a4 nin0))
  have ne_y_a4 : y ≠ a4 := own_ne p_T.lt (Nat.le_trans K1.1 (Nat.le_trans K3.1 (Nat.le_refl _))) (Nat.le_of_eq (Eq.symm g4))
  have ne_u_a4 : u ≠ a4 := own_ne p_T.ltt (Nat.le_trans K1.1 (Nat.le_trans K3.1 (Nat.le_refl _))) (Nat.le_of_eq (Eq.symm g4))
  have f9 := (f5.keep K6 (ninS ne_y_a4 nin0) (ninS ne_u_a4 nin0))
  have f11 := ((E3.keep K4).keep K6)
  refine own_callVM (pc' := 328) (cells' := 28) (slots' := 234) (argsL := [(.ref a4)]) (rest := []) (W := 0) (y := (⟨"com/example/periwinkle/periwinkle/Name", "equals", "(Ljava/lang/Object;)Z"⟩ : MethodName)) (z := (⟨"com/example/periwinkle/periwinkle/Name", "equals", "(Ljava/lang/Object;)Z"⟩ : MethodName)) (a := a1) X6 (W 94 rfl) (W 95 rfl) (fun s' hZ' => notFace_of_selects (args := #[]) (mvT hZ' (W 97 rfl))) (W 97 rfl) (W 96 rfl) (by decide) f11 (own_eqs l Z a0 hw EWf n0 a1 a4 x t y u (own_mk la aA aB aC aD) (own_mk lb bA bB bC bD) h6 (own_old X6) E6 f7 F6 f8 f9 CS) all0 (W 98 rfl) (W 40 rfl) (by decide) (by decide) rfl (lenOf pd_9 rfl) rfl rfl at_325 rfl rfl rfl rfl (by decide) (by decide) ?_
  intro v10 T10 h10 s10 X10 q10
  obtain ⟨rfl, rfl⟩ := q10
  show G T10 (mkF m 328 #[.val (.int i0), .val (.int i1), .val (.int i2), .val (.int i3), .val (.int la), .val (.int aA), .val (.int aB), .val (.int aC), .val (.int aD), .val (.int md), .val (.int lb), .val (.int bA), .val (.int bB), .val (.int bC), .val (.int bD), .val (.ref x), .val (.ref y), .val (.int (own_ex la lb aA aB aC aD bA bB bC bD)), .val (.ref a1), .val (.ref a4), .val .null, .val (.ref x)] [(.int (if (own_mk lb bA bB bC bD) = (own_mk la aA aB aC aD) then 1 else 0))])
  refine own_iload (pc' := 330) X10 at_328 rfl rfl ?_
  refine own_icmpN (pc' := 333) X10 at_330 rfl ((teq own_exc).2) ?_
  refine own_aload (pc' := 335) X10 at_333 rfl rfl rfl ?_
  refine own_aload (pc' := 337) X10 at_335 rfl rfl rfl ?_
  refine own_callVM (pc' := 340) (cells' := 28) (slots' := 234) (argsL := [(.ref a1)]) (rest := []) (W := 0) (y := (⟨"com/example/periwinkle/periwinkle/Name", "equals", "(Ljava/lang/Object;)Z"⟩ : MethodName)) (z := (⟨"com/example/periwinkle/periwinkle/Name", "equals", "(Ljava/lang/Object;)Z"⟩ : MethodName)) (a := a4) X10 (W 94 rfl) (W 95 rfl) (fun s' hZ' => notFace_of_selects (args := #[]) (mvT hZ' (W 97 rfl))) (W 97 rfl) (W 96 rfl) (by decide) E6 (own_eqs l Z a0 hw EWf n0 a4 a1 y u x t (own_mk lb bA bB bC bD) (own_mk la aA aB aC aD) h6 (own_old X10) f11 F6 f7 f9 f8 CS) all0 (W 98 rfl) (W 40 rfl) (by decide) (by decide) rfl (lenOf pd_9 rfl) rfl rfl at_337 rfl rfl rfl rfl (by decide) (by decide) ?_
  intro v12 T12 h12 s12 X12 q12
  obtain ⟨rfl, rfl⟩ := q12
  show G T12 (mkF m 340 #[.val (.int i0), .val (.int i1), .val (.int i2), .val (.int i3), .val (.int la), .val (.int aA), .val (.int aB), .val (.int aC), .val (.int aD), .val (.int md), .val (.int lb), .val (.int bA), .val (.int bB), .val (.int bC), .val (.int bD), .val (.ref x), .val (.ref y), .val (.int (own_ex la lb aA aB aC aD bA bB bC bD)), .val (.ref a1), .val (.ref a4), .val .null, .val (.ref x)] [(.int (if (own_mk la aA aB aC aD) = (own_mk lb bA bB bC bD) then 1 else 0))])
  refine own_iload (pc' := 342) X12 at_340 rfl rfl ?_
  refine own_icmpN (pc' := 345) X12 at_342 rfl ((teq rfl).2) ?_
  refine own_aload (pc' := 347) X12 at_345 rfl rfl rfl ?_
  refine own_aload (pc' := 349) X12 at_347 rfl rfl rfl ?_
  refine own_callVM (pc' := 352) (cells' := 28) (slots' := 234) (argsL := [(.ref a1)]) (rest := []) (W := 0) (y := (⟨"com/example/periwinkle/periwinkle/Name", "equals", "(Ljava/lang/Object;)Z"⟩ : MethodName)) (z := (⟨"com/example/periwinkle/periwinkle/Name", "equals", "(Ljava/lang/Object;)Z"⟩ : MethodName)) (a := a1) X12 (W 94 rfl) (W 95 rfl) (fun s' hZ' => notFace_of_selects (args := #[]) (mvT hZ' (W 97 rfl))) (W 97 rfl) (W 96 rfl) (by decide) f11 (own_eqs l Z a0 hw EWf n0 a1 a1 x t x t (own_mk la aA aB aC aD) (own_mk la aA aB aC aD) h6 (own_old X12) f11 f7 f7 f8 f8 CS) all0 (W 98 rfl) (W 40 rfl) (by decide) (by decide) rfl (lenOf pd_9 rfl) rfl rfl at_349 rfl rfl rfl rfl (by decide) (by decide) ?_
  intro v13 T13 h13 s13 X13 q13
  obtain ⟨rfl, rfl⟩ := q13
  show G T13 (mkF m 352 #[.val (.int i0), .val (.int i1), .val (.int i2), .val (.int i3), .val (.int la), .val (.int aA), .val (.int aB), .val (.int aC), .val (.int aD), .val (.int md), .val (.int lb), .val (.int bA), .val (.int bB), .val (.int bC), .val (.int bD), .val (.ref x), .val (.ref y), .val (.int (own_ex la lb aA aB aC aD bA bB bC bD)), .val (.ref a1), .val (.ref a4), .val .null, .val (.ref x)] [(.int (if (own_mk la aA aB aC aD) = (own_mk la aA aB aC aD) then 1 else 0))])
  rw [if_pos rfl]
  refine own_ifN (pc' := 355) X13 at_352 rfl ((feq (by decide)).1) ?_
  refine own_aload (pc' := 357) X13 at_355 rfl rfl rfl ?_
  refine own_aload (pc' := 359) X13 at_357 rfl rfl rfl ?_
  refine own_callVM (pc' := 362) (cells' := 28) (slots' := 234) (argsL := [.null]) (rest := []) (W := 0) (y := (⟨"com/example/periwinkle/periwinkle/Name", "equals", "(Ljava/lang/Object;)Z"⟩ : MethodName)) (z := (⟨"com/example/periwinkle/periwinkle/Name", "equals", "(Ljava/lang/Object;)Z"⟩ : MethodName)) (a := a1) X13 (W 94 rfl) (W 95 rfl) (fun s' hZ' => notFace_of_selects (args := #[]) (mvT hZ' (W 97 rfl))) (W 97 rfl) (W 96 rfl) (by decide) f11 (own_eqn l Z a0 hw EWf n0 a1 h6 (own_old X13) ) all0 (W 98 rfl) (W 40 rfl) (by decide) (by decide) rfl (lenOf pd_9 rfl) rfl rfl at_359 rfl rfl rfl rfl (by decide) (by decide) ?_
  intro v14 T14 h14 s14 X14 q14
  obtain ⟨rfl, rfl⟩ := q14
  show G T14 (mkF m 362 #[.val (.int i0), .val (.int i1), .val (.int i2), .val (.int i3), .val (.int la), .val (.int aA), .val (.int aB), .val (.int aC), .val (.int aD), .val (.int md), .val (.int lb), .val (.int bA), .val (.int bB), .val (.int bC), .val (.int bD), .val (.ref x), .val (.ref y), .val (.int (own_ex la lb aA aB aC aD bA bB bC bD)), .val (.ref a1), .val (.ref a4), .val .null, .val (.ref x)] [(.int (0 : Int32))])
  refine own_ifN (pc' := 365) X14 at_362 rfl ((teq rfl).2) ?_
  refine own_aload (pc' := 367) X14 at_365 rfl rfl rfl ?_
  refine own_aload (pc' := 369) X14 at_367 rfl rfl rfl ?_
  have f15 := ((((p_S.1.keep K1).keep K3).keep K4).keep K6)
  refine own_callVM (pc' := 372) (cells' := 28) (slots' := 234) (argsL := [(.ref x)]) (rest := []) (W := 0) (y := (⟨"com/example/periwinkle/periwinkle/Name", "equals", "(Ljava/lang/Object;)Z"⟩ : MethodName)) (z := (⟨"com/example/periwinkle/periwinkle/Name", "equals", "(Ljava/lang/Object;)Z"⟩ : MethodName)) (a := a1) X14 (W 94 rfl) (W 95 rfl) (fun s' hZ' => notFace_of_selects (args := #[]) (mvT hZ' (W 97 rfl))) (W 97 rfl) (W 96 rfl) (by decide) f11 (own_eqx l Z a0 hw EWf n0 a1 x h6 (own_old X14) f15) all0 (W 98 rfl) (W 40 rfl) (by decide) (by decide) rfl (lenOf pd_9 rfl) rfl rfl at_369 rfl rfl rfl rfl (by decide) (by decide) ?_
  intro v16 T16 h16 s16 X16 q16
  obtain ⟨rfl, rfl⟩ := q16
  show G T16 (mkF m 372 #[.val (.int i0), .val (.int i1), .val (.int i2), .val (.int i3), .val (.int la), .val (.int aA), .val (.int aB), .val (.int aC), .val (.int aD), .val (.int md), .val (.int lb), .val (.int bA), .val (.int bB), .val (.int bC), .val (.int bD), .val (.ref x), .val (.ref y), .val (.int (own_ex la lb aA aB aC aD bA bB bC bD)), .val (.ref a1), .val (.ref a4), .val .null, .val (.ref x)] [(.int (0 : Int32))])
  refine own_ifN (pc' := 375) X16 at_372 rfl ((teq rfl).2) ?_
  refine own_iconst (pc' := 376) X16 at_375 rfl (z := (1 : Int32)) (by decide) ?_
  refine own_goto (pc' := 380) X16 at_376 (by decide) (by decide) ?_
  exact own_ret X16 hGe (t := .boolean) rfl rfl (Or.inl ⟨rfl, by simp, _, rfl⟩) at_380 (by decide) (by decide) rfl
theorem pd_12 : parseMethodDescriptor "(ICCCC)Ljava/lang/String;" = some ⟨[.int, .char, .char, .char, .char], some (.object "java/lang/String")⟩ := by decide +kernel
set_option maxRecDepth 65536 in
set_option maxHeartbeats 40000000 in
theorem own_202a {G : State → JFrame → Prop} {p : Program} {l : Launch} {e : Env} {s0 s : State} {m : MethodId} {args : Array Value} {below : List Frame} {meth : Method} {c : Code} {Z : State} {a0 : Array Value} {n0 : Nat} {T0 : State} {h0 : Heap} (hw : ∀ d ∈ tables_1, d.before a0 Z = true) (EWf : own_EW Z own_EL) (i0 i1 i2 i3 : Int32) (la md lb aA aB aC aD bA bB bC bD : Int32)
    (X0 : own_At G p l e room_1 s0 s own_EL [] m args below meth c Z n0 "com/example/periwinkle/periwinkle/NameEqualsPinLaw" "law" code maxLocals ret T0 h0 0 0) (hGe : G = own_Fin p e below s0 own_EL Z n0 (fun v h => v = some (.int 1)) room_1.cells room_1.slots) (CS : own_CS Z) (SF : own_SF Z) (p_la : own_14 la) (p_aA : own_Alw aA) (p_aB : own_Alw aB) (p_aC : own_Alw aC) (p_aD : own_Alw aD) (p_lb : own_14 lb) (p_bA : own_Alw bA) (p_bB : own_Alw bB) (p_bC : own_Alw bC) (p_bD : own_Alw bD) :
    G T0 (mkF m 202 #[.val (.int i0), .val (.int i1), .val (.int i2), .val (.int i3), .val (.int la), .val (.int aA), .val (.int aB), .val (.int aC), .val (.int aD), .val (.int md), .val (.int lb), .val (.int bA), .val (.int bB), .val (.int bC), .val (.int bD), .unset, .unset, .unset, .unset, .unset, .unset, .unset] []) := by
  have W : ∀ (k : Nat) {d : Jvm.Cond}, tables_1[k]? = some d → d.before a0 Z = true := fun k d q => hw d (List.mem_of_getElem? q)
  refine own_iload (pc' := 204) X0 at_202 rfl rfl ?_
  refine own_iload (pc' := 206) X0 at_204 rfl rfl ?_
  refine own_iload (pc' := 208) X0 at_206 rfl rfl ?_
  refine own_iload (pc' := 210) X0 at_208 rfl rfl ?_
  refine own_iload (pc' := 212) X0 at_210 rfl rfl ?_
  refine own_callSM (pc' := 215) (cells' := 3) (slots' := 12) (argsL := [(.int la), (.int aA), (.int aB), (.int aC), (.int aD)]) (rest := []) (W := 0) (y := (⟨"com/example/periwinkle/periwinkle/NameEqualsPinLaw", "make", "(ICCCC)Ljava/lang/String;"⟩ : MethodName)) X0 (W 5 rfl) (W 6 rfl) (by decide) (own_make l Z a0 hw EWf n0 la aA aB aC aD h0 (own_old X0) p_la p_aA p_aB p_aC p_aD CS) all0 (W 7 rfl) (W 2 rfl) (by decide) (by decide) rfl (lenOf pd_12 rfl) rfl rfl at_212 rfl rfl rfl rfl (by decide) (by decide) ?_
  intro v1 T1 h1 s1 X1 q1
  obtain ⟨x1, t1, rfl, K1, S1⟩ := q1
  show G T1 (mkF m 215 #[.val (.int i0), .val (.int i1), .val (.int i2), .val (.int i3), .val (.int la), .val (.int aA), .val (.int aB), .val (.int aC), .val (.int aD), .val (.int md), .val (.int lb), .val (.int bA), .val (.int bB), .val (.int bC), .val (.int bD), .unset, .unset, .unset, .unset, .unset, .unset, .unset] [(.ref x1)])
  refine own_astore (pc' := 217) X1 at_215 rfl rfl (Ls' := #[.val (.int i0), .val (.int i1), .val (.int i2), .val (.int i3), .val (.int la), .val (.int aA), .val (.int aB), .val (.int aC), .val (.int aD), .val (.int md), .val (.int lb), .val (.int bA), .val (.int bB), .val (.int bC), .val (.int bD), .val (.ref x1), .unset, .unset, .unset, .unset, .unset, .unset]) rfl ?_
  refine own_iload (pc' := 219) X1 at_217 rfl rfl ?_
  refine own_iload (pc' := 221) X1 at_219 rfl rfl ?_
  refine own_iload (pc' := 223) X1 at_221 rfl rfl ?_
  refine own_iload (pc' := 225) X1 at_223 rfl rfl ?_
  refine own_iload (pc' := 227) X1 at_225 rfl rfl ?_
  refine own_callSM (pc' := 230) (cells' := 6) (slots' := 24) (argsL := [(.int lb), (.int bA), (.int bB), (.int bC), (.int bD)]) (rest := []) (W := 0) (y := (⟨"com/example/periwinkle/periwinkle/NameEqualsPinLaw", "make", "(ICCCC)Ljava/lang/String;"⟩ : MethodName)) X1 (W 5 rfl) (W 6 rfl) (by decide) (own_make l Z a0 hw EWf n0 lb bA bB bC bD h1 (own_old X1) p_lb p_bA p_bB p_bC p_bD CS) all0 (W 7 rfl) (W 2 rfl) (by decide) (by decide) rfl (lenOf pd_12 rfl) rfl rfl at_227 rfl rfl rfl rfl (by decide) (by decide) ?_
  intro v2 T2 h2 s2 X2 q2
  obtain ⟨x2, t2, rfl, K2, S2⟩ := q2
  show G T2 (mkF m 230 #[.val (.int i0), .val (.int i1), .val (.int i2), .val (.int i3), .val (.int la), .val (.int aA), .val (.int aB), .val (.int aC), .val (.int aD), .val (.int md), .val (.int lb), .val (.int bA), .val (.int bB), .val (.int bC), .val (.int bD), .val (.ref x1), .unset, .unset, .unset, .unset, .unset, .unset] [(.ref x2)])
  refine own_astore (pc' := 232) X2 at_230 rfl rfl (Ls' := #[.val (.int i0), .val (.int i1), .val (.int i2), .val (.int i3), .val (.int la), .val (.int aA), .val (.int aB), .val (.int aC), .val (.int aD), .val (.int md), .val (.int lb), .val (.int bA), .val (.int bB), .val (.int bC), .val (.int bD), .val (.ref x1), .val (.ref x2), .unset, .unset, .unset, .unset, .unset]) rfl ?_
  refine own_iload (pc' := 234) X2 at_232 rfl rfl ?_
  refine own_iload (pc' := 236) X2 at_234 rfl rfl ?_
  by_cases h236 : la = lb
  · refine own_icmpN (pc' := 239) X2 at_236 rfl ((teq h236).2) ?_
    refine own_iload (pc' := 241) X2 at_239 rfl rfl ?_
    refine own_iload (pc' := 243) X2 at_241 rfl rfl ?_
    by_cases h243 : aA = bA
    · refine own_icmpN (pc' := 246) X2 at_243 rfl ((teq h243).2) ?_
      refine own_iload (pc' := 248) X2 at_246 rfl rfl ?_
      refine own_iconst (pc' := 249) X2 at_248 rfl (z := (2 : Int32)) (by decide) ?_
      by_cases h249 : la < (2 : Int32)
      · refine own_icmpY (pc' := 259) X2 at_249 ((tlt h249).1) (by decide) (by decide) ?_
        refine own_iload (pc' := 261) X2 at_259 rfl rfl ?_
        refine own_iconst (pc' := 262) X2 at_261 rfl (z := (3 : Int32)) (by decide) ?_
        by_cases h262 : la < (3 : Int32)
        · refine own_icmpY (pc' := 272) X2 at_262 ((tlt h262).1) (by decide) (by decide) ?_
          refine own_iload (pc' := 274) X2 at_272 rfl rfl ?_
          refine own_iconst (pc' := 275) X2 at_274 rfl (z := (4 : Int32)) (by decide) ?_
          by_cases h275 : la < (4 : Int32)
          · refine own_icmpY (pc' := 285) X2 at_275 ((tlt h275).1) (by decide) (by decide) ?_
            refine own_iconst (pc' := 286) X2 at_285 rfl (z := (1 : Int32)) (by decide) ?_
            refine own_goto (pc' := 290) X2 at_286 (by decide) (by decide) ?_
            have f3 := (S1.keep K2 nin0 nin0)
            exact own_290 hw EWf i0 i1 i2 i3 la md lb aA aB aC aD bA bB bC bD x1 t1 x2 t2 (1 : Int32) (own_mono X2 (by decide : 6 ≤ 6) (by decide : 24 ≤ 24) all0) hGe CS SF p_la p_aA p_aB p_aC p_aD p_lb p_bA p_bB p_bC p_bD f3 S2 (by rcases p_la with rfl | rfl | rfl | rfl <;> rcases p_lb with rfl | rfl | rfl | rfl <;> simp_all [own_ex, own_mk])
          · refine own_icmpN (pc' := 278) X2 at_275 rfl ((flt h275).1) ?_
            refine own_iload (pc' := 280) X2 at_278 rfl rfl ?_
            refine own_iload (pc' := 282) X2 at_280 rfl rfl ?_
            by_cases h282 : aD = bD
            · refine own_icmpN (pc' := 285) X2 at_282 rfl ((teq h282).2) ?_
              refine own_iconst (pc' := 286) X2 at_285 rfl (z := (1 : Int32)) (by decide) ?_
              refine own_goto (pc' := 290) X2 at_286 (by decide) (by decide) ?_
              have f4 := (S1.keep K2 nin0 nin0)
              exact own_290 hw EWf i0 i1 i2 i3 la md lb aA aB aC aD bA bB bC bD x1 t1 x2 t2 (1 : Int32) (own_mono X2 (by decide : 6 ≤ 6) (by decide : 24 ≤ 24) all0) hGe CS SF p_la p_aA p_aB p_aC p_aD p_lb p_bA p_bB p_bC p_bD f4 S2 (by rcases p_la with rfl | rfl | rfl | rfl <;> rcases p_lb with rfl | rfl | rfl | rfl <;> simp_all [own_ex, own_mk])
            · refine own_icmpY (pc' := 289) X2 at_282 ((feq h282).2) (by decide) (by decide) ?_
              refine own_iconst (pc' := 290) X2 at_289 rfl (z := (0 : Int32)) (by decide) ?_
              have f5 := (S1.keep K2 nin0 nin0)
              exact own_290 hw EWf i0 i1 i2 i3 la md lb aA aB aC aD bA bB bC bD x1 t1 x2 t2 (0 : Int32) (own_mono X2 (by decide : 6 ≤ 6) (by decide : 24 ≤ 24) all0) hGe CS SF p_la p_aA p_aB p_aC p_aD p_lb p_bA p_bB p_bC p_bD f5 S2 (by rcases p_la with rfl | rfl | rfl | rfl <;> rcases p_lb with rfl | rfl | rfl | rfl <;> simp_all [own_ex, own_mk])
        · refine own_icmpN (pc' := 265) X2 at_262 rfl ((flt h262).1) ?_
          refine own_iload (pc' := 267) X2 at_265 rfl rfl ?_
          refine own_iload (pc' := 269) X2 at_267 rfl rfl ?_
          by_cases h269 : aC = bC
          · refine own_icmpN (pc' := 272) X2 at_269 rfl ((teq h269).2) ?_
            refine own_iload (pc' := 274) X2 at_272 rfl rfl ?_
            refine own_iconst (pc' := 275) X2 at_274 rfl (z := (4 : Int32)) (by decide) ?_
            by_cases h275 : la < (4 : Int32)
            · refine own_icmpY (pc' := 285) X2 at_275 ((tlt h275).1) (by decide) (by decide) ?_
              refine own_iconst (pc' := 286) X2 at_285 rfl (z := (1 : Int32)) (by decide) ?_
              refine own_goto (pc' := 290) X2 at_286 (by decide) (by decide) ?_
              have f6 := (S1.keep K2 nin0 nin0)
              exact own_290 hw EWf i0 i1 i2 i3 la md lb aA aB aC aD bA bB bC bD x1 t1 x2 t2 (1 : Int32) (own_mono X2 (by decide : 6 ≤ 6) (by decide : 24 ≤ 24) all0) hGe CS SF p_la p_aA p_aB p_aC p_aD p_lb p_bA p_bB p_bC p_bD f6 S2 (by rcases p_la with rfl | rfl | rfl | rfl <;> rcases p_lb with rfl | rfl | rfl | rfl <;> simp_all [own_ex, own_mk])
            · refine own_icmpN (pc' := 278) X2 at_275 rfl ((flt h275).1) ?_
              refine own_iload (pc' := 280) X2 at_278 rfl rfl ?_
              refine own_iload (pc' := 282) X2 at_280 rfl rfl ?_
              by_cases h282 : aD = bD
              · refine own_icmpN (pc' := 285) X2 at_282 rfl ((teq h282).2) ?_
                refine own_iconst (pc' := 286) X2 at_285 rfl (z := (1 : Int32)) (by decide) ?_
                refine own_goto (pc' := 290) X2 at_286 (by decide) (by decide) ?_
                have f7 := (S1.keep K2 nin0 nin0)
                exact own_290 hw EWf i0 i1 i2 i3 la md lb aA aB aC aD bA bB bC bD x1 t1 x2 t2 (1 : Int32) (own_mono X2 (by decide : 6 ≤ 6) (by decide : 24 ≤ 24) all0) hGe CS SF p_la p_aA p_aB p_aC p_aD p_lb p_bA p_bB p_bC p_bD f7 S2 (by rcases p_la with rfl | rfl | rfl | rfl <;> rcases p_lb with rfl | rfl | rfl | rfl <;> simp_all [own_ex, own_mk])
              · refine own_icmpY (pc' := 289) X2 at_282 ((feq h282).2) (by decide) (by decide) ?_
                refine own_iconst (pc' := 290) X2 at_289 rfl (z := (0 : Int32)) (by decide) ?_
                have f8 := (S1.keep K2 nin0 nin0)
                exact own_290 hw EWf i0 i1 i2 i3 la md lb aA aB aC aD bA bB bC bD x1 t1 x2 t2 (0 : Int32) (own_mono X2 (by decide : 6 ≤ 6) (by decide : 24 ≤ 24) all0) hGe CS SF p_la p_aA p_aB p_aC p_aD p_lb p_bA p_bB p_bC p_bD f8 S2 (by rcases p_la with rfl | rfl | rfl | rfl <;> rcases p_lb with rfl | rfl | rfl | rfl <;> simp_all [own_ex, own_mk])
          · refine own_icmpY (pc' := 289) X2 at_269 ((feq h269).2) (by decide) (by decide) ?_
            refine own_iconst (pc' := 290) X2 at_289 rfl (z := (0 : Int32)) (by decide) ?_
            have f9 := (S1.keep K2 nin0 nin0)
            exact own_290 hw EWf i0 i1 i2 i3 la md lb aA aB aC aD bA bB bC bD x1 t1 x2 t2 (0 : Int32) (own_mono X2 (by decide : 6 ≤ 6) (by decide : 24 ≤ 24) all0) hGe CS SF p_la p_aA p_aB p_aC p_aD p_lb p_bA p_bB p_bC p_bD f9 S2 (by rcases p_la with rfl | rfl | rfl | rfl <;> rcases p_lb with rfl | rfl | rfl | rfl <;> simp_all [own_ex, own_mk])
      · refine own_icmpN (pc' := 252) X2 at_249 rfl ((flt h249).1) ?_
        refine own_iload (pc' := 254) X2 at_252 rfl rfl ?_
        refine own_iload (pc' := 256) X2 at_254 rfl rfl ?_
        by_cases h256 : aB = bB
        · refine own_icmpN (pc' := 259) X2 at_256 rfl ((teq h256).2) ?_
          refine own_iload (pc' := 261) X2 at_259 rfl rfl ?_
          refine own_iconst (pc' := 262) X2 at_261 rfl (z := (3 : Int32)) (by decide) ?_
          by_cases h262 : la < (3 : Int32)
          · refine own_icmpY (pc' := 272) X2 at_262 ((tlt h262).1) (by decide) (by decide) ?_
            refine own_iload (pc' := 274) X2 at_272 rfl rfl ?_
            refine own_iconst (pc' := 275) X2 at_274 rfl (z := (4 : Int32)) (by decide) ?_
            by_cases h275 : la < (4 : Int32)
            · refine own_icmpY (pc' := 285) X2 at_275 ((tlt h275).1) (by decide) (by decide) ?_
              refine own_iconst (pc' := 286) X2 at_285 rfl (z := (1 : Int32)) (by decide) ?_
              refine own_goto (pc' := 290) X2 at_286 (by decide) (by decide) ?_
              have f10 := (S1.keep K2 nin0 nin0)
              exact own_290 hw EWf i0 i1 i2 i3 la md lb aA aB aC aD bA bB bC bD x1 t1 x2 t2 (1 : Int32) (own_mono X2 (by decide : 6 ≤ 6) (by decide : 24 ≤ 24) all0) hGe CS SF p_la p_aA p_aB p_aC p_aD p_lb p_bA p_bB p_bC p_bD f10 S2 (by rcases p_la with rfl | rfl | rfl | rfl <;> rcases p_lb with rfl | rfl | rfl | rfl <;> simp_all [own_ex, own_mk])
            · refine own_icmpN (pc' := 278) X2 at_275 rfl ((flt h275).1) ?_
              refine own_iload (pc' := 280) X2 at_278 rfl rfl ?_
              refine own_iload (pc' := 282) X2 at_280 rfl rfl ?_
              by_cases h282 : aD = bD
              · refine own_icmpN (pc' := 285) X2 at_282 rfl ((teq h282).2) ?_
                refine own_iconst (pc' := 286) X2 at_285 rfl (z := (1 : Int32)) (by decide) ?_
                refine own_goto (pc' := 290) X2 at_286 (by decide) (by decide) ?_
                have f11 := (S1.keep K2 nin0 nin0)
                exact own_290 hw EWf i0 i1 i2 i3 la md lb aA aB aC aD bA bB bC bD x1 t1 x2 t2 (1 : Int32) (own_mono X2 (by decide : 6 ≤ 6) (by decide : 24 ≤ 24) all0) hGe CS SF p_la p_aA p_aB p_aC p_aD p_lb p_bA p_bB p_bC p_bD f11 S2 (by rcases p_la with rfl | rfl | rfl | rfl <;> rcases p_lb with rfl | rfl | rfl | rfl <;> simp_all [own_ex, own_mk])
              · refine own_icmpY (pc' := 289) X2 at_282 ((feq h282).2) (by decide) (by decide) ?_
                refine own_iconst (pc' := 290) X2 at_289 rfl (z := (0 : Int32)) (by decide) ?_
                have f12 := (S1.keep K2 nin0 nin0)
                exact own_290 hw EWf i0 i1 i2 i3 la md lb aA aB aC aD bA bB bC bD x1 t1 x2 t2 (0 : Int32) (own_mono X2 (by decide : 6 ≤ 6) (by decide : 24 ≤ 24) all0) hGe CS SF p_la p_aA p_aB p_aC p_aD p_lb p_bA p_bB p_bC p_bD f12 S2 (by rcases p_la with rfl | rfl | rfl | rfl <;> rcases p_lb with rfl | rfl | rfl | rfl <;> simp_all [own_ex, own_mk])
          · refine own_icmpN (pc' := 265) X2 at_262 rfl ((flt h262).1) ?_
            refine own_iload (pc' := 267) X2 at_265 rfl rfl ?_
            refine own_iload (pc' := 269) X2 at_267 rfl rfl ?_
            by_cases h269 : aC = bC
            · refine own_icmpN (pc' := 272) X2 at_269 rfl ((teq h269).2) ?_
              refine own_iload (pc' := 274) X2 at_272 rfl rfl ?_
              refine own_iconst (pc' := 275) X2 at_274 rfl (z := (4 : Int32)) (by decide) ?_
              by_cases h275 : la < (4 : Int32)
              · refine own_icmpY (pc' := 285) X2 at_275 ((tlt h275).1) (by decide) (by decide) ?_
                refine own_iconst (pc' := 286) X2 at_285 rfl (z := (1 : Int32)) (by decide) ?_
                refine own_goto (pc' := 290) X2 at_286 (by decide) (by decide) ?_
                have f13 := (S1.keep K2 nin0 nin0)
                exact own_290 hw EWf i0 i1 i2 i3 la md lb aA aB aC aD bA bB bC bD x1 t1 x2 t2 (1 : Int32) (own_mono X2 (by decide : 6 ≤ 6) (by decide : 24 ≤ 24) all0) hGe CS SF p_la p_aA p_aB p_aC p_aD p_lb p_bA p_bB p_bC p_bD f13 S2 (by rcases p_la with rfl | rfl | rfl | rfl <;> rcases p_lb with rfl | rfl | rfl | rfl <;> simp_all [own_ex, own_mk])
              · refine own_icmpN (pc' := 278) X2 at_275 rfl ((flt h275).1) ?_
                refine own_iload (pc' := 280) X2 at_278 rfl rfl ?_
                refine own_iload (pc' := 282) X2 at_280 rfl rfl ?_
                by_cases h282 : aD = bD
                · refine own_icmpN (pc' := 285) X2 at_282 rfl ((teq h282).2) ?_
                  refine own_iconst (pc' := 286) X2 at_285 rfl (z := (1 : Int32)) (by decide) ?_
                  refine own_goto (pc' := 290) X2 at_286 (by decide) (by decide) ?_
                  have f14 := (S1.keep K2 nin0 nin0)
                  exact own_290 hw EWf i0 i1 i2 i3 la md lb aA aB aC aD bA bB bC bD x1 t1 x2 t2 (1 : Int32) (own_mono X2 (by decide : 6 ≤ 6) (by decide : 24 ≤ 24) all0) hGe CS SF p_la p_aA p_aB p_aC p_aD p_lb p_bA p_bB p_bC p_bD f14 S2 (by rcases p_la with rfl | rfl | rfl | rfl <;> rcases p_lb with rfl | rfl | rfl | rfl <;> simp_all [own_ex, own_mk])
                · refine own_icmpY (pc' := 289) X2 at_282 ((feq h282).2) (by decide) (by decide) ?_
                  refine own_iconst (pc' := 290) X2 at_289 rfl (z := (0 : Int32)) (by decide) ?_
                  have f15 := (S1.keep K2 nin0 nin0)
                  exact own_290 hw EWf i0 i1 i2 i3 la md lb aA aB aC aD bA bB bC bD x1 t1 x2 t2 (0 : Int32) (own_mono X2 (by decide : 6 ≤ 6) (by decide : 24 ≤ 24) all0) hGe CS SF p_la p_aA p_aB p_aC p_aD p_lb p_bA p_bB p_bC p_bD f15 S2 (by rcases p_la with rfl | rfl | rfl | rfl <;> rcases p_lb with rfl | rfl | rfl | rfl <;> simp_all [own_ex, own_mk])
            · refine own_icmpY (pc' := 289) X2 at_269 ((feq h269).2) (by decide) (by decide) ?_
              refine own_iconst (pc' := 290) X2 at_289 rfl (z := (0 : Int32)) (by decide) ?_
              have f16 := (S1.keep K2 nin0 nin0)
              exact own_290 hw EWf i0 i1 i2 i3 la md lb aA aB aC aD bA bB bC bD x1 t1 x2 t2 (0 : Int32) (own_mono X2 (by decide : 6 ≤ 6) (by decide : 24 ≤ 24) all0) hGe CS SF p_la p_aA p_aB p_aC p_aD p_lb p_bA p_bB p_bC p_bD f16 S2 (by rcases p_la with rfl | rfl | rfl | rfl <;> rcases p_lb with rfl | rfl | rfl | rfl <;> simp_all [own_ex, own_mk])
        · refine own_icmpY (pc' := 289) X2 at_256 ((feq h256).2) (by decide) (by decide) ?_
          refine own_iconst (pc' := 290) X2 at_289 rfl (z := (0 : Int32)) (by decide) ?_
          have f17 := (S1.keep K2 nin0 nin0)
          exact own_290 hw EWf i0 i1 i2 i3 la md lb aA aB aC aD bA bB bC bD x1 t1 x2 t2 (0 : Int32) (own_mono X2 (by decide : 6 ≤ 6) (by decide : 24 ≤ 24) all0) hGe CS SF p_la p_aA p_aB p_aC p_aD p_lb p_bA p_bB p_bC p_bD f17 S2 (by rcases p_la with rfl | rfl | rfl | rfl <;> rcases p_lb with rfl | rfl | rfl | rfl <;> simp_all [own_ex, own_mk])
    · refine own_icmpY (pc' := 289) X2 at_243 ((feq h243).2) (by decide) (by decide) ?_
      refine own_iconst (pc' := 290) X2 at_289 rfl (z := (0 : Int32)) (by decide) ?_
      have f18 := (S1.keep K2 nin0 nin0)
      exact own_290 hw EWf i0 i1 i2 i3 la md lb aA aB aC aD bA bB bC bD x1 t1 x2 t2 (0 : Int32) (own_mono X2 (by decide : 6 ≤ 6) (by decide : 24 ≤ 24) all0) hGe CS SF p_la p_aA p_aB p_aC p_aD p_lb p_bA p_bB p_bC p_bD f18 S2 (by rcases p_la with rfl | rfl | rfl | rfl <;> rcases p_lb with rfl | rfl | rfl | rfl <;> simp_all [own_ex, own_mk])
  · refine own_icmpY (pc' := 289) X2 at_236 ((feq h236).2) (by decide) (by decide) ?_
    refine own_iconst (pc' := 290) X2 at_289 rfl (z := (0 : Int32)) (by decide) ?_
    have f19 := (S1.keep K2 nin0 nin0)
    exact own_290 hw EWf i0 i1 i2 i3 la md lb aA aB aC aD bA bB bC bD x1 t1 x2 t2 (0 : Int32) (own_mono X2 (by decide : 6 ≤ 6) (by decide : 24 ≤ 24) all0) hGe CS SF p_la p_aA p_aB p_aC p_aD p_lb p_bA p_bB p_bC p_bD f19 S2 (by rcases p_la with rfl | rfl | rfl | rfl <;> rcases p_lb with rfl | rfl | rfl | rfl <;> simp_all [own_ex, own_mk])
set_option maxRecDepth 65536 in
set_option maxHeartbeats 40000000 in
theorem own_202b {G : State → JFrame → Prop} {p : Program} {l : Launch} {e : Env} {s0 s : State} {m : MethodId} {args : Array Value} {below : List Frame} {meth : Method} {c : Code} {Z : State} {a0 : Array Value} {n0 : Nat} {T0 : State} {h0 : Heap} (hw : ∀ d ∈ tables_1, d.before a0 Z = true) (EWf : own_EW Z own_EL) (i0 i1 i2 i3 : Int32) (la md lb aA aB aC aD bA bB bC bD jj xx : Int32)
    (X0 : own_At G p l e room_1 s0 s own_EL [] m args below meth c Z n0 "com/example/periwinkle/periwinkle/NameEqualsPinLaw" "law" code maxLocals ret T0 h0 0 0) (hGe : G = own_Fin p e below s0 own_EL Z n0 (fun v h => v = some (.int 1)) room_1.cells room_1.slots) (CS : own_CS Z) (SF : own_SF Z) (p_la : own_14 la) (p_aA : own_Alw aA) (p_aB : own_Alw aB) (p_aC : own_Alw aC) (p_aD : own_Alw aD) (p_lb : own_14 lb) (p_bA : own_Alw bA) (p_bB : own_Alw bB) (p_bC : own_Alw bC) (p_bD : own_Alw bD) :
    G T0 (mkF m 202 #[.val (.int i0), .val (.int i1), .val (.int i2), .val (.int i3), .val (.int la), .val (.int aA), .val (.int aB), .val (.int aC), .val (.int aD), .val (.int md), .val (.int lb), .val (.int bA), .val (.int bB), .val (.int bC), .val (.int bD), .val (.int jj), .val (.int xx), .unset, .unset, .unset, .unset, .unset] []) := by
  have W : ∀ (k : Nat) {d : Jvm.Cond}, tables_1[k]? = some d → d.before a0 Z = true := fun k d q => hw d (List.mem_of_getElem? q)
  refine own_iload (pc' := 204) X0 at_202 rfl rfl ?_
  refine own_iload (pc' := 206) X0 at_204 rfl rfl ?_
  refine own_iload (pc' := 208) X0 at_206 rfl rfl ?_
  refine own_iload (pc' := 210) X0 at_208 rfl rfl ?_
  refine own_iload (pc' := 212) X0 at_210 rfl rfl ?_
  refine own_callSM (pc' := 215) (cells' := 3) (slots' := 12) (argsL := [(.int la), (.int aA), (.int aB), (.int aC), (.int aD)]) (rest := []) (W := 0) (y := (⟨"com/example/periwinkle/periwinkle/NameEqualsPinLaw", "make", "(ICCCC)Ljava/lang/String;"⟩ : MethodName)) X0 (W 5 rfl) (W 6 rfl) (by decide) (own_make l Z a0 hw EWf n0 la aA aB aC aD h0 (own_old X0) p_la p_aA p_aB p_aC p_aD CS) all0 (W 7 rfl) (W 2 rfl) (by decide) (by decide) rfl (lenOf pd_12 rfl) rfl rfl at_212 rfl rfl rfl rfl (by decide) (by decide) ?_
  intro v1 T1 h1 s1 X1 q1
  obtain ⟨x1, t1, rfl, K1, S1⟩ := q1
  show G T1 (mkF m 215 #[.val (.int i0), .val (.int i1), .val (.int i2), .val (.int i3), .val (.int la), .val (.int aA), .val (.int aB), .val (.int aC), .val (.int aD), .val (.int md), .val (.int lb), .val (.int bA), .val (.int bB), .val (.int bC), .val (.int bD), .val (.int jj), .val (.int xx), .unset, .unset, .unset, .unset, .unset] [(.ref x1)])
  refine own_astore (pc' := 217) X1 at_215 rfl rfl (Ls' := #[.val (.int i0), .val (.int i1), .val (.int i2), .val (.int i3), .val (.int la), .val (.int aA), .val (.int aB), .val (.int aC), .val (.int aD), .val (.int md), .val (.int lb), .val (.int bA), .val (.int bB), .val (.int bC), .val (.int bD), .val (.ref x1), .val (.int xx), .unset, .unset, .unset, .unset, .unset]) rfl ?_
  refine own_iload (pc' := 219) X1 at_217 rfl rfl ?_
  refine own_iload (pc' := 221) X1 at_219 rfl rfl ?_
  refine own_iload (pc' := 223) X1 at_221 rfl rfl ?_
  refine own_iload (pc' := 225) X1 at_223 rfl rfl ?_
  refine own_iload (pc' := 227) X1 at_225 rfl rfl ?_
  refine own_callSM (pc' := 230) (cells' := 6) (slots' := 24) (argsL := [(.int lb), (.int bA), (.int bB), (.int bC), (.int bD)]) (rest := []) (W := 0) (y := (⟨"com/example/periwinkle/periwinkle/NameEqualsPinLaw", "make", "(ICCCC)Ljava/lang/String;"⟩ : MethodName)) X1 (W 5 rfl) (W 6 rfl) (by decide) (own_make l Z a0 hw EWf n0 lb bA bB bC bD h1 (own_old X1) p_lb p_bA p_bB p_bC p_bD CS) all0 (W 7 rfl) (W 2 rfl) (by decide) (by decide) rfl (lenOf pd_12 rfl) rfl rfl at_227 rfl rfl rfl rfl (by decide) (by decide) ?_
  intro v2 T2 h2 s2 X2 q2
  obtain ⟨x2, t2, rfl, K2, S2⟩ := q2
  show G T2 (mkF m 230 #[.val (.int i0), .val (.int i1), .val (.int i2), .val (.int i3), .val (.int la), .val (.int aA), .val (.int aB), .val (.int aC), .val (.int aD), .val (.int md), .val (.int lb), .val (.int bA), .val (.int bB), .val (.int bC), .val (.int bD), .val (.ref x1), .val (.int xx), .unset, .unset, .unset, .unset, .unset] [(.ref x2)])
  refine own_astore (pc' := 232) X2 at_230 rfl rfl (Ls' := #[.val (.int i0), .val (.int i1), .val (.int i2), .val (.int i3), .val (.int la), .val (.int aA), .val (.int aB), .val (.int aC), .val (.int aD), .val (.int md), .val (.int lb), .val (.int bA), .val (.int bB), .val (.int bC), .val (.int bD), .val (.ref x1), .val (.ref x2), .unset, .unset, .unset, .unset, .unset]) rfl ?_
  refine own_iload (pc' := 234) X2 at_232 rfl rfl ?_
  refine own_iload (pc' := 236) X2 at_234 rfl rfl ?_
  by_cases h236 : la = lb
  · refine own_icmpN (pc' := 239) X2 at_236 rfl ((teq h236).2) ?_
    refine own_iload (pc' := 241) X2 at_239 rfl rfl ?_
    refine own_iload (pc' := 243) X2 at_241 rfl rfl ?_
    by_cases h243 : aA = bA
    · refine own_icmpN (pc' := 246) X2 at_243 rfl ((teq h243).2) ?_
      refine own_iload (pc' := 248) X2 at_246 rfl rfl ?_
      refine own_iconst (pc' := 249) X2 at_248 rfl (z := (2 : Int32)) (by decide) ?_
      by_cases h249 : la < (2 : Int32)
      · refine own_icmpY (pc' := 259) X2 at_249 ((tlt h249).1) (by decide) (by decide) ?_
        refine own_iload (pc' := 261) X2 at_259 rfl rfl ?_
        refine own_iconst (pc' := 262) X2 at_261 rfl (z := (3 : Int32)) (by decide) ?_
        by_cases h262 : la < (3 : Int32)
        · refine own_icmpY (pc' := 272) X2 at_262 ((tlt h262).1) (by decide) (by decide) ?_
          refine own_iload (pc' := 274) X2 at_272 rfl rfl ?_
          refine own_iconst (pc' := 275) X2 at_274 rfl (z := (4 : Int32)) (by decide) ?_
          by_cases h275 : la < (4 : Int32)
          · refine own_icmpY (pc' := 285) X2 at_275 ((tlt h275).1) (by decide) (by decide) ?_
            refine own_iconst (pc' := 286) X2 at_285 rfl (z := (1 : Int32)) (by decide) ?_
            refine own_goto (pc' := 290) X2 at_286 (by decide) (by decide) ?_
            have f3 := (S1.keep K2 nin0 nin0)
            exact own_290 hw EWf i0 i1 i2 i3 la md lb aA aB aC aD bA bB bC bD x1 t1 x2 t2 (1 : Int32) (own_mono X2 (by decide : 6 ≤ 6) (by decide : 24 ≤ 24) all0) hGe CS SF p_la p_aA p_aB p_aC p_aD p_lb p_bA p_bB p_bC p_bD f3 S2 (by rcases p_la with rfl | rfl | rfl | rfl <;> rcases p_lb with rfl | rfl | rfl | rfl <;> simp_all [own_ex, own_mk])
          · refine own_icmpN (pc' := 278) X2 at_275 rfl ((flt h275).1) ?_
            refine own_iload (pc' := 280) X2 at_278 rfl rfl ?_
            refine own_iload (pc' := 282) X2 at_280 rfl rfl ?_
            by_cases h282 : aD = bD
            · refine own_icmpN (pc' := 285) X2 at_282 rfl ((teq h282).2) ?_
              refine own_iconst (pc' := 286) X2 at_285 rfl (z := (1 : Int32)) (by decide) ?_
              refine own_goto (pc' := 290) X2 at_286 (by decide) (by decide) ?_
              have f4 := (S1.keep K2 nin0 nin0)
              exact own_290 hw EWf i0 i1 i2 i3 la md lb aA aB aC aD bA bB bC bD x1 t1 x2 t2 (1 : Int32) (own_mono X2 (by decide : 6 ≤ 6) (by decide : 24 ≤ 24) all0) hGe CS SF p_la p_aA p_aB p_aC p_aD p_lb p_bA p_bB p_bC p_bD f4 S2 (by rcases p_la with rfl | rfl | rfl | rfl <;> rcases p_lb with rfl | rfl | rfl | rfl <;> simp_all [own_ex, own_mk])
            · refine own_icmpY (pc' := 289) X2 at_282 ((feq h282).2) (by decide) (by decide) ?_
              refine own_iconst (pc' := 290) X2 at_289 rfl (z := (0 : Int32)) (by decide) ?_
              have f5 := (S1.keep K2 nin0 nin0)
              exact own_290 hw EWf i0 i1 i2 i3 la md lb aA aB aC aD bA bB bC bD x1 t1 x2 t2 (0 : Int32) (own_mono X2 (by decide : 6 ≤ 6) (by decide : 24 ≤ 24) all0) hGe CS SF p_la p_aA p_aB p_aC p_aD p_lb p_bA p_bB p_bC p_bD f5 S2 (by rcases p_la with rfl | rfl | rfl | rfl <;> rcases p_lb with rfl | rfl | rfl | rfl <;> simp_all [own_ex, own_mk])
        · refine own_icmpN (pc' := 265) X2 at_262 rfl ((flt h262).1) ?_
          refine own_iload (pc' := 267) X2 at_265 rfl rfl ?_
          refine own_iload (pc' := 269) X2 at_267 rfl rfl ?_
          by_cases h269 : aC = bC
          · refine own_icmpN (pc' := 272) X2 at_269 rfl ((teq h269).2) ?_
            refine own_iload (pc' := 274) X2 at_272 rfl rfl ?_
            refine own_iconst (pc' := 275) X2 at_274 rfl (z := (4 : Int32)) (by decide) ?_
            by_cases h275 : la < (4 : Int32)
            · refine own_icmpY (pc' := 285) X2 at_275 ((tlt h275).1) (by decide) (by decide) ?_
              refine own_iconst (pc' := 286) X2 at_285 rfl (z := (1 : Int32)) (by decide) ?_
              refine own_goto (pc' := 290) X2 at_286 (by decide) (by decide) ?_
              have f6 := (S1.keep K2 nin0 nin0)
              exact own_290 hw EWf i0 i1 i2 i3 la md lb aA aB aC aD bA bB bC bD x1 t1 x2 t2 (1 : Int32) (own_mono X2 (by decide : 6 ≤ 6) (by decide : 24 ≤ 24) all0) hGe CS SF p_la p_aA p_aB p_aC p_aD p_lb p_bA p_bB p_bC p_bD f6 S2 (by rcases p_la with rfl | rfl | rfl | rfl <;> rcases p_lb with rfl | rfl | rfl | rfl <;> simp_all [own_ex, own_mk])
            · refine own_icmpN (pc' := 278) X2 at_275 rfl ((flt h275).1) ?_
              refine own_iload (pc' := 280) X2 at_278 rfl rfl ?_
              refine own_iload (pc' := 282) X2 at_280 rfl rfl ?_
              by_cases h282 : aD = bD
              · refine own_icmpN (pc' := 285) X2 at_282 rfl ((teq h282).2) ?_
                refine own_iconst (pc' := 286) X2 at_285 rfl (z := (1 : Int32)) (by decide) ?_
                refine own_goto (pc' := 290) X2 at_286 (by decide) (by decide) ?_
                have f7 := (S1.keep K2 nin0 nin0)
                exact own_290 hw EWf i0 i1 i2 i3 la md lb aA aB aC aD bA bB bC bD x1 t1 x2 t2 (1 : Int32) (own_mono X2 (by decide : 6 ≤ 6) (by decide : 24 ≤ 24) all0) hGe CS SF p_la p_aA p_aB p_aC p_aD p_lb p_bA p_bB p_bC p_bD f7 S2 (by rcases p_la with rfl | rfl | rfl | rfl <;> rcases p_lb with rfl | rfl | rfl | rfl <;> simp_all [own_ex, own_mk])
              · refine own_icmpY (pc' := 289) X2 at_282 ((feq h282).2) (by decide) (by decide) ?_
                refine own_iconst (pc' := 290) X2 at_289 rfl (z := (0 : Int32)) (by decide) ?_
                have f8 := (S1.keep K2 nin0 nin0)
                exact own_290 hw EWf i0 i1 i2 i3 la md lb aA aB aC aD bA bB bC bD x1 t1 x2 t2 (0 : Int32) (own_mono X2 (by decide : 6 ≤ 6) (by decide : 24 ≤ 24) all0) hGe CS SF p_la p_aA p_aB p_aC p_aD p_lb p_bA p_bB p_bC p_bD f8 S2 (by rcases p_la with rfl | rfl | rfl | rfl <;> rcases p_lb with rfl | rfl | rfl | rfl <;> simp_all [own_ex, own_mk])
          · refine own_icmpY (pc' := 289) X2 at_269 ((feq h269).2) (by decide) (by decide) ?_
            refine own_iconst (pc' := 290) X2 at_289 rfl (z := (0 : Int32)) (by decide) ?_
            have f9 := (S1.keep K2 nin0 nin0)
            exact own_290 hw EWf i0 i1 i2 i3 la md lb aA aB aC aD bA bB bC bD x1 t1 x2 t2 (0 : Int32) (own_mono X2 (by decide : 6 ≤ 6) (by decide : 24 ≤ 24) all0) hGe CS SF p_la p_aA p_aB p_aC p_aD p_lb p_bA p_bB p_bC p_bD f9 S2 (by rcases p_la with rfl | rfl | rfl | rfl <;> rcases p_lb with rfl | rfl | rfl | rfl <;> simp_all [own_ex, own_mk])
      · refine own_icmpN (pc' := 252) X2 at_249 rfl ((flt h249).1) ?_
        refine own_iload (pc' := 254) X2 at_252 rfl rfl ?_
        refine own_iload (pc' := 256) X2 at_254 rfl rfl ?_
        by_cases h256 : aB = bB
        · refine own_icmpN (pc' := 259) X2 at_256 rfl ((teq h256).2) ?_
          refine own_iload (pc' := 261) X2 at_259 rfl rfl ?_
          refine own_iconst (pc' := 262) X2 at_261 rfl (z := (3 : Int32)) (by decide) ?_
          by_cases h262 : la < (3 : Int32)
          · refine own_icmpY (pc' := 272) X2 at_262 ((tlt h262).1) (by decide) (by decide) ?_
            refine own_iload (pc' := 274) X2 at_272 rfl rfl ?_
            refine own_iconst (pc' := 275) X2 at_274 rfl (z := (4 : Int32)) (by decide) ?_
            by_cases h275 : la < (4 : Int32)
            · refine own_icmpY (pc' := 285) X2 at_275 ((tlt h275).1) (by decide) (by decide) ?_
              refine own_iconst (pc' := 286) X2 at_285 rfl (z := (1 : Int32)) (by decide) ?_
              refine own_goto (pc' := 290) X2 at_286 (by decide) (by decide) ?_
              have f10 := (S1.keep K2 nin0 nin0)
              exact own_290 hw EWf i0 i1 i2 i3 la md lb aA aB aC aD bA bB bC bD x1 t1 x2 t2 (1 : Int32) (own_mono X2 (by decide : 6 ≤ 6) (by decide : 24 ≤ 24) all0) hGe CS SF p_la p_aA p_aB p_aC p_aD p_lb p_bA p_bB p_bC p_bD f10 S2 (by rcases p_la with rfl | rfl | rfl | rfl <;> rcases p_lb with rfl | rfl | rfl | rfl <;> simp_all [own_ex, own_mk])
            · refine own_icmpN (pc' := 278) X2 at_275 rfl ((flt h275).1) ?_
              refine own_iload (pc' := 280) X2 at_278 rfl rfl ?_
              refine own_iload (pc' := 282) X2 at_280 rfl rfl ?_
              by_cases h282 : aD = bD
              · refine own_icmpN (pc' := 285) X2 at_282 rfl ((teq h282).2) ?_
                refine own_iconst (pc' := 286) X2 at_285 rfl (z := (1 : Int32)) (by decide) ?_
                refine own_goto (pc' := 290) X2 at_286 (by decide) (by decide) ?_
                have f11 := (S1.keep K2 nin0 nin0)
                exact own_290 hw EWf i0 i1 i2 i3 la md lb aA aB aC aD bA bB bC bD x1 t1 x2 t2 (1 : Int32) (own_mono X2 (by decide : 6 ≤ 6) (by decide : 24 ≤ 24) all0) hGe CS SF p_la p_aA p_aB p_aC p_aD p_lb p_bA p_bB p_bC p_bD f11 S2 (by rcases p_la with rfl | rfl | rfl | rfl <;> rcases p_lb with rfl | rfl | rfl | rfl <;> simp_all [own_ex, own_mk])
              · refine own_icmpY (pc' := 289) X2 at_282 ((feq h282).2) (by decide) (by decide) ?_
                refine own_iconst (pc' := 290) X2 at_289 rfl (z := (0 : Int32)) (by decide) ?_
                have f12 := (S1.keep K2 nin0 nin0)
                exact own_290 hw EWf i0 i1 i2 i3 la md lb aA aB aC aD bA bB bC bD x1 t1 x2 t2 (0 : Int32) (own_mono X2 (by decide : 6 ≤ 6) (by decide : 24 ≤ 24) all0) hGe CS SF p_la p_aA p_aB p_aC p_aD p_lb p_bA p_bB p_bC p_bD f12 S2 (by rcases p_la with rfl | rfl | rfl | rfl <;> rcases p_lb with rfl | rfl | rfl | rfl <;> simp_all [own_ex, own_mk])
          · refine own_icmpN (pc' := 265) X2 at_262 rfl ((flt h262).1) ?_
            refine own_iload (pc' := 267) X2 at_265 rfl rfl ?_
            refine own_iload (pc' := 269) X2 at_267 rfl rfl ?_
            by_cases h269 : aC = bC
            · refine own_icmpN (pc' := 272) X2 at_269 rfl ((teq h269).2) ?_
              refine own_iload (pc' := 274) X2 at_272 rfl rfl ?_
              refine own_iconst (pc' := 275) X2 at_274 rfl (z := (4 : Int32)) (by decide) ?_
              by_cases h275 : la < (4 : Int32)
              · refine own_icmpY (pc' := 285) X2 at_275 ((tlt h275).1) (by decide) (by decide) ?_
                refine own_iconst (pc' := 286) X2 at_285 rfl (z := (1 : Int32)) (by decide) ?_
                refine own_goto (pc' := 290) X2 at_286 (by decide) (by decide) ?_
                have f13 := (S1.keep K2 nin0 nin0)
                exact own_290 hw EWf i0 i1 i2 i3 la md lb aA aB aC aD bA bB bC bD x1 t1 x2 t2 (1 : Int32) (own_mono X2 (by decide : 6 ≤ 6) (by decide : 24 ≤ 24) all0) hGe CS SF p_la p_aA p_aB p_aC p_aD p_lb p_bA p_bB p_bC p_bD f13 S2 (by rcases p_la with rfl | rfl | rfl | rfl <;> rcases p_lb with rfl | rfl | rfl | rfl <;> simp_all [own_ex, own_mk])
              · refine own_icmpN (pc' := 278) X2 at_275 rfl ((flt h275).1) ?_
                refine own_iload (pc' := 280) X2 at_278 rfl rfl ?_
                refine own_iload (pc' := 282) X2 at_280 rfl rfl ?_
                by_cases h282 : aD = bD
                · refine own_icmpN (pc' := 285) X2 at_282 rfl ((teq h282).2) ?_
                  refine own_iconst (pc' := 286) X2 at_285 rfl (z := (1 : Int32)) (by decide) ?_
                  refine own_goto (pc' := 290) X2 at_286 (by decide) (by decide) ?_
                  have f14 := (S1.keep K2 nin0 nin0)
                  exact own_290 hw EWf i0 i1 i2 i3 la md lb aA aB aC aD bA bB bC bD x1 t1 x2 t2 (1 : Int32) (own_mono X2 (by decide : 6 ≤ 6) (by decide : 24 ≤ 24) all0) hGe CS SF p_la p_aA p_aB p_aC p_aD p_lb p_bA p_bB p_bC p_bD f14 S2 (by rcases p_la with rfl | rfl | rfl | rfl <;> rcases p_lb with rfl | rfl | rfl | rfl <;> simp_all [own_ex, own_mk])
                · refine own_icmpY (pc' := 289) X2 at_282 ((feq h282).2) (by decide) (by decide) ?_
                  refine own_iconst (pc' := 290) X2 at_289 rfl (z := (0 : Int32)) (by decide) ?_
                  have f15 := (S1.keep K2 nin0 nin0)
                  exact own_290 hw EWf i0 i1 i2 i3 la md lb aA aB aC aD bA bB bC bD x1 t1 x2 t2 (0 : Int32) (own_mono X2 (by decide : 6 ≤ 6) (by decide : 24 ≤ 24) all0) hGe CS SF p_la p_aA p_aB p_aC p_aD p_lb p_bA p_bB p_bC p_bD f15 S2 (by rcases p_la with rfl | rfl | rfl | rfl <;> rcases p_lb with rfl | rfl | rfl | rfl <;> simp_all [own_ex, own_mk])
            · refine own_icmpY (pc' := 289) X2 at_269 ((feq h269).2) (by decide) (by decide) ?_
              refine own_iconst (pc' := 290) X2 at_289 rfl (z := (0 : Int32)) (by decide) ?_
              have f16 := (S1.keep K2 nin0 nin0)
              exact own_290 hw EWf i0 i1 i2 i3 la md lb aA aB aC aD bA bB bC bD x1 t1 x2 t2 (0 : Int32) (own_mono X2 (by decide : 6 ≤ 6) (by decide : 24 ≤ 24) all0) hGe CS SF p_la p_aA p_aB p_aC p_aD p_lb p_bA p_bB p_bC p_bD f16 S2 (by rcases p_la with rfl | rfl | rfl | rfl <;> rcases p_lb with rfl | rfl | rfl | rfl <;> simp_all [own_ex, own_mk])
        · refine own_icmpY (pc' := 289) X2 at_256 ((feq h256).2) (by decide) (by decide) ?_
          refine own_iconst (pc' := 290) X2 at_289 rfl (z := (0 : Int32)) (by decide) ?_
          have f17 := (S1.keep K2 nin0 nin0)
          exact own_290 hw EWf i0 i1 i2 i3 la md lb aA aB aC aD bA bB bC bD x1 t1 x2 t2 (0 : Int32) (own_mono X2 (by decide : 6 ≤ 6) (by decide : 24 ≤ 24) all0) hGe CS SF p_la p_aA p_aB p_aC p_aD p_lb p_bA p_bB p_bC p_bD f17 S2 (by rcases p_la with rfl | rfl | rfl | rfl <;> rcases p_lb with rfl | rfl | rfl | rfl <;> simp_all [own_ex, own_mk])
    · refine own_icmpY (pc' := 289) X2 at_243 ((feq h243).2) (by decide) (by decide) ?_
      refine own_iconst (pc' := 290) X2 at_289 rfl (z := (0 : Int32)) (by decide) ?_
      have f18 := (S1.keep K2 nin0 nin0)
      exact own_290 hw EWf i0 i1 i2 i3 la md lb aA aB aC aD bA bB bC bD x1 t1 x2 t2 (0 : Int32) (own_mono X2 (by decide : 6 ≤ 6) (by decide : 24 ≤ 24) all0) hGe CS SF p_la p_aA p_aB p_aC p_aD p_lb p_bA p_bB p_bC p_bD f18 S2 (by rcases p_la with rfl | rfl | rfl | rfl <;> rcases p_lb with rfl | rfl | rfl | rfl <;> simp_all [own_ex, own_mk])
  · refine own_icmpY (pc' := 289) X2 at_236 ((feq h236).2) (by decide) (by decide) ?_
    refine own_iconst (pc' := 290) X2 at_289 rfl (z := (0 : Int32)) (by decide) ?_
    have f19 := (S1.keep K2 nin0 nin0)
    exact own_290 hw EWf i0 i1 i2 i3 la md lb aA aB aC aD bA bB bC bD x1 t1 x2 t2 (0 : Int32) (own_mono X2 (by decide : 6 ≤ 6) (by decide : 24 ≤ 24) all0) hGe CS SF p_la p_aA p_aB p_aC p_aD p_lb p_bA p_bB p_bC p_bD f19 S2 (by rcases p_la with rfl | rfl | rfl | rfl <;> rcases p_lb with rfl | rfl | rfl | rfl <;> simp_all [own_ex, own_mk])
set_option maxRecDepth 65536 in
set_option maxHeartbeats 40000000 in
theorem own_158 {G : State → JFrame → Prop} {p : Program} {l : Launch} {e : Env} {s0 s : State} {m : MethodId} {args : Array Value} {below : List Frame} {meth : Method} {c : Code} {Z : State} {a0 : Array Value} {n0 : Nat} {T0 : State} {h0 : Heap} (hw : ∀ d ∈ tables_1, d.before a0 Z = true) (EWf : own_EW Z own_EL) (i0 i1 i2 i3 : Int32) (la md aA aB aC aD bA bB bC bD jj xx : Int32)
    (X0 : own_At G p l e room_1 s0 s own_EL [] m args below meth c Z n0 "com/example/periwinkle/periwinkle/NameEqualsPinLaw" "law" code maxLocals ret T0 h0 0 0) (hGe : G = own_Fin p e below s0 own_EL Z n0 (fun v h => v = some (.int 1)) room_1.cells room_1.slots) (CS : own_CS Z) (SF : own_SF Z) (p_la : own_14 la) (p_aA : own_Alw aA) (p_aB : own_Alw aB) (p_aC : own_Alw aC) (p_aD : own_Alw aD) (p_bA : own_Alw bA) (p_bB : own_Alw bB) (p_bC : own_Alw bC) (p_bD : own_Alw bD) (p_xx : own_Alw xx) :
    G T0 (mkF m 158 #[.val (.int i0), .val (.int i1), .val (.int i2), .val (.int i3), .val (.int la), .val (.int aA), .val (.int aB), .val (.int aC), .val (.int aD), .val (.int md), .val (.int la), .val (.int bA), .val (.int bB), .val (.int bC), .unset, .val (.int jj), .val (.int xx), .unset, .unset, .unset, .unset, .unset] [(.int bD)]) := by
  have W : ∀ (k : Nat) {d : Jvm.Cond}, tables_1[k]? = some d → d.before a0 Z = true := fun k d q => hw d (List.mem_of_getElem? q)
  refine own_istore (pc' := 160) X0 at_158 rfl (Ls' := #[.val (.int i0), .val (.int i1), .val (.int i2), .val (.int i3), .val (.int la), .val (.int aA), .val (.int aB), .val (.int aC), .val (.int aD), .val (.int md), .val (.int la), .val (.int bA), .val (.int bB), .val (.int bC), .val (.int bD), .val (.int jj), .val (.int xx), .unset, .unset, .unset, .unset, .unset]) rfl ?_
  refine own_goto (pc' := 202) X0 at_160 (by decide) (by decide) ?_
  exact own_202b hw EWf i0 i1 i2 i3 la md la aA aB aC aD bA bB bC bD jj xx (own_mono X0 (by decide : 0 ≤ 0) (by decide : 0 ≤ 0) all0) hGe CS SF p_la p_aA p_aB p_aC p_aD p_la p_bA p_bB p_bC p_bD
set_option maxRecDepth 65536 in
set_option maxHeartbeats 40000000 in
theorem own_143 {G : State → JFrame → Prop} {p : Program} {l : Launch} {e : Env} {s0 s : State} {m : MethodId} {args : Array Value} {below : List Frame} {meth : Method} {c : Code} {Z : State} {a0 : Array Value} {n0 : Nat} {T0 : State} {h0 : Heap} (hw : ∀ d ∈ tables_1, d.before a0 Z = true) (EWf : own_EW Z own_EL) (i0 i1 i2 i3 : Int32) (la md aA aB aC aD bA bB bC jj xx : Int32)
    (X0 : own_At G p l e room_1 s0 s own_EL [] m args below meth c Z n0 "com/example/periwinkle/periwinkle/NameEqualsPinLaw" "law" code maxLocals ret T0 h0 0 0) (hGe : G = own_Fin p e below s0 own_EL Z n0 (fun v h => v = some (.int 1)) room_1.cells room_1.slots) (CS : own_CS Z) (SF : own_SF Z) (p_la : own_14 la) (p_aA : own_Alw aA) (p_aB : own_Alw aB) (p_aC : own_Alw aC) (p_aD : own_Alw aD) (p_bA : own_Alw bA) (p_bB : own_Alw bB) (p_bC : own_Alw bC) (p_xx : own_Alw xx) :
    G T0 (mkF m 143 #[.val (.int i0), .val (.int i1), .val (.int i2), .val (.int i3), .val (.int la), .val (.int aA), .val (.int aB), .val (.int aC), .val (.int aD), .val (.int md), .val (.int la), .val (.int bA), .val (.int bB), .unset, .unset, .val (.int jj), .val (.int xx), .unset, .unset, .unset, .unset, .unset] [(.int bC)]) := by
  have W : ∀ (k : Nat) {d : Jvm.Cond}, tables_1[k]? = some d → d.before a0 Z = true := fun k d q => hw d (List.mem_of_getElem? q)
  refine own_istore (pc' := 145) X0 at_143 rfl (Ls' := #[.val (.int i0), .val (.int i1), .val (.int i2), .val (.int i3), .val (.int la), .val (.int aA), .val (.int aB), .val (.int aC), .val (.int aD), .val (.int md), .val (.int la), .val (.int bA), .val (.int bB), .val (.int bC), .unset, .val (.int jj), .val (.int xx), .unset, .unset, .unset, .unset, .unset]) rfl ?_
  refine own_iload (pc' := 147) X0 at_145 rfl rfl ?_
  refine own_iconst (pc' := 148) X0 at_147 rfl (z := (3 : Int32)) (by decide) ?_
  by_cases h148 : jj = (3 : Int32)
  · refine own_icmpN (pc' := 151) X0 at_148 rfl ((teq h148).2) ?_
    refine own_iload (pc' := 153) X0 at_151 rfl rfl ?_
    refine own_goto (pc' := 158) X0 at_153 (by decide) (by decide) ?_
    exact own_158 hw EWf i0 i1 i2 i3 la md aA aB aC aD bA bB bC xx jj xx (own_mono X0 (by decide : 0 ≤ 0) (by decide : 0 ≤ 0) all0) hGe CS SF p_la p_aA p_aB p_aC p_aD p_bA p_bB p_bC p_xx p_xx
  · refine own_icmpY (pc' := 156) X0 at_148 ((feq h148).2) (by decide) (by decide) ?_
    refine own_iload (pc' := 158) X0 at_156 rfl rfl ?_
    exact own_158 hw EWf i0 i1 i2 i3 la md aA aB aC aD bA bB bC aD jj xx (own_mono X0 (by decide : 0 ≤ 0) (by decide : 0 ≤ 0) all0) hGe CS SF p_la p_aA p_aB p_aC p_aD p_bA p_bB p_bC p_aD p_xx
set_option maxRecDepth 65536 in
set_option maxHeartbeats 40000000 in
theorem own_128 {G : State → JFrame → Prop} {p : Program} {l : Launch} {e : Env} {s0 s : State} {m : MethodId} {args : Array Value} {below : List Frame} {meth : Method} {c : Code} {Z : State} {a0 : Array Value} {n0 : Nat} {T0 : State} {h0 : Heap} (hw : ∀ d ∈ tables_1, d.before a0 Z = true) (EWf : own_EW Z own_EL) (i0 i1 i2 i3 : Int32) (la md aA aB aC aD bA bB jj xx : Int32)
    (X0 : own_At G p l e room_1 s0 s own_EL [] m args below meth c Z n0 "com/example/periwinkle/periwinkle/NameEqualsPinLaw" "law" code maxLocals ret T0 h0 0 0) (hGe : G = own_Fin p e below s0 own_EL Z n0 (fun v h => v = some (.int 1)) room_1.cells room_1.slots) (CS : own_CS Z) (SF : own_SF Z) (p_la : own_14 la) (p_aA : own_Alw aA) (p_aB : own_Alw aB) (p_aC : own_Alw aC) (p_aD : own_Alw aD) (p_bA : own_Alw bA) (p_bB : own_Alw bB) (p_xx : own_Alw xx) :
    G T0 (mkF m 128 #[.val (.int i0), .val (.int i1), .val (.int i2), .val (.int i3), .val (.int la), .val (.int aA), .val (.int aB), .val (.int aC), .val (.int aD), .val (.int md), .val (.int la), .val (.int bA), .unset, .unset, .unset, .val (.int jj), .val (.int xx), .unset, .unset, .unset, .unset, .unset] [(.int bB)]) := by
  have W : ∀ (k : Nat) {d : Jvm.Cond}, tables_1[k]? = some d → d.before a0 Z = true := fun k d q => hw d (List.mem_of_getElem? q)
  refine own_istore (pc' := 130) X0 at_128 rfl (Ls' := #[.val (.int i0), .val (.int i1), .val (.int i2), .val (.int i3), .val (.int la), .val (.int aA), .val (.int aB), .val (.int aC), .val (.int aD), .val (.int md), .val (.int la), .val (.int bA), .val (.int bB), .unset, .unset, .val (.int jj), .val (.int xx), .unset, .unset, .unset, .unset, .unset]) rfl ?_
  refine own_iload (pc' := 132) X0 at_130 rfl rfl ?_
  refine own_iconst (pc' := 133) X0 at_132 rfl (z := (2 : Int32)) (by decide) ?_
  by_cases h133 : jj = (2 : Int32)
  · refine own_icmpN (pc' := 136) X0 at_133 rfl ((teq h133).2) ?_
    refine own_iload (pc' := 138) X0 at_136 rfl rfl ?_
    refine own_goto (pc' := 143) X0 at_138 (by decide) (by decide) ?_
    exact own_143 hw EWf i0 i1 i2 i3 la md aA aB aC aD bA bB xx jj xx (own_mono X0 (by decide : 0 ≤ 0) (by decide : 0 ≤ 0) all0) hGe CS SF p_la p_aA p_aB p_aC p_aD p_bA p_bB p_xx p_xx
  · refine own_icmpY (pc' := 141) X0 at_133 ((feq h133).2) (by decide) (by decide) ?_
    refine own_iload (pc' := 143) X0 at_141 rfl rfl ?_
    exact own_143 hw EWf i0 i1 i2 i3 la md aA aB aC aD bA bB aC jj xx (own_mono X0 (by decide : 0 ≤ 0) (by decide : 0 ≤ 0) all0) hGe CS SF p_la p_aA p_aB p_aC p_aD p_bA p_bB p_aC p_xx
set_option maxRecDepth 65536 in
set_option maxHeartbeats 40000000 in
theorem own_113 {G : State → JFrame → Prop} {p : Program} {l : Launch} {e : Env} {s0 s : State} {m : MethodId} {args : Array Value} {below : List Frame} {meth : Method} {c : Code} {Z : State} {a0 : Array Value} {n0 : Nat} {T0 : State} {h0 : Heap} (hw : ∀ d ∈ tables_1, d.before a0 Z = true) (EWf : own_EW Z own_EL) (i0 i1 i2 i3 : Int32) (la md aA aB aC aD bA jj xx : Int32)
    (X0 : own_At G p l e room_1 s0 s own_EL [] m args below meth c Z n0 "com/example/periwinkle/periwinkle/NameEqualsPinLaw" "law" code maxLocals ret T0 h0 0 0) (hGe : G = own_Fin p e below s0 own_EL Z n0 (fun v h => v = some (.int 1)) room_1.cells room_1.slots) (CS : own_CS Z) (SF : own_SF Z) (p_la : own_14 la) (p_aA : own_Alw aA) (p_aB : own_Alw aB) (p_aC : own_Alw aC) (p_aD : own_Alw aD) (p_bA : own_Alw bA) (p_xx : own_Alw xx) :
    G T0 (mkF m 113 #[.val (.int i0), .val (.int i1), .val (.int i2), .val (.int i3), .val (.int la), .val (.int aA), .val (.int aB), .val (.int aC), .val (.int aD), .val (.int md), .val (.int la), .unset, .unset, .unset, .unset, .val (.int jj), .val (.int xx), .unset, .unset, .unset, .unset, .unset] [(.int bA)]) := by
  have W : ∀ (k : Nat) {d : Jvm.Cond}, tables_1[k]? = some d → d.before a0 Z = true := fun k d q => hw d (List.mem_of_getElem? q)
  refine own_istore (pc' := 115) X0 at_113 rfl (Ls' := #[.val (.int i0), .val (.int i1), .val (.int i2), .val (.int i3), .val (.int la), .val (.int aA), .val (.int aB), .val (.int aC), .val (.int aD), .val (.int md), .val (.int la), .val (.int bA), .unset, .unset, .unset, .val (.int jj), .val (.int xx), .unset, .unset, .unset, .unset, .unset]) rfl ?_
  refine own_iload (pc' := 117) X0 at_115 rfl rfl ?_
  refine own_iconst (pc' := 118) X0 at_117 rfl (z := (1 : Int32)) (by decide) ?_
  by_cases h118 : jj = (1 : Int32)
  · refine own_icmpN (pc' := 121) X0 at_118 rfl ((teq h118).2) ?_
    refine own_iload (pc' := 123) X0 at_121 rfl rfl ?_
    refine own_goto (pc' := 128) X0 at_123 (by decide) (by decide) ?_
    exact own_128 hw EWf i0 i1 i2 i3 la md aA aB aC aD bA xx jj xx (own_mono X0 (by decide : 0 ≤ 0) (by decide : 0 ≤ 0) all0) hGe CS SF p_la p_aA p_aB p_aC p_aD p_bA p_xx p_xx
  · refine own_icmpY (pc' := 126) X0 at_118 ((feq h118).2) (by decide) (by decide) ?_
    refine own_iload (pc' := 128) X0 at_126 rfl rfl ?_
    exact own_128 hw EWf i0 i1 i2 i3 la md aA aB aC aD bA aB jj xx (own_mono X0 (by decide : 0 ≤ 0) (by decide : 0 ≤ 0) all0) hGe CS SF p_la p_aA p_aB p_aC p_aD p_bA p_aB p_xx
theorem ef_own_law (m : MethodId) (x0 : Int32) (x1 : Int32) (x2 : Int32) (x3 : Int32) : entryFrame m #[(.int x0), (.int x1), (.int x2), (.int x3)] maxLocals = mkF m 0 #[.val (.int x0), .val (.int x1), .val (.int x2), .val (.int x3), .unset, .unset, .unset, .unset, .unset, .unset, .unset, .unset, .unset, .unset, .unset, .unset, .unset, .unset, .unset, .unset, .unset, .unset] [] := by first | (simp [entryFrame, mkF, argsToLocals, Value.category, maxLocals]; done) | rfl
set_option maxRecDepth 65536 in
set_option maxHeartbeats 40000000 in
theorem own_law (l : Launch) (Z : State) (a0 : Array Value) (hw : ∀ d ∈ tables_1, d.before a0 Z = true) (EWf : own_EW Z own_EL) (n0 : Nat) (i0 i1 i2 i3 : Int32) (h0 : Heap) (O0 : Old Z n0 h0) (CS : own_CS Z) (SF : own_SF Z) :
    own_Met l Z own_EL [] n0 x code maxLocals ret room_1 #[(.int i0), (.int i1), (.int i2), (.int i3)] h0 (fun v h => v = some (.int 1)) := by
  refine own_enter (own := "com/example/periwinkle/periwinkle/NameEqualsPinLaw") (nm := "law") (plainFor_of_name pn_0) rfl rfl O0 EWf ?_
  have W : ∀ (k : Nat) {d : Jvm.Cond}, tables_1[k]? = some d → d.before a0 Z = true := fun k d q => hw d (List.mem_of_getElem? q)
  intro G p e s m below meth c T0 hGe X0
  rw [ef_own_law m i0 i1 i2 i3]
  refine own_iconst (pc' := 1) X0 at_0 rfl (z := (1 : Int32)) (by decide) ?_
  refine own_iload_n (pc' := 2) X0 at_1 rfl rfl ?_
  refine own_iconst (pc' := 3) X0 at_2 rfl (z := (3 : Int32)) (by decide) ?_
  refine own_iand (pc' := 4) X0 at_3 rfl (r := (i3 &&& (3 : Int32))) rfl ?_
  refine own_iadd (pc' := 5) X0 at_4 rfl (r := ((1 : Int32) + (i3 &&& (3 : Int32)))) rfl ?_
  have p_la := own_len14 i3
  generalize hla : (1 : Int32) + (i3 &&& (3 : Int32)) = la at p_la ⊢
  show G T0 (mkF m 5 #[.val (.int i0), .val (.int i1), .val (.int i2), .val (.int i3), .unset, .unset, .unset, .unset, .unset, .unset, .unset, .unset, .unset, .unset, .unset, .unset, .unset, .unset, .unset, .unset, .unset, .unset] [(.int la)])
  refine own_istore (pc' := 7) X0 at_5 rfl (Ls' := #[.val (.int i0), .val (.int i1), .val (.int i2), .val (.int i3), .val (.int la), .unset, .unset, .unset, .unset, .unset, .unset, .unset, .unset, .unset, .unset, .unset, .unset, .unset, .unset, .unset, .unset, .unset]) rfl ?_
  refine own_iload_n (pc' := 8) X0 at_7 rfl rfl ?_
  refine own_callSM (pc' := 11) (cells' := 0) (slots' := 0) (argsL := [(.int i0)]) (rest := []) (W := 0) (y := (⟨"com/example/periwinkle/periwinkle/NameEqualsPinLaw", "allowed", "(I)C"⟩ : MethodName)) X0 (W 0 rfl) (W 1 rfl) (by decide) (own_allowed l Z a0 hw EWf n0 i0 h0 (own_old X0)) all0 (W 3 rfl) (W 2 rfl) (by decide) (by decide) rfl (lenOf pd_7 rfl) rfl rfl at_8 rfl rfl rfl rfl (by decide) (by decide) ?_
  intro v1 T1 h1 s1 X1 q1
  obtain ⟨⟨c1, rfl, Q1⟩, rfl⟩ := q1
  show G T1 (mkF m 11 #[.val (.int i0), .val (.int i1), .val (.int i2), .val (.int i3), .val (.int la), .unset, .unset, .unset, .unset, .unset, .unset, .unset, .unset, .unset, .unset, .unset, .unset, .unset, .unset, .unset, .unset, .unset] [(.int c1)])
  refine own_istore (pc' := 13) X1 at_11 rfl (Ls' := #[.val (.int i0), .val (.int i1), .val (.int i2), .val (.int i3), .val (.int la), .val (.int c1), .unset, .unset, .unset, .unset, .unset, .unset, .unset, .unset, .unset, .unset, .unset, .unset, .unset, .unset, .unset, .unset]) rfl ?_
  refine own_iload_n (pc' := 14) X1 at_13 rfl rfl ?_
  refine own_bipush (pc' := 16) X1 at_14 rfl (z := (8 : Int32)) (by decide) ?_
  refine own_iushr (pc' := 17) X1 at_16 rfl (r := (own_ushr i0 (8 : Int32))) rfl ?_
  refine own_callSM (pc' := 20) (cells' := 0) (slots' := 0) (argsL := [(.int (own_ushr i0 (8 : Int32)))]) (rest := []) (W := 0) (y := (⟨"com/example/periwinkle/periwinkle/NameEqualsPinLaw", "allowed", "(I)C"⟩ : MethodName)) X1 (W 0 rfl) (W 1 rfl) (by decide) (own_allowed l Z a0 hw EWf n0 (own_ushr i0 (8 : Int32)) h0 (own_old X1)) all0 (W 3 rfl) (W 2 rfl) (by decide) (by decide) rfl (lenOf pd_7 rfl) rfl rfl at_17 rfl rfl rfl rfl (by decide) (by decide) ?_
  intro v2 T2 h2 s2 X2 q2
  obtain ⟨⟨c2, rfl, Q2⟩, rfl⟩ := q2
  show G T2 (mkF m 20 #[.val (.int i0), .val (.int i1), .val (.int i2), .val (.int i3), .val (.int la), .val (.int c1), .unset, .unset, .unset, .unset, .unset, .unset, .unset, .unset, .unset, .unset, .unset, .unset, .unset, .unset, .unset, .unset] [(.int c2)])
  refine own_istore (pc' := 22) X2 at_20 rfl (Ls' := #[.val (.int i0), .val (.int i1), .val (.int i2), .val (.int i3), .val (.int la), .val (.int c1), .val (.int c2), .unset, .unset, .unset, .unset, .unset, .unset, .unset, .unset, .unset, .unset, .unset, .unset, .unset, .unset, .unset]) rfl ?_
  refine own_iload_n (pc' := 23) X2 at_22 rfl rfl ?_
  refine own_bipush (pc' := 25) X2 at_23 rfl (z := (16 : Int32)) (by decide) ?_
  refine own_iushr (pc' := 26) X2 at_25 rfl (r := (own_ushr i0 (16 : Int32))) rfl ?_
  refine own_callSM (pc' := 29) (cells' := 0) (slots' := 0) (argsL := [(.int (own_ushr i0 (16 : Int32)))]) (rest := []) (W := 0) (y := (⟨"com/example/periwinkle/periwinkle/NameEqualsPinLaw", "allowed", "(I)C"⟩ : MethodName)) X2 (W 0 rfl) (W 1 rfl) (by decide) (own_allowed l Z a0 hw EWf n0 (own_ushr i0 (16 : Int32)) h0 (own_old X2)) all0 (W 3 rfl) (W 2 rfl) (by decide) (by decide) rfl (lenOf pd_7 rfl) rfl rfl at_26 rfl rfl rfl rfl (by decide) (by decide) ?_
  intro v3 T3 h3 s3 X3 q3
  obtain ⟨⟨c3, rfl, Q3⟩, rfl⟩ := q3
  show G T3 (mkF m 29 #[.val (.int i0), .val (.int i1), .val (.int i2), .val (.int i3), .val (.int la), .val (.int c1), .val (.int c2), .unset, .unset, .unset, .unset, .unset, .unset, .unset, .unset, .unset, .unset, .unset, .unset, .unset, .unset, .unset] [(.int c3)])
  refine own_istore (pc' := 31) X3 at_29 rfl (Ls' := #[.val (.int i0), .val (.int i1), .val (.int i2), .val (.int i3), .val (.int la), .val (.int c1), .val (.int c2), .val (.int c3), .unset, .unset, .unset, .unset, .unset, .unset, .unset, .unset, .unset, .unset, .unset, .unset, .unset, .unset]) rfl ?_
  refine own_iload_n (pc' := 32) X3 at_31 rfl rfl ?_
  refine own_bipush (pc' := 34) X3 at_32 rfl (z := (8 : Int32)) (by decide) ?_
  refine own_iushr (pc' := 35) X3 at_34 rfl (r := (own_ushr i2 (8 : Int32))) rfl ?_
  refine own_callSM (pc' := 38) (cells' := 0) (slots' := 0) (argsL := [(.int (own_ushr i2 (8 : Int32)))]) (rest := []) (W := 0) (y := (⟨"com/example/periwinkle/periwinkle/NameEqualsPinLaw", "allowed", "(I)C"⟩ : MethodName)) X3 (W 0 rfl) (W 1 rfl) (by decide) (own_allowed l Z a0 hw EWf n0 (own_ushr i2 (8 : Int32)) h0 (own_old X3)) all0 (W 3 rfl) (W 2 rfl) (by decide) (by decide) rfl (lenOf pd_7 rfl) rfl rfl at_35 rfl rfl rfl rfl (by decide) (by decide) ?_
  intro v4 T4 h4 s4 X4 q4
  obtain ⟨⟨c4, rfl, Q4⟩, rfl⟩ := q4
  show G T4 (mkF m 38 #[.val (.int i0), .val (.int i1), .val (.int i2), .val (.int i3), .val (.int la), .val (.int c1), .val (.int c2), .val (.int c3), .unset, .unset, .unset, .unset, .unset, .unset, .unset, .unset, .unset, .unset, .unset, .unset, .unset, .unset] [(.int c4)])
  refine own_istore (pc' := 40) X4 at_38 rfl (Ls' := #[.val (.int i0), .val (.int i1), .val (.int i2), .val (.int i3), .val (.int la), .val (.int c1), .val (.int c2), .val (.int c3), .val (.int c4), .unset, .unset, .unset, .unset, .unset, .unset, .unset, .unset, .unset, .unset, .unset, .unset, .unset]) rfl ?_
  refine own_iload_n (pc' := 41) X4 at_40 rfl rfl ?_
  refine own_iconst (pc' := 42) X4 at_41 rfl (z := (2 : Int32)) (by decide) ?_
  refine own_iushr (pc' := 43) X4 at_42 rfl (r := (own_ushr i3 (2 : Int32))) rfl ?_
  refine own_iconst (pc' := 44) X4 at_43 rfl (z := (3 : Int32)) (by decide) ?_
  refine own_iand (pc' := 45) X4 at_44 rfl (r := ((own_ushr i3 (2 : Int32)) &&& (3 : Int32))) rfl ?_
  refine own_istore (pc' := 47) X4 at_45 rfl (Ls' := #[.val (.int i0), .val (.int i1), .val (.int i2), .val (.int i3), .val (.int la), .val (.int c1), .val (.int c2), .val (.int c3), .val (.int c4), .val (.int ((own_ushr i3 (2 : Int32)) &&& (3 : Int32))), .unset, .unset, .unset, .unset, .unset, .unset, .unset, .unset, .unset, .unset, .unset, .unset]) rfl ?_
  refine own_iload (pc' := 49) X4 at_47 rfl rfl ?_
  by_cases h49 : ((own_ushr i3 (2 : Int32)) &&& (3 : Int32)) = 0
  · refine own_ifN (pc' := 52) X4 at_49 rfl ((teq h49).2) ?_
    refine own_iload (pc' := 54) X4 at_52 rfl rfl ?_
    refine own_istore (pc' := 56) X4 at_54 rfl (Ls' := #[.val (.int i0), .val (.int i1), .val (.int i2), .val (.int i3), .val (.int la), .val (.int c1), .val (.int c2), .val (.int c3), .val (.int c4), .val (.int ((own_ushr i3 (2 : Int32)) &&& (3 : Int32))), .val (.int la), .unset, .unset, .unset, .unset, .unset, .unset, .unset, .unset, .unset, .unset, .unset]) rfl ?_
    refine own_iload (pc' := 58) X4 at_56 rfl rfl ?_
    refine own_istore (pc' := 60) X4 at_58 rfl (Ls' := #[.val (.int i0), .val (.int i1), .val (.int i2), .val (.int i3), .val (.int la), .val (.int c1), .val (.int c2), .val (.int c3), .val (.int c4), .val (.int ((own_ushr i3 (2 : Int32)) &&& (3 : Int32))), .val (.int la), .val (.int c1), .unset, .unset, .unset, .unset, .unset, .unset, .unset, .unset, .unset, .unset]) rfl ?_
    refine own_iload (pc' := 62) X4 at_60 rfl rfl ?_
    refine own_istore (pc' := 64) X4 at_62 rfl (Ls' := #[.val (.int i0), .val (.int i1), .val (.int i2), .val (.int i3), .val (.int la), .val (.int c1), .val (.int c2), .val (.int c3), .val (.int c4), .val (.int ((own_ushr i3 (2 : Int32)) &&& (3 : Int32))), .val (.int la), .val (.int c1), .val (.int c2), .unset, .unset, .unset, .unset, .unset, .unset, .unset, .unset, .unset]) rfl ?_
    refine own_iload (pc' := 66) X4 at_64 rfl rfl ?_
    refine own_istore (pc' := 68) X4 at_66 rfl (Ls' := #[.val (.int i0), .val (.int i1), .val (.int i2), .val (.int i3), .val (.int la), .val (.int c1), .val (.int c2), .val (.int c3), .val (.int c4), .val (.int ((own_ushr i3 (2 : Int32)) &&& (3 : Int32))), .val (.int la), .val (.int c1), .val (.int c2), .val (.int c3), .unset, .unset, .unset, .unset, .unset, .unset, .unset, .unset]) rfl ?_
    refine own_iload (pc' := 70) X4 at_68 rfl rfl ?_
    refine own_istore (pc' := 72) X4 at_70 rfl (Ls' := #[.val (.int i0), .val (.int i1), .val (.int i2), .val (.int i3), .val (.int la), .val (.int c1), .val (.int c2), .val (.int c3), .val (.int c4), .val (.int ((own_ushr i3 (2 : Int32)) &&& (3 : Int32))), .val (.int la), .val (.int c1), .val (.int c2), .val (.int c3), .val (.int c4), .unset, .unset, .unset, .unset, .unset, .unset, .unset]) rfl ?_
    refine own_goto (pc' := 202) X4 at_72 (by decide) (by decide) ?_
    exact own_202a hw EWf i0 i1 i2 i3 la ((own_ushr i3 (2 : Int32)) &&& (3 : Int32)) la c1 c2 c3 c4 c1 c2 c3 c4 (own_mono X4 (by decide : 0 ≤ 0) (by decide : 0 ≤ 0) all0) hGe CS SF p_la Q1 Q2 Q3 Q4 p_la Q1 Q2 Q3 Q4
  · refine own_ifY (pc' := 75) X4 at_49 ((feq h49).2) (by decide) (by decide) ?_
    refine own_iload (pc' := 77) X4 at_75 rfl rfl ?_
    refine own_iconst (pc' := 78) X4 at_77 rfl (z := (1 : Int32)) (by decide) ?_
    by_cases h78 : ((own_ushr i3 (2 : Int32)) &&& (3 : Int32)) = (1 : Int32)
    · refine own_icmpN (pc' := 81) X4 at_78 rfl ((teq h78).2) ?_
      refine own_iload (pc' := 83) X4 at_81 rfl rfl ?_
      refine own_istore (pc' := 85) X4 at_83 rfl (Ls' := #[.val (.int i0), .val (.int i1), .val (.int i2), .val (.int i3), .val (.int la), .val (.int c1), .val (.int c2), .val (.int c3), .val (.int c4), .val (.int ((own_ushr i3 (2 : Int32)) &&& (3 : Int32))), .val (.int la), .unset, .unset, .unset, .unset, .unset, .unset, .unset, .unset, .unset, .unset, .unset]) rfl ?_
      refine own_iload_n (pc' := 86) X4 at_85 rfl rfl ?_
      refine own_iconst (pc' := 87) X4 at_86 rfl (z := (4 : Int32)) (by decide) ?_
      refine own_iushr (pc' := 88) X4 at_87 rfl (r := (own_ushr i3 (4 : Int32))) rfl ?_
      refine own_iconst (pc' := 89) X4 at_88 rfl (z := (3 : Int32)) (by decide) ?_
      refine own_iand (pc' := 90) X4 at_89 rfl (r := ((own_ushr i3 (4 : Int32)) &&& (3 : Int32))) rfl ?_
      refine own_iload (pc' := 92) X4 at_90 rfl rfl ?_
      refine own_irem (pc' := 93) X4 at_92 rfl (own_14nz p_la) ?_
      refine own_istore (pc' := 95) X4 at_93 rfl (Ls' := #[.val (.int i0), .val (.int i1), .val (.int i2), .val (.int i3), .val (.int la), .val (.int c1), .val (.int c2), .val (.int c3), .val (.int c4), .val (.int ((own_ushr i3 (2 : Int32)) &&& (3 : Int32))), .val (.int la), .unset, .unset, .unset, .unset, .val (.int (((own_ushr i3 (4 : Int32)) &&& (3 : Int32)) % la)), .unset, .unset, .unset, .unset, .unset, .unset]) rfl ?_
      refine own_iload_n (pc' := 96) X4 at_95 rfl rfl ?_
      refine own_callSM (pc' := 99) (cells' := 0) (slots' := 0) (argsL := [(.int i1)]) (rest := []) (W := 0) (y := (⟨"com/example/periwinkle/periwinkle/NameEqualsPinLaw", "allowed", "(I)C"⟩ : MethodName)) X4 (W 0 rfl) (W 1 rfl) (by decide) (own_allowed l Z a0 hw EWf n0 i1 h0 (own_old X4)) all0 (W 3 rfl) (W 2 rfl) (by decide) (by decide) rfl (lenOf pd_7 rfl) rfl rfl at_96 rfl rfl rfl rfl (by decide) (by decide) ?_
      intro v5 T5 h5 s5 X5 q5
      obtain ⟨⟨c5, rfl, Q5⟩, rfl⟩ := q5
      show G T5 (mkF m 99 #[.val (.int i0), .val (.int i1), .val (.int i2), .val (.int i3), .val (.int la), .val (.int c1), .val (.int c2), .val (.int c3), .val (.int c4), .val (.int ((own_ushr i3 (2 : Int32)) &&& (3 : Int32))), .val (.int la), .unset, .unset, .unset, .unset, .val (.int (((own_ushr i3 (4 : Int32)) &&& (3 : Int32)) % la)), .unset, .unset, .unset, .unset, .unset, .unset] [(.int c5)])
      refine own_istore (pc' := 101) X5 at_99 rfl (Ls' := #[.val (.int i0), .val (.int i1), .val (.int i2), .val (.int i3), .val (.int la), .val (.int c1), .val (.int c2), .val (.int c3), .val (.int c4), .val (.int ((own_ushr i3 (2 : Int32)) &&& (3 : Int32))), .val (.int la), .unset, .unset, .unset, .unset, .val (.int (((own_ushr i3 (4 : Int32)) &&& (3 : Int32)) % la)), .val (.int c5), .unset, .unset, .unset, .unset, .unset]) rfl ?_
      refine own_iload (pc' := 103) X5 at_101 rfl rfl ?_
      by_cases h103 : (((own_ushr i3 (4 : Int32)) &&& (3 : Int32)) % la) = 0
      · refine own_ifN (pc' := 106) X5 at_103 rfl ((teq h103).2) ?_
        refine own_iload (pc' := 108) X5 at_106 rfl rfl ?_
        refine own_goto (pc' := 113) X5 at_108 (by decide) (by decide) ?_
        exact own_113 hw EWf i0 i1 i2 i3 la ((own_ushr i3 (2 : Int32)) &&& (3 : Int32)) c1 c2 c3 c4 c5 (((own_ushr i3 (4 : Int32)) &&& (3 : Int32)) % la) c5 (own_mono X5 (by decide : 0 ≤ 0) (by decide : 0 ≤ 0) all0) hGe CS SF p_la Q1 Q2 Q3 Q4 Q5 Q5
      · refine own_ifY (pc' := 111) X5 at_103 ((feq h103).2) (by decide) (by decide) ?_
        refine own_iload (pc' := 113) X5 at_111 rfl rfl ?_
        exact own_113 hw EWf i0 i1 i2 i3 la ((own_ushr i3 (2 : Int32)) &&& (3 : Int32)) c1 c2 c3 c4 c1 (((own_ushr i3 (4 : Int32)) &&& (3 : Int32)) % la) c5 (own_mono X5 (by decide : 0 ≤ 0) (by decide : 0 ≤ 0) all0) hGe CS SF p_la Q1 Q2 Q3 Q4 Q1 Q5
    · refine own_icmpY (pc' := 163) X4 at_78 ((feq h78).2) (by decide) (by decide) ?_
      refine own_iconst (pc' := 164) X4 at_163 rfl (z := (1 : Int32)) (by decide) ?_
      refine own_iload_n (pc' := 165) X4 at_164 rfl rfl ?_
      refine own_iconst (pc' := 166) X4 at_165 rfl (z := (4 : Int32)) (by decide) ?_
      refine own_iushr (pc' := 167) X4 at_166 rfl (r := (own_ushr i3 (4 : Int32))) rfl ?_
      refine own_iconst (pc' := 168) X4 at_167 rfl (z := (3 : Int32)) (by decide) ?_
      refine own_iand (pc' := 169) X4 at_168 rfl (r := ((own_ushr i3 (4 : Int32)) &&& (3 : Int32))) rfl ?_
      refine own_iadd (pc' := 170) X4 at_169 rfl (r := ((1 : Int32) + ((own_ushr i3 (4 : Int32)) &&& (3 : Int32)))) rfl ?_
      refine own_istore (pc' := 172) X4 at_170 rfl (Ls' := #[.val (.int i0), .val (.int i1), .val (.int i2), .val (.int i3), .val (.int la), .val (.int c1), .val (.int c2), .val (.int c3), .val (.int c4), .val (.int ((own_ushr i3 (2 : Int32)) &&& (3 : Int32))), .val (.int ((1 : Int32) + ((own_ushr i3 (4 : Int32)) &&& (3 : Int32)))), .unset, .unset, .unset, .unset, .unset, .unset, .unset, .unset, .unset, .unset, .unset]) rfl ?_
      refine own_iload_n (pc' := 173) X4 at_172 rfl rfl ?_
      refine own_callSM (pc' := 176) (cells' := 0) (slots' := 0) (argsL := [(.int i1)]) (rest := []) (W := 0) (y := (⟨"com/example/periwinkle/periwinkle/NameEqualsPinLaw", "allowed", "(I)C"⟩ : MethodName)) X4 (W 0 rfl) (W 1 rfl) (by decide) (own_allowed l Z a0 hw EWf n0 i1 h0 (own_old X4)) all0 (W 3 rfl) (W 2 rfl) (by decide) (by decide) rfl (lenOf pd_7 rfl) rfl rfl at_173 rfl rfl rfl rfl (by decide) (by decide) ?_
      intro v6 T6 h6 s6 X6 q6
      obtain ⟨⟨c6, rfl, Q6⟩, rfl⟩ := q6
      show G T6 (mkF m 176 #[.val (.int i0), .val (.int i1), .val (.int i2), .val (.int i3), .val (.int la), .val (.int c1), .val (.int c2), .val (.int c3), .val (.int c4), .val (.int ((own_ushr i3 (2 : Int32)) &&& (3 : Int32))), .val (.int ((1 : Int32) + ((own_ushr i3 (4 : Int32)) &&& (3 : Int32)))), .unset, .unset, .unset, .unset, .unset, .unset, .unset, .unset, .unset, .unset, .unset] [(.int c6)])
      refine own_istore (pc' := 178) X6 at_176 rfl (Ls' := #[.val (.int i0), .val (.int i1), .val (.int i2), .val (.int i3), .val (.int la), .val (.int c1), .val (.int c2), .val (.int c3), .val (.int c4), .val (.int ((own_ushr i3 (2 : Int32)) &&& (3 : Int32))), .val (.int ((1 : Int32) + ((own_ushr i3 (4 : Int32)) &&& (3 : Int32)))), .val (.int c6), .unset, .unset, .unset, .unset, .unset, .unset, .unset, .unset, .unset, .unset]) rfl ?_
      refine own_iload_n (pc' := 179) X6 at_178 rfl rfl ?_
      refine own_bipush (pc' := 181) X6 at_179 rfl (z := (8 : Int32)) (by decide) ?_
      refine own_iushr (pc' := 182) X6 at_181 rfl (r := (own_ushr i1 (8 : Int32))) rfl ?_
      refine own_callSM (pc' := 185) (cells' := 0) (slots' := 0) (argsL := [(.int (own_ushr i1 (8 : Int32)))]) (rest := []) (W := 0) (y := (⟨"com/example/periwinkle/periwinkle/NameEqualsPinLaw", "allowed", "(I)C"⟩ : MethodName)) X6 (W 0 rfl) (W 1 rfl) (by decide) (own_allowed l Z a0 hw EWf n0 (own_ushr i1 (8 : Int32)) h0 (own_old X6)) all0 (W 3 rfl) (W 2 rfl) (by decide) (by decide) rfl (lenOf pd_7 rfl) rfl rfl at_182 rfl rfl rfl rfl (by decide) (by decide) ?_
      intro v7 T7 h7 s7 X7 q7
      obtain ⟨⟨c7, rfl, Q7⟩, rfl⟩ := q7
      show G T7 (mkF m 185 #[.val (.int i0), .val (.int i1), .val (.int i2), .val (.int i3), .val (.int la), .val (.int c1), .val (.int c2), .val (.int c3), .val (.int c4), .val (.int ((own_ushr i3 (2 : Int32)) &&& (3 : Int32))), .val (.int ((1 : Int32) + ((own_ushr i3 (4 : Int32)) &&& (3 : Int32)))), .val (.int c6), .unset, .unset, .unset, .unset, .unset, .unset, .unset, .unset, .unset, .unset] [(.int c7)])
      refine own_istore (pc' := 187) X7 at_185 rfl (Ls' := #[.val (.int i0), .val (.int i1), .val (.int i2), .val (.int i3), .val (.int la), .val (.int c1), .val (.int c2), .val (.int c3), .val (.int c4), .val (.int ((own_ushr i3 (2 : Int32)) &&& (3 : Int32))), .val (.int ((1 : Int32) + ((own_ushr i3 (4 : Int32)) &&& (3 : Int32)))), .val (.int c6), .val (.int c7), .unset, .unset, .unset, .unset, .unset, .unset, .unset, .unset, .unset]) rfl ?_
      refine own_iload_n (pc' := 188) X7 at_187 rfl rfl ?_
      refine own_bipush (pc' := 190) X7 at_188 rfl (z := (16 : Int32)) (by decide) ?_
      refine own_iushr (pc' := 191) X7 at_190 rfl (r := (own_ushr i1 (16 : Int32))) rfl ?_
      refine own_callSM (pc' := 194) (cells' := 0) (slots' := 0) (argsL := [(.int (own_ushr i1 (16 : Int32)))]) (rest := []) (W := 0) (y := (⟨"com/example/periwinkle/periwinkle/NameEqualsPinLaw", "allowed", "(I)C"⟩ : MethodName)) X7 (W 0 rfl) (W 1 rfl) (by decide) (own_allowed l Z a0 hw EWf n0 (own_ushr i1 (16 : Int32)) h0 (own_old X7)) all0 (W 3 rfl) (W 2 rfl) (by decide) (by decide) rfl (lenOf pd_7 rfl) rfl rfl at_191 rfl rfl rfl rfl (by decide) (by decide) ?_
      intro v8 T8 h8 s8 X8 q8
      obtain ⟨⟨c8, rfl, Q8⟩, rfl⟩ := q8
      show G T8 (mkF m 194 #[.val (.int i0), .val (.int i1), .val (.int i2), .val (.int i3), .val (.int la), .val (.int c1), .val (.int c2), .val (.int c3), .val (.int c4), .val (.int ((own_ushr i3 (2 : Int32)) &&& (3 : Int32))), .val (.int ((1 : Int32) + ((own_ushr i3 (4 : Int32)) &&& (3 : Int32)))), .val (.int c6), .val (.int c7), .unset, .unset, .unset, .unset, .unset, .unset, .unset, .unset, .unset] [(.int c8)])
      refine own_istore (pc' := 196) X8 at_194 rfl (Ls' := #[.val (.int i0), .val (.int i1), .val (.int i2), .val (.int i3), .val (.int la), .val (.int c1), .val (.int c2), .val (.int c3), .val (.int c4), .val (.int ((own_ushr i3 (2 : Int32)) &&& (3 : Int32))), .val (.int ((1 : Int32) + ((own_ushr i3 (4 : Int32)) &&& (3 : Int32)))), .val (.int c6), .val (.int c7), .val (.int c8), .unset, .unset, .unset, .unset, .unset, .unset, .unset, .unset]) rfl ?_
      refine own_iload_n (pc' := 197) X8 at_196 rfl rfl ?_
      refine own_callSM (pc' := 200) (cells' := 0) (slots' := 0) (argsL := [(.int i2)]) (rest := []) (W := 0) (y := (⟨"com/example/periwinkle/periwinkle/NameEqualsPinLaw", "allowed", "(I)C"⟩ : MethodName)) X8 (W 0 rfl) (W 1 rfl) (by decide) (own_allowed l Z a0 hw EWf n0 i2 h0 (own_old X8)) all0 (W 3 rfl) (W 2 rfl) (by decide) (by decide) rfl (lenOf pd_7 rfl) rfl rfl at_197 rfl rfl rfl rfl (by decide) (by decide) ?_
      intro v9 T9 h9 s9 X9 q9
      obtain ⟨⟨c9, rfl, Q9⟩, rfl⟩ := q9
      show G T9 (mkF m 200 #[.val (.int i0), .val (.int i1), .val (.int i2), .val (.int i3), .val (.int la), .val (.int c1), .val (.int c2), .val (.int c3), .val (.int c4), .val (.int ((own_ushr i3 (2 : Int32)) &&& (3 : Int32))), .val (.int ((1 : Int32) + ((own_ushr i3 (4 : Int32)) &&& (3 : Int32)))), .val (.int c6), .val (.int c7), .val (.int c8), .unset, .unset, .unset, .unset, .unset, .unset, .unset, .unset] [(.int c9)])
      refine own_istore (pc' := 202) X9 at_200 rfl (Ls' := #[.val (.int i0), .val (.int i1), .val (.int i2), .val (.int i3), .val (.int la), .val (.int c1), .val (.int c2), .val (.int c3), .val (.int c4), .val (.int ((own_ushr i3 (2 : Int32)) &&& (3 : Int32))), .val (.int ((1 : Int32) + ((own_ushr i3 (4 : Int32)) &&& (3 : Int32)))), .val (.int c6), .val (.int c7), .val (.int c8), .val (.int c9), .unset, .unset, .unset, .unset, .unset, .unset, .unset]) rfl ?_
      exact own_202a hw EWf i0 i1 i2 i3 la ((own_ushr i3 (2 : Int32)) &&& (3 : Int32)) ((1 : Int32) + ((own_ushr i3 (4 : Int32)) &&& (3 : Int32))) c1 c2 c3 c4 c6 c7 c8 c9 (own_mono X9 (by decide : 0 ≤ 0) (by decide : 0 ≤ 0) all0) hGe CS SF p_la Q1 Q2 Q3 Q4 (own_len14 _) Q6 Q7 Q8 Q9
set_option maxRecDepth 65536 in
set_option maxHeartbeats 40000000 in
theorem comes_1 {Post : Tables → Env → Array Value → State → Outcome → State → Prop} (hpost : ∀ tb e args s v u, (limb_1_1.after args s (.returned v) u = true ∧ limb_1_2.after args s (.returned v) u = true ∧ True) → ReturnedEndW s (.returned v) u (Jvm.fieldLocs frame_1_writes args s ++ Jvm.arrayLocs frame_1_arrays args s ++ Jvm.staticLocs frame_1_statics s) 32 2176 → Post tb e args s (.returned v) u) :
    ArmFor flags0 classFile x code maxLocals ret World_1 tables_1 room_1 Calls_1 rest_1 Pre_1 Post := by
  intro l hfl _ _ p e ha hc hk s m args below hf hA hF happ hP
  obtain ⟨hcalls, hrest, hpre⟩ := hP
  obtain ⟨-, -, -, hnamed, -, -, -, hat⟩ := (Spec.applies_iff hf).mp happ
  obtain ⟨hg, hn⟩ := and_e (Cond.before_iff.mp (show (Jvm.Cond.and given_1 narrow_1).before args s = true from hpre))
  obtain ⟨h1, g0⟩ := and_e hg
  obtain ⟨b0, g1⟩ := and_e g0
  obtain ⟨b1, g2⟩ := and_e g1
  obtain ⟨b2, g3⟩ := and_e g2
  have b3 := g3
  obtain ⟨w0, w1, w2, w3, rfl⟩ : ∃ w0 w1 w2 w3 : Value, args = #[w0, w1, w2, w3] := by
    have hs : args.size = 4 := by simpa [Cond.value, given_1] using h1
    obtain ⟨L⟩ := args
    match L, hs with
    | [w0, w1, w2, w3], _ => exact ⟨w0, w1, w2, w3, rfl⟩
  have hw := fun d (hd : d ∈ tables_1) => atoms_spec (ws := Jvm.Cond.code x code maxLocals ret :: tables_1) hat d (List.mem_cons_of_mem _ hd)
  obtain ⟨hsets, hown0⟩ := atoms_of _ (rest_1_c_eq ▸ (show rest_1_c.before _ s = true from hrest))
  have hfit : Fit s := fun {y c} hc i hi => by
    obtain ⟨ha, rfl⟩ := Array.getElem?_eq_some_iff.mp hc
    have q := List.all_eq_true.mp ((Array.all_eq_true_iff_forall_mem.mp hF) _ (Array.getElem_mem ha)) i (List.mem_range.mpr hi)
    simpa [Array.getElem?_eq_getElem hi] using q
  obtain ⟨i0, e0⟩ := is_v b0
  obtain rfl : w0 = (.int i0) := Option.some.inj e0
  obtain ⟨i1, e1⟩ := is_v b1
  obtain rfl : w1 = (.int i1) := Option.some.inj e1
  obtain ⟨i2, e2⟩ := is_v b2
  obtain rfl : w2 = (.int i2) := Option.some.inj e2
  obtain ⟨i3, e3⟩ := is_v b3
  obtain rfl : w3 = (.int i3) := Option.some.inj e3
  obtain ⟨zc, ec⟩ := is_v (Cond.before_iff.mp (hsets _ (List.mem_of_getElem? (i := 1) rfl)))
  have CS : own_CS s := ⟨zc, Sta.start ec (Or.inl (hsets _ (List.mem_of_getElem? (i := 0) rfl))), gotF (Cond.eq_ints ec (Term.int_eval (0))) (not_v (Cond.before_iff.mp (hsets _ (List.mem_of_getElem? (i := 2) rfl))))⟩
  obtain ⟨vf, evf, hvf⟩ := isR_v (Cond.before_iff.mp (hsets _ (List.mem_of_getElem? (i := 8) rfl)))
  have SF : own_SF s := ⟨vf, Sta.start evf (Or.inl (hsets _ (List.mem_of_getElem? (i := 7) rfl))), hvf⟩
  have EW0 : EW s _ own_EL := (EW.cons (hw _ (List.mem_of_getElem? (i := 112) rfl)) (by decide) EW.nil)
  have EWf : own_EW s own_EL := ⟨_, EW0⟩
  have hsf : own_Sf s own_EL [] s.vm s.heap := ⟨CHv.start EW0 (own_allP (own_held (hcalls.1 _ (List.mem_of_getElem? (i := 1) rfl))) own_allN) (own_cw (hsets _ (List.mem_of_getElem? (i := 2) rfl))) (hw _ (List.mem_of_getElem? (i := 27) rfl)) (hw _ (List.mem_of_getElem? (i := 9) rfl)), all0⟩
  obtain ⟨n, o, h1, h2, h3, _, L, rfl, ⟨rfl, N, -⟩, -, hq⟩ := own_law l s _ hw EWf s.heap.size i0 i1 i2 i3 s.heap (Old.start s) CS SF tables_1 p e ha hc hk s m _ below hf ((Spec.applies_iff_loose hf).mp happ).1 ⟨rfl, State.Warmed39.refl s, rfl, hsf⟩ trivial
  refine ⟨n, _, h1, h2, h3, hpost _ _ _ _ _ _ ⟨Cond.after_iff.mpr rfl, Cond.after_iff.mpr (eq_i res_at (Term.int_eval (1)) rfl), trivial⟩ ⟨hq.1, hq.2.1, hq.2.2.1, (hq.2.2.2.sift fun y hy => Or.inr (N y hy)).mono (by decide) (by decide)⟩⟩
theorem main_1_1 : Claimed_1_1 := comes_1 fun _ _ _ _ _ _ h hF => ⟨h.1, hF⟩
theorem main_1_2 : Claimed_1_2 := comes_1 fun _ _ _ _ _ _ h hF => ⟨h.2.1, hF⟩
end Jvm.Pilot.@@N@@
namespace Jvm.Pilot.@@N@@
open Jvm Jvm.ClassFile Sem Op Lib Jvm.Free Jvm.Stand Jvm.Pilot.@@N@@.Jvm.D
/-! MADE BY PROGRAM (witnessworld.py) out of the Statement's table words and the real class files: 22 classes; the members and pool entries that the words name. The judged class is class 1, her method 3. -/
namespace start1
open Jvm.ClassFile
def u (s : String) : CpInfo := .utf8 (stringToUtf16 s)
/-- a pool by its gaps: so many unusable entries, then the entry; so many at the end -/
def gap : Nat → List CpInfo → List CpInfo
  | 0, r => r
  | n + 1, r => .unusable :: gap n r
def poolList (es : List (Nat × CpInfo)) (last : Nat) : List CpInfo := es.foldr (fun e r => gap e.1 (e.2 :: r)) (gap last [])
def pool (es : List (Nat × CpInfo)) (last : Nat) : Array CpInfo := ⟨poolList es last⟩
def fileOf (pool : Array CpInfo) (this : Nat) (attrs : Array Attribute := #[]) (ms : Array MethodInfo := #[]) (fl : Nat := 33) (sup : Nat := 0) (ifs : Array Nat := #[]) (fds : Array FieldInfo := #[]) : ClassFile where
  minorVersion := 0
  majorVersion := 65
  constantPool := pool
  accessFlags := fl
  thisClass := this
  superClass := sup
  interfaces := ifs
  fields := fds
  methods := ms
  attributes := attrs
def plain (name : String) (sup : Option ClassId) : Class where
  name := name
  kind := .ordinary
  loader := none
  accessFlags := 33
  super := sup
  interfaces := #[]
  cf := none
  fields := #[]
  methods := #[]
  instanceTypes := #[]
  staticTypes := #[]
  resolved := #[]
  callSites := []
  init := .initialized
  statics := none
  mirror := none

def pool0 : Array CpInfo := pool [(5, u "<init>"), (0, u "()V"), (1, .class_ 10), (1, u "java/lang/Object")] 113

def k0c0 : Code := { maxStack := 0, maxLocals := 1, code := object_method_1_code, exceptionTable := #[], attributes := #[] }
def k0m0 : Method := { name := "<init>", desc := "()V", sig := { parameters := [], returnType := none }, accessFlags := 1, code := some k0c0 }
/-- java/lang/Object -/
def k0 : Class := { plain "java/lang/Object" none with
  accessFlags := 33
  interfaces := #[]
  cf := some (fileOf pool0 8 #[] #[{ accessFlags := 1, nameIndex := 5, descriptorIndex := 6, attributes := #[] }] 33 0 #[] #[])
  fields := #[]
  methods := #[k0m0]
  instanceTypes := #[]
  staticTypes := #[]
  resolved := Array.replicate 124 none
  statics := none }

def pool1 : Array CpInfo := pool [(2, .class_ 4), (1, u "java/lang/Object"), (0, u "<init>"), (0, u "()V"), (0, .integer 2147483647), (0, .class_ 9), (0, u "java/lang/String"), (0, .methodref 8 11), (0, .nameAndType 5 12), (0, u "([C)V"), (0, .methodref 14 15), (0, .class_ 16), (0, .nameAndType 17 18), (0, u "com/example/periwinkle/periwinkle/NameEqualsPinLaw"), (0, u "allowed"), (0, u "(I)C"), (0, .methodref 14 20), (0, .nameAndType 21 22), (0, u "make"), (0, u "(ICCCC)Ljava/lang/String;"), (0, .class_ 24), (0, u "com/example/periwinkle/periwinkle/Name"), (0, .methodref 23 26), (0, .nameAndType 5 27), (0, u "(Ljava/lang/String;)V"), (0, .methodref 23 29), (0, .nameAndType 30 31), (0, u "equals"), (0, u "(Ljava/lang/Object;)Z"), (3, u "law"), (0, u "(IIII)Z")] 2

def k1m0 : Method := { name := "<init>", desc := "()V", sig := { parameters := [], returnType := none }, accessFlags := 1, code := none }
def k1c1 : Code := { maxStack := 3, maxLocals := 2, code := method_2_code, exceptionTable := #[], attributes := #[] }
def k1m1 : Method := { name := "allowed", desc := "(I)C", sig := { parameters := [.int], returnType := some .char }, accessFlags := 10, code := some k1c1 }
def k1c2 : Code := { maxStack := 6, maxLocals := 5, code := method_3_code, exceptionTable := #[], attributes := #[] }
def k1m2 : Method := { name := "make", desc := "(ICCCC)Ljava/lang/String;", sig := { parameters := [.int, .char, .char, .char, .char], returnType := some (.object "java/lang/String") }, accessFlags := 10, code := some k1c2 }
def k1c3 : Code := { maxStack := 5, maxLocals := 22, code := code, exceptionTable := #[], attributes := #[] }
def k1m3 : Method := { name := "law", desc := "(IIII)Z", sig := { parameters := [.int, .int, .int, .int], returnType := some .boolean }, accessFlags := 9, code := some k1c3 }
/-- com/example/periwinkle/periwinkle/NameEqualsPinLaw -/
def k1 : Class := { plain "com/example/periwinkle/periwinkle/NameEqualsPinLaw" (some 0) with
  accessFlags := 49
  interfaces := #[]
  cf := some (fileOf pool1 14 #[] #[{ accessFlags := 1, nameIndex := 5, descriptorIndex := 6, attributes := #[] }, { accessFlags := 10, nameIndex := 17, descriptorIndex := 18, attributes := #[] }, { accessFlags := 10, nameIndex := 21, descriptorIndex := 22, attributes := #[] }, { accessFlags := 9, nameIndex := 35, descriptorIndex := 36, attributes := #[] }] 49 2 #[] #[])
  fields := #[]
  methods := #[k1m0, k1m1, k1m2, k1m3]
  instanceTypes := #[]
  staticTypes := #[]
  resolved := Array.replicate 39 none
  statics := none }

def pool2 : Array CpInfo := pool [(1, .class_ 2), (0, u "java/io/Serializable"), (0, .class_ 4), (0, u "java/lang/Object")] 2

/-- java/io/Serializable -/
def k2 : Class := { plain "java/io/Serializable" (some 0) with
  accessFlags := 1537
  interfaces := #[]
  cf := some (fileOf pool2 1 #[] #[] 1537 3 #[] #[])
  fields := #[]
  methods := #[]
  instanceTypes := #[]
  staticTypes := #[]
  resolved := Array.replicate 7 none
  statics := none }

def pool3 : Array CpInfo := pool [(1, .class_ 2), (0, u "java/lang/Comparable"), (0, .class_ 4), (0, u "java/lang/Object")] 7

/-- java/lang/Comparable -/
def k3 : Class := { plain "java/lang/Comparable" (some 0) with
  accessFlags := 1537
  interfaces := #[]
  cf := some (fileOf pool3 1 #[] #[] 1537 3 #[] #[])
  fields := #[]
  methods := #[]
  instanceTypes := #[]
  staticTypes := #[]
  resolved := Array.replicate 12 none
  statics := none }

def pool4 : Array CpInfo := pool [(2, .class_ 4), (1, u "java/lang/CharSequence"), (42, .class_ 48), (0, u "java/lang/CharSequence$1CodePointIterator"), (10, .class_ 60), (0, u "java/lang/CharSequence$1CharIterator"), (5, .class_ 67), (0, u "java/lang/Object")] 63

/-- java/lang/CharSequence -/
def k4 : Class := { plain "java/lang/CharSequence" (some 0) with
  accessFlags := 1537
  interfaces := #[]
  cf := some (fileOf pool4 2 #[.nestMembers #[47, 59]] #[] 1537 66 #[] #[])
  fields := #[]
  methods := #[]
  instanceTypes := #[]
  staticTypes := #[]
  resolved := Array.replicate 131 none
  statics := none }

def pool5 : Array CpInfo := pool [(1, .class_ 2), (0, u "java/lang/constant/Constable"), (0, .class_ 4), (0, u "java/lang/Object")] 6

/-- java/lang/constant/Constable -/
def k5 : Class := { plain "java/lang/constant/Constable" (some 0) with
  accessFlags := 1537
  interfaces := #[]
  cf := some (fileOf pool5 1 #[] #[] 1537 3 #[] #[])
  fields := #[]
  methods := #[]
  instanceTypes := #[]
  staticTypes := #[]
  resolved := Array.replicate 11 none
  statics := none }

def pool6 : Array CpInfo := pool [(1, .class_ 2), (0, u "java/lang/constant/ConstantDesc"), (0, .class_ 4), (0, u "java/lang/Object")] 32

/-- java/lang/constant/ConstantDesc -/
def k6 : Class := { plain "java/lang/constant/ConstantDesc" (some 0) with
  accessFlags := 1537
  interfaces := #[]
  cf := some (fileOf pool6 1 #[] #[] 1537 3 #[] #[])
  fields := #[]
  methods := #[]
  instanceTypes := #[]
  staticTypes := #[]
  resolved := Array.replicate 37 none
  statics := none }

def pool7 : Array CpInfo := pool [(1, .methodref 2 3), (0, .class_ 4), (0, .nameAndType 5 6), (0, u "java/lang/Object"), (0, u "<init>"), (0, u "()V"), (2, .fieldref 10 11), (0, .class_ 12), (0, .nameAndType 13 14), (0, u "java/lang/String"), (0, u "value"), (0, u "[B"), (0, .fieldref 10 16), (0, .nameAndType 17 18), (0, u "coder"), (0, u "B"), (2, u "hash"), (0, u "I"), (2, u "hashIsZero"), (0, u "Z"), (0, .methodref 10 28), (0, .nameAndType 5 29), (0, u "([CIILjava/lang/Void;)V"), (8, .fieldref 10 39), (0, .nameAndType 40 26), (0, u "COMPACT_STRINGS"), (1, .class_ 44), (1, u "java/lang/StringUTF16"), (0, u "compress"), (1, .methodref 42 48), (0, .nameAndType 49 50), (0, u "coderFromArrayLen"), (0, u "([BI)B"), (56, .class_ 109), (1, u "java/lang/StringLatin1"), (32, u "()Z"), (34, .methodref 42 178), (0, .nameAndType 45 179), (0, u "([CII)[B"), (154, u "()I"), (0, .methodref 10 336), (0, .nameAndType 17 337), (0, u "()B"), (25, u "([BI)C"), (27, u "(II)V"), (35, u "(I)C"), (64, .methodref 10 493), (0, .nameAndType 494 142), (0, u "isLatin1"), (0, .methodref 107 496), (0, .nameAndType 497 363), (0, u "charAt"), (3, u "checkIndex"), (3, .methodref 10 506), (0, .nameAndType 507 334), (0, u "length"), (33, .methodref 107 542), (0, .nameAndType 543 544), (0, u "equals"), (0, u "([B[B)Z"), (28, u "(Ljava/lang/Object;)Z"), (1, .class_ 576), (0, u "java/lang/CharSequence"), (22, u "CASE_INSENSITIVE_ORDER"), (0, u "Ljava/util/Comparator;"), (32, .methodref 10 634), (0, .nameAndType 635 636), (0, u "indexOf"), (0, u "(II)I"), (0, .methodref 107 638), (0, .nameAndType 635 639), (0, u "([BIII)I"), (52, u "isEmpty"), (72, u "(I)I"), (244, u "([C)V"), (42, .fieldref 1054 1055), (0, .class_ 1056), (0, .nameAndType 1057 1058), (0, u "jdk/internal/util/Preconditions"), (0, u "SIOOBE_FORMATTER"), (0, u "Ljava/util/function/BiFunction;"), (0, .methodref 1054 1060), (0, .nameAndType 501 1061), (0, u "(IILjava/util/function/BiFunction;)I"), (39, u "serialPersistentFields"), (0, u "[Ljava/io/ObjectStreamField;"), (0, .class_ 1104), (0, u "java/lang/String$CaseInsensitiveComparator"), (1, .class_ 1107), (0, u "java/io/Serializable"), (0, .class_ 1109), (0, u "java/lang/Comparable"), (0, .class_ 1111), (0, u "java/lang/constant/Constable"), (0, .class_ 1113), (0, u "java/lang/constant/ConstantDesc"), (2, u "serialVersionUID"), (0, u "J"), (3, u "REPL"), (0, u "C"), (2, u "LATIN1"), (1, u "UTF16")] 323

def k7m0 : Method := { name := "<init>", desc := "()V", sig := { parameters := [], returnType := none }, accessFlags := 1, code := none }
def k7c1 : Code := { maxStack := 5, maxLocals := 2, code := jdk_42_method_3_code, exceptionTable := #[], attributes := #[] }
def k7m1 : Method := { name := "<init>", desc := "([C)V", sig := { parameters := [(.array .char)], returnType := none }, accessFlags := 1, code := some k7c1 }
def k7c2 : Code := { maxStack := 2, maxLocals := 1, code := jdk_42_method_54_code, exceptionTable := #[], attributes := #[] }
def k7m2 : Method := { name := "length", desc := "()I", sig := { parameters := [], returnType := some .int }, accessFlags := 1, code := some k7c2 }
def k7c3 : Code := { maxStack := 1, maxLocals := 1, code := jdk_42_method_55_code, exceptionTable := #[], attributes := #[] }
def k7m3 : Method := { name := "isEmpty", desc := "()Z", sig := { parameters := [], returnType := some .boolean }, accessFlags := 1, code := some k7c3 }
def k7c4 : Code := { maxStack := 2, maxLocals := 2, code := jdk_42_method_56_code, exceptionTable := #[], attributes := #[] }
def k7m4 : Method := { name := "charAt", desc := "(I)C", sig := { parameters := [.int], returnType := some .char }, accessFlags := 1, code := some k7c4 }
def k7c5 : Code := { maxStack := 2, maxLocals := 3, code := jdk_42_method_66_code, exceptionTable := #[], attributes := #[] }
def k7m5 : Method := { name := "equals", desc := "(Ljava/lang/Object;)Z", sig := { parameters := [(.object "java/lang/Object")], returnType := some .boolean }, accessFlags := 1, code := some k7c5 }
def k7c6 : Code := { maxStack := 3, maxLocals := 2, code := jdk_42_method_79_code, exceptionTable := #[], attributes := #[] }
def k7m6 : Method := { name := "indexOf", desc := "(I)I", sig := { parameters := [.int], returnType := some .int }, accessFlags := 1, code := some k7c6 }
def k7c7 : Code := { maxStack := 4, maxLocals := 3, code := jdk_42_method_80_code, exceptionTable := #[], attributes := #[] }
def k7m7 : Method := { name := "indexOf", desc := "(II)I", sig := { parameters := [.int, .int], returnType := some .int }, accessFlags := 1, code := some k7c7 }
def k7c8 : Code := { maxStack := 4, maxLocals := 6, code := jdk_42_method_149_code, exceptionTable := #[], attributes := #[] }
def k7m8 : Method := { name := "<init>", desc := "([CIILjava/lang/Void;)V", sig := { parameters := [(.array .char), .int, .int, (.object "java/lang/Void")], returnType := none }, accessFlags := 2, code := some k7c8 }
def k7c9 : Code := { maxStack := 1, maxLocals := 1, code := jdk_42_method_152_code, exceptionTable := #[], attributes := #[] }
def k7m9 : Method := { name := "coder", desc := "()B", sig := { parameters := [], returnType := some .byte }, accessFlags := 0, code := some k7c9 }
def k7c10 : Code := { maxStack := 1, maxLocals := 1, code := jdk_42_method_154_code, exceptionTable := #[], attributes := #[] }
def k7m10 : Method := { name := "isLatin1", desc := "()Z", sig := { parameters := [], returnType := some .boolean }, accessFlags := 0, code := some k7c10 }
def k7c11 : Code := { maxStack := 3, maxLocals := 2, code := jdk_42_method_155_code, exceptionTable := #[], attributes := #[] }
def k7m11 : Method := { name := "checkIndex", desc := "(II)V", sig := { parameters := [.int, .int], returnType := none }, accessFlags := 8, code := some k7c11 }
/-- java/lang/String -/
def k7 : Class := { plain "java/lang/String" (some 0) with
  accessFlags := 49
  interfaces := #[2, 3, 4, 5, 6]
  cf := some (fileOf pool7 10 #[.nestMembers #[1103]] #[{ accessFlags := 1, nameIndex := 5, descriptorIndex := 6, attributes := #[] }, { accessFlags := 1, nameIndex := 5, descriptorIndex := 1010, attributes := #[] }, { accessFlags := 1, nameIndex := 507, descriptorIndex := 334, attributes := #[] }, { accessFlags := 1, nameIndex := 692, descriptorIndex := 142, attributes := #[] }, { accessFlags := 1, nameIndex := 497, descriptorIndex := 427, attributes := #[] }, { accessFlags := 1, nameIndex := 543, descriptorIndex := 573, attributes := #[] }, { accessFlags := 1, nameIndex := 635, descriptorIndex := 765, attributes := #[] }, { accessFlags := 1, nameIndex := 635, descriptorIndex := 636, attributes := #[] }, { accessFlags := 2, nameIndex := 5, descriptorIndex := 29, attributes := #[] }, { accessFlags := 0, nameIndex := 17, descriptorIndex := 337, attributes := #[] }, { accessFlags := 0, nameIndex := 494, descriptorIndex := 142, attributes := #[] }, { accessFlags := 8, nameIndex := 501, descriptorIndex := 391, attributes := #[] }] 49 2 #[1106, 1108, 575, 1110, 1112] #[{ accessFlags := 18, nameIndex := 13, descriptorIndex := 14, attributes := #[] }, { accessFlags := 18, nameIndex := 17, descriptorIndex := 18, attributes := #[] }, { accessFlags := 2, nameIndex := 21, descriptorIndex := 22, attributes := #[] }, { accessFlags := 2, nameIndex := 25, descriptorIndex := 26, attributes := #[] }, { accessFlags := 26, nameIndex := 1116, descriptorIndex := 1117, attributes := #[] }, { accessFlags := 24, nameIndex := 40, descriptorIndex := 26, attributes := #[] }, { accessFlags := 26, nameIndex := 1101, descriptorIndex := 1102, attributes := #[] }, { accessFlags := 26, nameIndex := 1121, descriptorIndex := 1122, attributes := #[] }, { accessFlags := 25, nameIndex := 599, descriptorIndex := 600, attributes := #[] }, { accessFlags := 24, nameIndex := 1125, descriptorIndex := 18, attributes := #[] }, { accessFlags := 24, nameIndex := 1127, descriptorIndex := 18, attributes := #[] }])
  fields := #[{ name := "value", type := (.array .byte), accessFlags := 18, slot := 0, constantValue := 0 }, { name := "coder", type := .byte, accessFlags := 18, slot := 1, constantValue := 0 }, { name := "hash", type := .int, accessFlags := 2, slot := 2, constantValue := 0 }, { name := "hashIsZero", type := .boolean, accessFlags := 2, slot := 3, constantValue := 0 }, { name := "serialVersionUID", type := .long, accessFlags := 26, slot := 0, constantValue := 0 }, { name := "COMPACT_STRINGS", type := .boolean, accessFlags := 24, slot := 1, constantValue := 0 }, { name := "serialPersistentFields", type := (.array (.object "java/io/ObjectStreamField")), accessFlags := 26, slot := 2, constantValue := 0 }, { name := "REPL", type := .char, accessFlags := 26, slot := 3, constantValue := 0 }, { name := "CASE_INSENSITIVE_ORDER", type := (.object "java/util/Comparator"), accessFlags := 25, slot := 4, constantValue := 0 }, { name := "LATIN1", type := .byte, accessFlags := 24, slot := 5, constantValue := 0 }, { name := "UTF16", type := .byte, accessFlags := 24, slot := 6, constantValue := 0 }]
  methods := #[k7m0, k7m1, k7m2, k7m3, k7m4, k7m5, k7m6, k7m7, k7m8, k7m9, k7m10, k7m11]
  instanceTypes := #[(.array .byte), .byte, .int, .boolean]
  staticTypes := #[.long, .boolean, (.array (.object "java/io/ObjectStreamField")), .char, (.object "java/util/Comparator"), .byte, .byte]
  resolved := Array.replicate 1451 none
  statics := some 0 }

def pool8 : Array CpInfo := pool [(6, .class_ 8), (1, u "java/lang/Object"), (0, u "<init>"), (0, u "()V"), (1, .class_ 14), (1, u "java/lang/StringUTF16"), (31, u "$assertionsDisabled"), (0, u "Z"), (13, u "HI_BYTE_SHIFT"), (0, u "I"), (2, u "LO_BYTE_SHIFT"), (49, .methodref 12 116), (0, .nameAndType 117 118), (0, u "compress"), (0, u "([CI[BII)I"), (3, u "([CII)[B"), (138, u "coderFromArrayLen"), (0, u "([BI)B"), (106, .class_ 371), (1, u "java/lang/StringUTF16$LinesSpliterator"), (58, u "MAX_LENGTH"), (196, .class_ 628), (0, u "java/lang/StringUTF16$CodePointsSpliterator"), (0, .class_ 630), (0, u "java/lang/StringUTF16$CharsSpliterator")] 4

def k8m0 : Method := { name := "<init>", desc := "()V", sig := { parameters := [], returnType := none }, accessFlags := 0, code := none }
def k8c1 : Code := { maxStack := 2, maxLocals := 2, code := jdk_52_method_15_code, exceptionTable := #[], attributes := #[] }
def k8m1 : Method := { name := "coderFromArrayLen", desc := "([BI)B", sig := { parameters := [(.array .byte), .int], returnType := some .byte }, accessFlags := 8, code := some k8c1 }
def k8c2 : Code := { maxStack := 5, maxLocals := 6, code := jdk_52_method_16_code, exceptionTable := #[], attributes := #[] }
def k8m2 : Method := { name := "compress", desc := "([CII)[B", sig := { parameters := [(.array .char), .int, .int], returnType := some (.array .byte) }, accessFlags := 9, code := some k8c2 }
def k8c3 : Code := { maxStack := 3, maxLocals := 7, code := jdk_52_method_21_code, exceptionTable := #[], attributes := #[] }
def k8m3 : Method := { name := "compress", desc := "([CI[BII)I", sig := { parameters := [(.array .char), .int, (.array .byte), .int, .int], returnType := some .int }, accessFlags := 9, code := some k8c3 }
/-- java/lang/StringUTF16 -/
def k8 : Class := { plain "java/lang/StringUTF16" (some 0) with
  accessFlags := 48
  interfaces := #[]
  cf := some (fileOf pool8 12 #[.nestMembers #[627, 629, 369]] #[{ accessFlags := 0, nameIndex := 9, descriptorIndex := 10, attributes := #[] }, { accessFlags := 8, nameIndex := 261, descriptorIndex := 262, attributes := #[] }, { accessFlags := 9, nameIndex := 117, descriptorIndex := 122, attributes := #[] }, { accessFlags := 9, nameIndex := 117, descriptorIndex := 118, attributes := #[] }] 48 6 #[] #[{ accessFlags := 26, nameIndex := 61, descriptorIndex := 62, attributes := #[] }, { accessFlags := 26, nameIndex := 65, descriptorIndex := 62, attributes := #[] }, { accessFlags := 24, nameIndex := 430, descriptorIndex := 62, attributes := #[] }, { accessFlags := 4120, nameIndex := 46, descriptorIndex := 47, attributes := #[] }])
  fields := #[{ name := "HI_BYTE_SHIFT", type := .int, accessFlags := 26, slot := 0, constantValue := 0 }, { name := "LO_BYTE_SHIFT", type := .int, accessFlags := 26, slot := 1, constantValue := 0 }, { name := "MAX_LENGTH", type := .int, accessFlags := 24, slot := 2, constantValue := 0 }, { name := "$assertionsDisabled", type := .boolean, accessFlags := 4120, slot := 3, constantValue := 0 }]
  methods := #[k8m0, k8m1, k8m2, k8m3]
  instanceTypes := #[]
  staticTypes := #[.int, .int, .int, .boolean]
  resolved := Array.replicate 635 none
  statics := none }

def pool9 : Array CpInfo := pool [(1, .methodref 2 3), (0, .class_ 4), (0, .nameAndType 5 6), (0, u "java/lang/Object"), (0, u "<init>"), (0, u "()V"), (0, .string 8), (0, u "value"), (0, .methodref 10 11), (0, .class_ 12), (0, .nameAndType 13 14), (0, u "java/util/Objects"), (0, u "requireNonNull"), (0, u "(Ljava/lang/Object;Ljava/lang/String;)Ljava/lang/Object;"), (0, .methodref 16 17), (0, .class_ 18), (0, .nameAndType 19 20), (0, u "java/lang/String"), (0, u "isEmpty"), (0, u "()Z"), (6, u "(Ljava/lang/String;)V"), (0, .methodref 16 29), (0, .nameAndType 30 31), (0, u "length"), (0, u "()I"), (0, .methodref 16 33), (0, .nameAndType 34 35), (0, u "charAt"), (0, u "(I)C"), (0, .methodref 37 38), (0, .class_ 39), (0, .nameAndType 40 41), (0, u "com/example/periwinkle/periwinkle/Name"), (0, u "isAllowed"), (0, u "(C)Z"), (3, u "(I)I"), (6, u "RULE"), (0, u "Ljava/lang/String;"), (6, .fieldref 37 61), (0, .nameAndType 8 53), (0, .methodref 16 63), (0, .nameAndType 64 65), (0, u "equals"), (0, u "(Ljava/lang/Object;)Z"), (3, .string 70), (0, u "._-:"), (0, .methodref 16 72), (0, .nameAndType 73 45), (0, u "indexOf"), (30, u "MAX_LENGTH"), (0, u "I"), (2, u "PUNCTUATION")] 29

def k9c0 : Code := { maxStack := 5, maxLocals := 3, code := prog_17_method_1_code, exceptionTable := #[], attributes := #[] }
def k9m0 : Method := { name := "<init>", desc := "(Ljava/lang/String;)V", sig := { parameters := [(.object "java/lang/String")], returnType := none }, accessFlags := 1, code := some k9c0 }
def k9c1 : Code := { maxStack := 2, maxLocals := 2, code := prog_17_method_3_code, exceptionTable := #[], attributes := #[] }
def k9m1 : Method := { name := "equals", desc := "(Ljava/lang/Object;)Z", sig := { parameters := [(.object "java/lang/Object")], returnType := some .boolean }, accessFlags := 1, code := some k9c1 }
def k9c2 : Code := { maxStack := 2, maxLocals := 1, code := prog_17_method_6_code, exceptionTable := #[], attributes := #[] }
def k9m2 : Method := { name := "isAllowed", desc := "(C)Z", sig := { parameters := [.char], returnType := some .boolean }, accessFlags := 10, code := some k9c2 }
/-- com/example/periwinkle/periwinkle/Name -/
def k9 : Class := { plain "com/example/periwinkle/periwinkle/Name" (some 0) with
  accessFlags := 33
  interfaces := #[]
  cf := some (fileOf pool9 37 #[] #[{ accessFlags := 1, nameIndex := 5, descriptorIndex := 27, attributes := #[] }, { accessFlags := 1, nameIndex := 64, descriptorIndex := 65, attributes := #[] }, { accessFlags := 10, nameIndex := 40, descriptorIndex := 41, attributes := #[] }] 33 2 #[] #[{ accessFlags := 25, nameIndex := 104, descriptorIndex := 105, attributes := #[] }, { accessFlags := 26, nameIndex := 108, descriptorIndex := 53, attributes := #[] }, { accessFlags := 26, nameIndex := 52, descriptorIndex := 53, attributes := #[] }, { accessFlags := 18, nameIndex := 8, descriptorIndex := 53, attributes := #[] }])
  fields := #[{ name := "MAX_LENGTH", type := .int, accessFlags := 25, slot := 0, constantValue := 0 }, { name := "PUNCTUATION", type := (.object "java/lang/String"), accessFlags := 26, slot := 1, constantValue := 0 }, { name := "RULE", type := (.object "java/lang/String"), accessFlags := 26, slot := 2, constantValue := 0 }, { name := "value", type := (.object "java/lang/String"), accessFlags := 18, slot := 0, constantValue := 0 }]
  methods := #[k9m0, k9m1, k9m2]
  instanceTypes := #[(.object "java/lang/String")]
  staticTypes := #[.int, (.object "java/lang/String"), (.object "java/lang/String")]
  resolved := Array.replicate 138 none
  statics := none }

def pool10 : Array CpInfo := pool [(2, .class_ 4), (1, u "java/lang/Object"), (0, u "<init>"), (0, u "()V"), (35, .class_ 44), (1, u "java/util/Objects"), (0, u "requireNonNull"), (48, u "(Ljava/lang/Object;Ljava/lang/String;)Ljava/lang/Object;")] 89

def k10m0 : Method := { name := "<init>", desc := "()V", sig := { parameters := [], returnType := none }, accessFlags := 2, code := none }
def k10c1 : Code := { maxStack := 3, maxLocals := 2, code := jdk_31_method_11_code, exceptionTable := #[], attributes := #[] }
def k10m1 : Method := { name := "requireNonNull", desc := "(Ljava/lang/Object;Ljava/lang/String;)Ljava/lang/Object;", sig := { parameters := [(.object "java/lang/Object"), (.object "java/lang/String")], returnType := some (.object "java/lang/Object") }, accessFlags := 9, code := some k10c1 }
/-- java/util/Objects -/
def k10 : Class := { plain "java/util/Objects" (some 0) with
  accessFlags := 49
  interfaces := #[]
  cf := some (fileOf pool10 42 #[] #[{ accessFlags := 2, nameIndex := 5, descriptorIndex := 6, attributes := #[] }, { accessFlags := 9, nameIndex := 45, descriptorIndex := 94, attributes := #[] }] 49 2 #[] #[])
  fields := #[]
  methods := #[k10m0, k10m1]
  instanceTypes := #[]
  staticTypes := #[]
  resolved := Array.replicate 184 none
  statics := none }

def pool11 : Array CpInfo := pool [(1, .class_ 2), (0, u "java/lang/String"), (1, .class_ 6), (1, u "java/lang/Object"), (0, u "<init>"), (0, u "()V"), (0, .methodref 1 10), (0, .nameAndType 11 12), (0, u "checkIndex"), (0, u "(II)V"), (1, .class_ 16), (1, u "java/lang/StringLatin1"), (21, .methodref 39 40), (0, .class_ 41), (0, .nameAndType 42 43), (0, u "java/lang/Math"), (0, u "min"), (0, u "(II)I"), (9, u "([BI)C"), (34, .methodref 14 89), (0, .nameAndType 90 91), (0, u "canEncode"), (0, u "(I)Z"), (0, .methodref 39 93), (0, .nameAndType 94 43), (0, u "max"), (0, .methodref 14 96), (0, .nameAndType 97 98), (0, u "indexOfChar"), (0, u "([BIII)I"), (2, u "indexOf"), (19, u "$assertionsDisabled"), (0, u "Z"), (98, .class_ 223), (1, u "java/lang/StringLatin1$LinesSpliterator"), (28, u "charAt"), (28, u "equals"), (0, u "([B[B)Z"), (107, .class_ 391), (0, u "java/lang/StringLatin1$CharsSpliterator")] 3

def k11m0 : Method := { name := "<init>", desc := "()V", sig := { parameters := [], returnType := none }, accessFlags := 0, code := none }
def k11c1 : Code := { maxStack := 2, maxLocals := 2, code := jdk_43_method_2_code, exceptionTable := #[], attributes := #[] }
def k11m1 : Method := { name := "charAt", desc := "([BI)C", sig := { parameters := [(.array .byte), .int], returnType := some .char }, accessFlags := 9, code := some k11c1 }
def k11c2 : Code := { maxStack := 2, maxLocals := 1, code := jdk_43_method_4_code, exceptionTable := #[], attributes := #[] }
def k11m2 : Method := { name := "canEncode", desc := "(I)Z", sig := { parameters := [.int], returnType := some .boolean }, accessFlags := 9, code := some k11c2 }
def k11c3 : Code := { maxStack := 3, maxLocals := 3, code := jdk_43_method_13_code, exceptionTable := #[], attributes := #[] }
def k11m3 : Method := { name := "equals", desc := "([B[B)Z", sig := { parameters := [(.array .byte), (.array .byte)], returnType := some .boolean }, accessFlags := 9, code := some k11c3 }
def k11c4 : Code := { maxStack := 4, maxLocals := 4, code := jdk_43_method_22_code, exceptionTable := #[], attributes := #[] }
def k11m4 : Method := { name := "indexOf", desc := "([BIII)I", sig := { parameters := [(.array .byte), .int, .int, .int], returnType := some .int }, accessFlags := 9, code := some k11c4 }
def k11c5 : Code := { maxStack := 2, maxLocals := 6, code := jdk_43_method_23_code, exceptionTable := #[], attributes := #[] }
def k11m5 : Method := { name := "indexOfChar", desc := "([BIII)I", sig := { parameters := [(.array .byte), .int, .int, .int], returnType := some .int }, accessFlags := 10, code := some k11c5 }
/-- java/lang/StringLatin1 -/
def k11 : Class := { plain "java/lang/StringLatin1" (some 0) with
  accessFlags := 48
  interfaces := #[]
  cf := some (fileOf pool11 14 #[.nestMembers #[390, 221]] #[{ accessFlags := 0, nameIndex := 7, descriptorIndex := 8, attributes := #[] }, { accessFlags := 9, nameIndex := 252, descriptorIndex := 53, attributes := #[] }, { accessFlags := 9, nameIndex := 90, descriptorIndex := 91, attributes := #[] }, { accessFlags := 9, nameIndex := 281, descriptorIndex := 282, attributes := #[] }, { accessFlags := 9, nameIndex := 101, descriptorIndex := 98, attributes := #[] }, { accessFlags := 10, nameIndex := 97, descriptorIndex := 98, attributes := #[] }] 48 4 #[] #[{ accessFlags := 4120, nameIndex := 121, descriptorIndex := 122, attributes := #[] }])
  fields := #[{ name := "$assertionsDisabled", type := .boolean, accessFlags := 4120, slot := 0, constantValue := 0 }]
  methods := #[k11m0, k11m1, k11m2, k11m3, k11m4, k11m5]
  instanceTypes := #[]
  staticTypes := #[.boolean]
  resolved := Array.replicate 395 none
  statics := none }

def pool12 : Array CpInfo := pool [(2, .class_ 4), (1, u "java/lang/Object"), (0, u "<init>"), (0, u "()V"), (17, .class_ 26), (1, u "jdk/internal/util/Preconditions"), (6, u "checkIndex"), (21, .class_ 56), (0, u "jdk/internal/util/Preconditions$4"), (57, .class_ 115), (0, u "jdk/internal/util/Preconditions$1"), (7, u "SIOOBE_FORMATTER"), (0, u "Ljava/util/function/BiFunction;"), (0, .class_ 126), (0, u "jdk/internal/util/Preconditions$2"), (3, u "AIOOBE_FORMATTER"), (0, .class_ 132), (0, u "jdk/internal/util/Preconditions$3"), (3, u "IOOBE_FORMATTER"), (41, u "(IILjava/util/function/BiFunction;)I")] 15

def k12m0 : Method := { name := "<init>", desc := "()V", sig := { parameters := [], returnType := none }, accessFlags := 1, code := none }
def k12c1 : Code := { maxStack := 3, maxLocals := 3, code := jdk_41_method_11_code, exceptionTable := #[], attributes := #[] }
def k12m1 : Method := { name := "checkIndex", desc := "(IILjava/util/function/BiFunction;)I", sig := { parameters := [.int, .int, (.object "java/util/function/BiFunction")], returnType := some .int }, accessFlags := 9, code := some k12c1 }
/-- jdk/internal/util/Preconditions -/
def k12 : Class := { plain "jdk/internal/util/Preconditions" (some 0) with
  accessFlags := 33
  interfaces := #[]
  cf := some (fileOf pool12 24 #[.nestMembers #[55, 131, 125, 114]] #[{ accessFlags := 1, nameIndex := 5, descriptorIndex := 6, attributes := #[] }, { accessFlags := 9, nameIndex := 33, descriptorIndex := 178, attributes := #[] }] 33 2 #[] #[{ accessFlags := 25, nameIndex := 123, descriptorIndex := 124, attributes := #[] }, { accessFlags := 25, nameIndex := 130, descriptorIndex := 124, attributes := #[] }, { accessFlags := 25, nameIndex := 136, descriptorIndex := 124, attributes := #[] }])
  fields := #[{ name := "SIOOBE_FORMATTER", type := (.object "java/util/function/BiFunction"), accessFlags := 25, slot := 0, constantValue := 0 }, { name := "AIOOBE_FORMATTER", type := (.object "java/util/function/BiFunction"), accessFlags := 25, slot := 1, constantValue := 0 }, { name := "IOOBE_FORMATTER", type := (.object "java/util/function/BiFunction"), accessFlags := 25, slot := 2, constantValue := 0 }]
  methods := #[k12m0, k12m1]
  instanceTypes := #[]
  staticTypes := #[(.object "java/util/function/BiFunction"), (.object "java/util/function/BiFunction"), (.object "java/util/function/BiFunction")]
  resolved := Array.replicate 194 none
  statics := some 1 }

def pool13 : Array CpInfo := pool [(1, .class_ 2), (0, u "java/lang/Math"), (1, .class_ 6), (1, u "java/lang/Object"), (0, u "<init>"), (0, u "()V"), (89, .class_ 100), (1, u "java/lang/Math$RandomNumberGeneratorHolder"), (71, u "negativeZeroFloatBits"), (0, u "J"), (2, u "negativeZeroDoubleBits"), (21, u "max"), (2, u "min"), (43, u "$assertionsDisabled"), (0, u "Z"), (88, u "(II)I"), (2, u "twoToTheDoubleScaleDown"), (0, u "D"), (4, u "twoToTheDoubleScaleUp"), (9, u "E"), (3, u "PI"), (2, u "TAU"), (2, u "DEGREES_TO_RADIANS"), (0, u "RADIANS_TO_DEGREES")] 94

def k13m0 : Method := { name := "<init>", desc := "()V", sig := { parameters := [], returnType := none }, accessFlags := 2, code := none }
def k13c1 : Code := { maxStack := 2, maxLocals := 2, code := jdk_29_method_65_code, exceptionTable := #[], attributes := #[] }
def k13m1 : Method := { name := "max", desc := "(II)I", sig := { parameters := [.int, .int], returnType := some .int }, accessFlags := 9, code := some k13c1 }
def k13c2 : Code := { maxStack := 2, maxLocals := 2, code := jdk_29_method_69_code, exceptionTable := #[], attributes := #[] }
def k13m2 : Method := { name := "min", desc := "(II)I", sig := { parameters := [.int, .int], returnType := some .int }, accessFlags := 9, code := some k13c2 }
/-- java/lang/Math -/
def k13 : Class := { plain "java/lang/Math" (some 0) with
  accessFlags := 49
  interfaces := #[]
  cf := some (fileOf pool13 1 #[.nestMembers #[98]] #[{ accessFlags := 2, nameIndex := 7, descriptorIndex := 8, attributes := #[] }, { accessFlags := 9, nameIndex := 198, descriptorIndex := 335, attributes := #[] }, { accessFlags := 9, nameIndex := 201, descriptorIndex := 335, attributes := #[] }] 49 4 #[] #[{ accessFlags := 25, nameIndex := 354, descriptorIndex := 339, attributes := #[] }, { accessFlags := 25, nameIndex := 358, descriptorIndex := 339, attributes := #[] }, { accessFlags := 25, nameIndex := 361, descriptorIndex := 339, attributes := #[] }, { accessFlags := 26, nameIndex := 364, descriptorIndex := 339, attributes := #[] }, { accessFlags := 26, nameIndex := 365, descriptorIndex := 339, attributes := #[] }, { accessFlags := 26, nameIndex := 172, descriptorIndex := 173, attributes := #[] }, { accessFlags := 26, nameIndex := 176, descriptorIndex := 173, attributes := #[] }, { accessFlags := 8, nameIndex := 344, descriptorIndex := 339, attributes := #[] }, { accessFlags := 8, nameIndex := 338, descriptorIndex := 339, attributes := #[] }, { accessFlags := 4120, nameIndex := 245, descriptorIndex := 246, attributes := #[] }])
  fields := #[{ name := "E", type := .double, accessFlags := 25, slot := 0, constantValue := 0 }, { name := "PI", type := .double, accessFlags := 25, slot := 1, constantValue := 0 }, { name := "TAU", type := .double, accessFlags := 25, slot := 2, constantValue := 0 }, { name := "DEGREES_TO_RADIANS", type := .double, accessFlags := 26, slot := 3, constantValue := 0 }, { name := "RADIANS_TO_DEGREES", type := .double, accessFlags := 26, slot := 4, constantValue := 0 }, { name := "negativeZeroFloatBits", type := .long, accessFlags := 26, slot := 5, constantValue := 0 }, { name := "negativeZeroDoubleBits", type := .long, accessFlags := 26, slot := 6, constantValue := 0 }, { name := "twoToTheDoubleScaleUp", type := .double, accessFlags := 8, slot := 7, constantValue := 0 }, { name := "twoToTheDoubleScaleDown", type := .double, accessFlags := 8, slot := 8, constantValue := 0 }, { name := "$assertionsDisabled", type := .boolean, accessFlags := 4120, slot := 9, constantValue := 0 }]
  methods := #[k13m0, k13m1, k13m2]
  instanceTypes := #[]
  staticTypes := #[.double, .double, .double, .double, .double, .long, .long, .double, .double, .boolean]
  resolved := Array.replicate 460 none
  statics := none }

def pool14 : Array CpInfo := pool [(9, u "<init>"), (6, .class_ 18), (1, u "java/lang/Object"), (0, u "()V"), (1, .class_ 23), (1, u "jdk/internal/util/ArraysSupport"), (0, u "LOG2_ARRAY_LONG_INDEX_SCALE"), (0, u "I"), (2, u "U"), (0, u "Ljdk/internal/misc/Unsafe;"), (8, u "BIG_ENDIAN"), (0, u "Z"), (8, u "LOG2_BYTE_BIT_SIZE"), (4, u "LOG2_ARRAY_INT_INDEX_SCALE"), (54, u "JLA"), (0, u "Ljdk/internal/access/JavaLangAccess;"), (11, u "LOG2_ARRAY_BOOLEAN_INDEX_SCALE"), (9, u "LOG2_ARRAY_BYTE_INDEX_SCALE"), (5, u "LOG2_ARRAY_CHAR_INDEX_SCALE"), (5, u "LOG2_ARRAY_SHORT_INDEX_SCALE"), (18, u "LOG2_ARRAY_FLOAT_INDEX_SCALE"), (24, u "LOG2_ARRAY_DOUBLE_INDEX_SCALE"), (89, u "T_BOOLEAN"), (2, u "T_CHAR"), (1, u "T_FLOAT"), (1, u "T_DOUBLE"), (1, u "T_BYTE"), (1, u "T_SHORT"), (1, u "T_INT"), (1, u "T_LONG"), (1, u "SOFT_MAX_ARRAY_LENGTH")] 83

def k14m0 : Method := { name := "<init>", desc := "()V", sig := { parameters := [], returnType := none }, accessFlags := 2, code := none }
/-- jdk/internal/util/ArraysSupport -/
def k14 : Class := { plain "jdk/internal/util/ArraysSupport" (some 0) with
  accessFlags := 33
  interfaces := #[]
  cf := some (fileOf pool14 21 #[] #[{ accessFlags := 2, nameIndex := 9, descriptorIndex := 19, attributes := #[] }] 33 16 #[] #[{ accessFlags := 24, nameIndex := 28, descriptorIndex := 29, attributes := #[] }, { accessFlags := 26, nameIndex := 38, descriptorIndex := 39, attributes := #[] }, { accessFlags := 25, nameIndex := 121, descriptorIndex := 25, attributes := #[] }, { accessFlags := 25, nameIndex := 131, descriptorIndex := 25, attributes := #[] }, { accessFlags := 25, nameIndex := 137, descriptorIndex := 25, attributes := #[] }, { accessFlags := 25, nameIndex := 143, descriptorIndex := 25, attributes := #[] }, { accessFlags := 25, nameIndex := 53, descriptorIndex := 25, attributes := #[] }, { accessFlags := 25, nameIndex := 24, descriptorIndex := 25, attributes := #[] }, { accessFlags := 25, nameIndex := 162, descriptorIndex := 25, attributes := #[] }, { accessFlags := 25, nameIndex := 187, descriptorIndex := 25, attributes := #[] }, { accessFlags := 26, nameIndex := 48, descriptorIndex := 25, attributes := #[] }, { accessFlags := 25, nameIndex := 277, descriptorIndex := 25, attributes := #[] }, { accessFlags := 25, nameIndex := 280, descriptorIndex := 25, attributes := #[] }, { accessFlags := 25, nameIndex := 282, descriptorIndex := 25, attributes := #[] }, { accessFlags := 25, nameIndex := 284, descriptorIndex := 25, attributes := #[] }, { accessFlags := 25, nameIndex := 286, descriptorIndex := 25, attributes := #[] }, { accessFlags := 25, nameIndex := 288, descriptorIndex := 25, attributes := #[] }, { accessFlags := 25, nameIndex := 290, descriptorIndex := 25, attributes := #[] }, { accessFlags := 25, nameIndex := 292, descriptorIndex := 25, attributes := #[] }, { accessFlags := 26, nameIndex := 108, descriptorIndex := 109, attributes := #[] }, { accessFlags := 25, nameIndex := 294, descriptorIndex := 25, attributes := #[] }])
  fields := #[{ name := "U", type := (.object "jdk/internal/misc/Unsafe"), accessFlags := 24, slot := 0, constantValue := 0 }, { name := "BIG_ENDIAN", type := .boolean, accessFlags := 26, slot := 1, constantValue := 0 }, { name := "LOG2_ARRAY_BOOLEAN_INDEX_SCALE", type := .int, accessFlags := 25, slot := 2, constantValue := 0 }, { name := "LOG2_ARRAY_BYTE_INDEX_SCALE", type := .int, accessFlags := 25, slot := 3, constantValue := 0 }, { name := "LOG2_ARRAY_CHAR_INDEX_SCALE", type := .int, accessFlags := 25, slot := 4, constantValue := 0 }, { name := "LOG2_ARRAY_SHORT_INDEX_SCALE", type := .int, accessFlags := 25, slot := 5, constantValue := 0 }, { name := "LOG2_ARRAY_INT_INDEX_SCALE", type := .int, accessFlags := 25, slot := 6, constantValue := 0 }, { name := "LOG2_ARRAY_LONG_INDEX_SCALE", type := .int, accessFlags := 25, slot := 7, constantValue := 0 }, { name := "LOG2_ARRAY_FLOAT_INDEX_SCALE", type := .int, accessFlags := 25, slot := 8, constantValue := 0 }, { name := "LOG2_ARRAY_DOUBLE_INDEX_SCALE", type := .int, accessFlags := 25, slot := 9, constantValue := 0 }, { name := "LOG2_BYTE_BIT_SIZE", type := .int, accessFlags := 26, slot := 10, constantValue := 0 }, { name := "T_BOOLEAN", type := .int, accessFlags := 25, slot := 11, constantValue := 0 }, { name := "T_CHAR", type := .int, accessFlags := 25, slot := 12, constantValue := 0 }, { name := "T_FLOAT", type := .int, accessFlags := 25, slot := 13, constantValue := 0 }, { name := "T_DOUBLE", type := .int, accessFlags := 25, slot := 14, constantValue := 0 }, { name := "T_BYTE", type := .int, accessFlags := 25, slot := 15, constantValue := 0 }, { name := "T_SHORT", type := .int, accessFlags := 25, slot := 16, constantValue := 0 }, { name := "T_INT", type := .int, accessFlags := 25, slot := 17, constantValue := 0 }, { name := "T_LONG", type := .int, accessFlags := 25, slot := 18, constantValue := 0 }, { name := "JLA", type := (.object "jdk/internal/access/JavaLangAccess"), accessFlags := 26, slot := 19, constantValue := 0 }, { name := "SOFT_MAX_ARRAY_LENGTH", type := .int, accessFlags := 25, slot := 20, constantValue := 0 }]
  methods := #[k14m0]
  instanceTypes := #[]
  staticTypes := #[(.object "jdk/internal/misc/Unsafe"), .boolean, .int, .int, .int, .int, .int, .int, .int, .int, .int, .int, .int, .int, .int, .int, .int, .int, .int, (.object "jdk/internal/access/JavaLangAccess"), .int]
  resolved := Array.replicate 378 none
  statics := none }

def pool15 : Array CpInfo := pool [(1, u "java/lang/Cloneable"), (0, .class_ 1), (0, u "java/lang/Object"), (0, .class_ 3)] 3

/-- java/lang/Cloneable -/
def k15 : Class := { plain "java/lang/Cloneable" (some 0) with
  accessFlags := 1537
  interfaces := #[]
  cf := some (fileOf pool15 2 #[] #[] 1537 4 #[] #[])
  fields := #[]
  methods := #[]
  instanceTypes := #[]
  staticTypes := #[]
  resolved := Array.replicate 8 none
  statics := none }

/-- the primitive byte -/
def k16 : Class := { plain "byte" none with kind := .primitive 'B', accessFlags := 0x411 }
/-- [B -/
def k17 : Class := { plain "[B" (some 0) with kind := .array 16 .byte, interfaces := #[15, 2], accessFlags := 1041 }

/-- the primitive char -/
def k18 : Class := { plain "char" none with kind := .primitive 'C', accessFlags := 0x411 }
/-- [C -/
def k19 : Class := { plain "[C" (some 0) with kind := .array 18 .char, interfaces := #[15, 2], accessFlags := 1041 }

/-- the primitive int -/
def k20 : Class := { plain "int" none with kind := .primitive 'I', accessFlags := 0x411 }
/-- [I -/
def k21 : Class := { plain "[I" (some 0) with kind := .array 20 .int, interfaces := #[15, 2], accessFlags := 1041 }

def heap : Heap := #[{ cls := 7, slots := #[.long 0, .int 1, .null, .int 0, .null, .int 0, .int 0], vm := .statics 7 },
  { cls := 12, slots := #[.null, .null, .null], vm := .statics 12 }]
def classes : Array Class := #[k0, k1, k2, k3, k4, k5, k6, k7, k8, k9, k10, k11, k12, k13, k14, k15, k16, k17, k18, k19, k20, k21]
def interned : List (Array UInt16 × Addr) := []
def slotsUsed : Nat := 10
def theMethod : MethodId := ⟨1, 3⟩
def args0 : Array Value := #[.int 1, .int 2, .int 3, .int 4]
def aboutOver (below : List Frame) : State where
  vm := { classes := classes, interned := interned.toArray }
  heap := heap
  slotsUsed := slotsUsed
  threads := #[{ frames := .invoking theMethod args0 :: below }]
def below0 : List Frame := [.native { method := ⟨0, 0⟩, args := #[] }]
def about1 : State := aboutOver below0
def p0 : Program := .bare "" "" ""
def e0 : Env := launch0.env 0 0 0
theorem w_frames : about1.frames = Frame.invoking theMethod args0 :: below0 := rfl
set_option maxRecDepth 65536 in
theorem w_args : argsFit about1.vm theMethod args0 = true := by decide +kernel
set_option maxRecDepth 65536 in
theorem w_heap : heapFits about1 = true := by decide +kernel
set_option maxRecDepth 65536 in
theorem w_runnable : about1.curStatus? = some .runnable := by decide +kernel
set_option maxRecDepth 65536 in
theorem w_alone : about1.alone = true := by decide +kernel
set_option maxRecDepth 65536 in
theorem w_named : about1.methodNamed? x = some theMethod := by decide +kernel
set_option maxRecDepth 65536 in
theorem w_hears : about1.hears theMethod below0 = true := by decide +kernel
set_option maxRecDepth 65536 in
theorem w_ripe : about1.ripe theMethod args0 below0 = true := by decide +kernel
theorem w_running : about1.status = .running := rfl
set_option maxRecDepth 65536 in
theorem w_room : about1.hasRoom e0.platform room_1 = true :=
  launch0.hasRoom_least _ room_1 (by decide +kernel) (by decide +kernel) (by decide +kernel) (by decide +kernel) (by decide +kernel) (by decide +kernel)
theorem allAtoms_all (ts : List Jvm.Cond) (a : Array Jvm.Value) (st : Jvm.State) : (allAtoms ts).before a st = ts.all (fun c => c.before a st) := by
  induction ts with
  | nil => rfl
  | cons c t ih =>
    show (Jvm.Cond.and c (allAtoms t)).before a st = _
    rw [Jvm.Cond.before_and, ih, List.all_cons]
def words1 : List Jvm.Cond := Jvm.Cond.code x code maxLocals ret :: tables_1
/-- a 'code' word, met by the world's own term for the bytes: nothing is compared byte by byte -/
theorem code_word {y : MethodName} {bytes : ByteArray} {mx : Nat} {rt : Option FieldType} {a : Array Value} {s : State} {m : MethodId} {meth : Method} {c : Code} (h1 : s.methodNamed? y = some m) (h2 : s.vm.method? m = some meth) (h3 : meth.code = some c) (h4 : c.code = bytes)
    (h5 : (c.maxLocals == mx && c.exceptionTable.isEmpty && decide (c.maxStack ≤ mostOperands) && decide (meth.sig.returnType = rt) && !meth.locks && decide (parseMethodDescriptor y.desc = some meth.sig)) = true) : (Jvm.Cond.code y bytes mx rt).before a s = true := by
  simp only [Bool.and_eq_true, beq_iff_eq, Bool.not_eq_true', decide_eq_true_eq] at h5
  obtain ⟨⟨⟨⟨⟨g1, g2⟩, g3⟩, g4⟩, g5⟩, g6⟩ := h5
  simp [Cond.before, Cond.holds, Cond.value, h1, h2, h3, h4, g1, g2, g3, g4, g5, g6]
def isCode : Jvm.Cond → Bool
  | .code _ _ _ _ => true
  | _ => false
theorem all_split {L : List Jvm.Cond} {P : Jvm.Cond → Bool} (h1 : L.all (fun c => isCode c || P c) = true) (h2 : ∀ c ∈ L.filter isCode, P c = true) : L.all P = true := by
  refine List.all_eq_true.mpr fun c hc => ?_
  have h := List.all_eq_true.mp h1 c hc
  rcases Bool.eq_false_or_eq_true (isCode c) with hi | hi
  · exact h2 c (List.mem_filter.mpr ⟨hc, hi⟩)
  · simpa [hi] using h
set_option maxRecDepth 65536 in
theorem w_c0 : (Jvm.Cond.code x code maxLocals ret).before args0 about1 = true := code_word (m := ⟨1, 3⟩) (meth := k1m3) (c := k1c3) (by decide +kernel) rfl rfl rfl (by decide +kernel)
set_option maxRecDepth 65536 in
theorem w_c1 : (Jvm.Cond.code ({ cls := "com/example/periwinkle/periwinkle/NameEqualsPinLaw", name := "allowed", desc := "(I)C" } : Jvm.MethodName) method_2_code (2 : Nat) (Option.some Jvm.ClassFile.FieldType.char)).before args0 about1 = true := code_word (m := ⟨1, 1⟩) (meth := k1m1) (c := k1c1) (by decide +kernel) rfl rfl rfl (by decide +kernel)
set_option maxRecDepth 65536 in
theorem w_c2 : (Jvm.Cond.code ({ cls := "com/example/periwinkle/periwinkle/NameEqualsPinLaw", name := "make", desc := "(ICCCC)Ljava/lang/String;" } : Jvm.MethodName) method_3_code (5 : Nat) (Option.some (Jvm.ClassFile.FieldType.object "java/lang/String"))).before args0 about1 = true := code_word (m := ⟨1, 2⟩) (meth := k1m2) (c := k1c2) (by decide +kernel) rfl rfl rfl (by decide +kernel)
set_option maxRecDepth 65536 in
theorem w_c3 : (Jvm.Cond.code ({ cls := "java/lang/String", name := "<init>", desc := "([C)V" } : Jvm.MethodName) jdk_42_method_3_code (2 : Nat) (Option.none : Option Jvm.ClassFile.FieldType)).before args0 about1 = true := code_word (m := ⟨7, 1⟩) (meth := k7m1) (c := k7c1) (by decide +kernel) rfl rfl rfl (by decide +kernel)
set_option maxRecDepth 65536 in
theorem w_c4 : (Jvm.Cond.code ({ cls := "java/lang/String", name := "<init>", desc := "([CIILjava/lang/Void;)V" } : Jvm.MethodName) jdk_42_method_149_code (6 : Nat) (Option.none : Option Jvm.ClassFile.FieldType)).before args0 about1 = true := code_word (m := ⟨7, 8⟩) (meth := k7m8) (c := k7c8) (by decide +kernel) rfl rfl rfl (by decide +kernel)
set_option maxRecDepth 65536 in
theorem w_c5 : (Jvm.Cond.code ({ cls := "java/lang/Object", name := "<init>", desc := "()V" } : Jvm.MethodName) object_method_1_code (1 : Nat) (Option.none : Option Jvm.ClassFile.FieldType)).before args0 about1 = true := code_word (m := ⟨0, 0⟩) (meth := k0m0) (c := k0c0) (by decide +kernel) rfl rfl rfl (by decide +kernel)
set_option maxRecDepth 65536 in
theorem w_c6 : (Jvm.Cond.code ({ cls := "java/lang/StringUTF16", name := "compress", desc := "([CII)[B" } : Jvm.MethodName) jdk_52_method_16_code (6 : Nat) (Option.some (Jvm.ClassFile.FieldType.array Jvm.ClassFile.FieldType.byte))).before args0 about1 = true := code_word (m := ⟨8, 2⟩) (meth := k8m2) (c := k8c2) (by decide +kernel) rfl rfl rfl (by decide +kernel)
set_option maxRecDepth 65536 in
theorem w_c7 : (Jvm.Cond.code ({ cls := "java/lang/StringUTF16", name := "compress", desc := "([CI[BII)I" } : Jvm.MethodName) jdk_52_method_21_code (7 : Nat) (Option.some Jvm.ClassFile.FieldType.int)).before args0 about1 = true := code_word (m := ⟨8, 3⟩) (meth := k8m3) (c := k8c3) (by decide +kernel) rfl rfl rfl (by decide +kernel)
set_option maxRecDepth 65536 in
theorem w_c8 : (Jvm.Cond.code ({ cls := "java/lang/StringUTF16", name := "coderFromArrayLen", desc := "([BI)B" } : Jvm.MethodName) jdk_52_method_15_code (2 : Nat) (Option.some Jvm.ClassFile.FieldType.byte)).before args0 about1 = true := code_word (m := ⟨8, 1⟩) (meth := k8m1) (c := k8c1) (by decide +kernel) rfl rfl rfl (by decide +kernel)
set_option maxRecDepth 65536 in
theorem w_c9 : (Jvm.Cond.code ({ cls := "com/example/periwinkle/periwinkle/Name", name := "<init>", desc := "(Ljava/lang/String;)V" } : Jvm.MethodName) prog_17_method_1_code (3 : Nat) (Option.none : Option Jvm.ClassFile.FieldType)).before args0 about1 = true := code_word (m := ⟨9, 0⟩) (meth := k9m0) (c := k9c0) (by decide +kernel) rfl rfl rfl (by decide +kernel)
set_option maxRecDepth 65536 in
theorem w_c10 : (Jvm.Cond.code ({ cls := "java/util/Objects", name := "requireNonNull", desc := "(Ljava/lang/Object;Ljava/lang/String;)Ljava/lang/Object;" } : Jvm.MethodName) jdk_31_method_11_code (2 : Nat) (Option.some (Jvm.ClassFile.FieldType.object "java/lang/Object"))).before args0 about1 = true := code_word (m := ⟨10, 1⟩) (meth := k10m1) (c := k10c1) (by decide +kernel) rfl rfl rfl (by decide +kernel)
set_option maxRecDepth 65536 in
theorem w_c11 : (Jvm.Cond.code ({ cls := "java/lang/String", name := "isEmpty", desc := "()Z" } : Jvm.MethodName) jdk_42_method_55_code (1 : Nat) (Option.some Jvm.ClassFile.FieldType.boolean)).before args0 about1 = true := code_word (m := ⟨7, 3⟩) (meth := k7m3) (c := k7c3) (by decide +kernel) rfl rfl rfl (by decide +kernel)
set_option maxRecDepth 65536 in
theorem w_c12 : (Jvm.Cond.code ({ cls := "java/lang/String", name := "length", desc := "()I" } : Jvm.MethodName) jdk_42_method_54_code (1 : Nat) (Option.some Jvm.ClassFile.FieldType.int)).before args0 about1 = true := code_word (m := ⟨7, 2⟩) (meth := k7m2) (c := k7c2) (by decide +kernel) rfl rfl rfl (by decide +kernel)
set_option maxRecDepth 65536 in
theorem w_c13 : (Jvm.Cond.code ({ cls := "java/lang/String", name := "coder", desc := "()B" } : Jvm.MethodName) jdk_42_method_152_code (1 : Nat) (Option.some Jvm.ClassFile.FieldType.byte)).before args0 about1 = true := code_word (m := ⟨7, 9⟩) (meth := k7m9) (c := k7c9) (by decide +kernel) rfl rfl rfl (by decide +kernel)
set_option maxRecDepth 65536 in
theorem w_c14 : (Jvm.Cond.code ({ cls := "java/lang/String", name := "charAt", desc := "(I)C" } : Jvm.MethodName) jdk_42_method_56_code (2 : Nat) (Option.some Jvm.ClassFile.FieldType.char)).before args0 about1 = true := code_word (m := ⟨7, 4⟩) (meth := k7m4) (c := k7c4) (by decide +kernel) rfl rfl rfl (by decide +kernel)
set_option maxRecDepth 65536 in
theorem w_c15 : (Jvm.Cond.code ({ cls := "java/lang/String", name := "isLatin1", desc := "()Z" } : Jvm.MethodName) jdk_42_method_154_code (1 : Nat) (Option.some Jvm.ClassFile.FieldType.boolean)).before args0 about1 = true := code_word (m := ⟨7, 10⟩) (meth := k7m10) (c := k7c10) (by decide +kernel) rfl rfl rfl (by decide +kernel)
set_option maxRecDepth 65536 in
theorem w_c16 : (Jvm.Cond.code ({ cls := "java/lang/StringLatin1", name := "charAt", desc := "([BI)C" } : Jvm.MethodName) jdk_43_method_2_code (2 : Nat) (Option.some Jvm.ClassFile.FieldType.char)).before args0 about1 = true := code_word (m := ⟨11, 1⟩) (meth := k11m1) (c := k11c1) (by decide +kernel) rfl rfl rfl (by decide +kernel)
set_option maxRecDepth 65536 in
theorem w_c17 : (Jvm.Cond.code ({ cls := "java/lang/String", name := "checkIndex", desc := "(II)V" } : Jvm.MethodName) jdk_42_method_155_code (2 : Nat) (Option.none : Option Jvm.ClassFile.FieldType)).before args0 about1 = true := code_word (m := ⟨7, 11⟩) (meth := k7m11) (c := k7c11) (by decide +kernel) rfl rfl rfl (by decide +kernel)
set_option maxRecDepth 65536 in
theorem w_c18 : (Jvm.Cond.code ({ cls := "jdk/internal/util/Preconditions", name := "checkIndex", desc := "(IILjava/util/function/BiFunction;)I" } : Jvm.MethodName) jdk_41_method_11_code (3 : Nat) (Option.some Jvm.ClassFile.FieldType.int)).before args0 about1 = true := code_word (m := ⟨12, 1⟩) (meth := k12m1) (c := k12c1) (by decide +kernel) rfl rfl rfl (by decide +kernel)
set_option maxRecDepth 65536 in
theorem w_c19 : (Jvm.Cond.code ({ cls := "com/example/periwinkle/periwinkle/Name", name := "isAllowed", desc := "(C)Z" } : Jvm.MethodName) prog_17_method_6_code (1 : Nat) (Option.some Jvm.ClassFile.FieldType.boolean)).before args0 about1 = true := code_word (m := ⟨9, 2⟩) (meth := k9m2) (c := k9c2) (by decide +kernel) rfl rfl rfl (by decide +kernel)
set_option maxRecDepth 65536 in
theorem w_c20 : (Jvm.Cond.code ({ cls := "com/example/periwinkle/periwinkle/Name", name := "equals", desc := "(Ljava/lang/Object;)Z" } : Jvm.MethodName) prog_17_method_3_code (2 : Nat) (Option.some Jvm.ClassFile.FieldType.boolean)).before args0 about1 = true := code_word (m := ⟨9, 1⟩) (meth := k9m1) (c := k9c1) (by decide +kernel) rfl rfl rfl (by decide +kernel)
set_option maxRecDepth 65536 in
theorem w_c21 : (Jvm.Cond.code ({ cls := "java/lang/String", name := "equals", desc := "(Ljava/lang/Object;)Z" } : Jvm.MethodName) jdk_42_method_66_code (3 : Nat) (Option.some Jvm.ClassFile.FieldType.boolean)).before args0 about1 = true := code_word (m := ⟨7, 5⟩) (meth := k7m5) (c := k7c5) (by decide +kernel) rfl rfl rfl (by decide +kernel)
set_option maxRecDepth 65536 in
theorem w_c22 : (Jvm.Cond.code ({ cls := "java/lang/StringLatin1", name := "equals", desc := "([B[B)Z" } : Jvm.MethodName) jdk_43_method_13_code (3 : Nat) (Option.some Jvm.ClassFile.FieldType.boolean)).before args0 about1 = true := code_word (m := ⟨11, 3⟩) (meth := k11m3) (c := k11c3) (by decide +kernel) rfl rfl rfl (by decide +kernel)
set_option maxRecDepth 65536 in
theorem w_c23 : (Jvm.Cond.code ({ cls := "java/lang/String", name := "indexOf", desc := "(I)I" } : Jvm.MethodName) jdk_42_method_79_code (2 : Nat) (Option.some Jvm.ClassFile.FieldType.int)).before args0 about1 = true := code_word (m := ⟨7, 6⟩) (meth := k7m6) (c := k7c6) (by decide +kernel) rfl rfl rfl (by decide +kernel)
set_option maxRecDepth 65536 in
theorem w_c24 : (Jvm.Cond.code ({ cls := "java/lang/String", name := "indexOf", desc := "(II)I" } : Jvm.MethodName) jdk_42_method_80_code (3 : Nat) (Option.some Jvm.ClassFile.FieldType.int)).before args0 about1 = true := code_word (m := ⟨7, 7⟩) (meth := k7m7) (c := k7c7) (by decide +kernel) rfl rfl rfl (by decide +kernel)
set_option maxRecDepth 65536 in
theorem w_c25 : (Jvm.Cond.code ({ cls := "java/lang/StringLatin1", name := "indexOf", desc := "([BIII)I" } : Jvm.MethodName) jdk_43_method_22_code (4 : Nat) (Option.some Jvm.ClassFile.FieldType.int)).before args0 about1 = true := code_word (m := ⟨11, 4⟩) (meth := k11m4) (c := k11c4) (by decide +kernel) rfl rfl rfl (by decide +kernel)
set_option maxRecDepth 65536 in
theorem w_c26 : (Jvm.Cond.code ({ cls := "java/lang/StringLatin1", name := "canEncode", desc := "(I)Z" } : Jvm.MethodName) jdk_43_method_4_code (1 : Nat) (Option.some Jvm.ClassFile.FieldType.boolean)).before args0 about1 = true := code_word (m := ⟨11, 2⟩) (meth := k11m2) (c := k11c2) (by decide +kernel) rfl rfl rfl (by decide +kernel)
set_option maxRecDepth 65536 in
theorem w_c27 : (Jvm.Cond.code ({ cls := "java/lang/Math", name := "max", desc := "(II)I" } : Jvm.MethodName) jdk_29_method_65_code (2 : Nat) (Option.some Jvm.ClassFile.FieldType.int)).before args0 about1 = true := code_word (m := ⟨13, 1⟩) (meth := k13m1) (c := k13c1) (by decide +kernel) rfl rfl rfl (by decide +kernel)
set_option maxRecDepth 65536 in
theorem w_c28 : (Jvm.Cond.code ({ cls := "java/lang/Math", name := "min", desc := "(II)I" } : Jvm.MethodName) jdk_29_method_69_code (2 : Nat) (Option.some Jvm.ClassFile.FieldType.int)).before args0 about1 = true := code_word (m := ⟨13, 2⟩) (meth := k13m2) (c := k13c2) (by decide +kernel) rfl rfl rfl (by decide +kernel)
set_option maxRecDepth 65536 in
theorem w_c29 : (Jvm.Cond.code ({ cls := "java/lang/StringLatin1", name := "indexOfChar", desc := "([BIII)I" } : Jvm.MethodName) jdk_43_method_23_code (6 : Nat) (Option.some Jvm.ClassFile.FieldType.int)).before args0 about1 = true := code_word (m := ⟨11, 5⟩) (meth := k11m5) (c := k11c5) (by decide +kernel) rfl rfl rfl (by decide +kernel)
def codes1 : List Jvm.Cond := [Jvm.Cond.code x code maxLocals ret, Jvm.Cond.code ({ cls := "com/example/periwinkle/periwinkle/NameEqualsPinLaw", name := "allowed", desc := "(I)C" } : Jvm.MethodName) method_2_code (2 : Nat) (Option.some Jvm.ClassFile.FieldType.char), Jvm.Cond.code ({ cls := "com/example/periwinkle/periwinkle/NameEqualsPinLaw", name := "make", desc := "(ICCCC)Ljava/lang/String;" } : Jvm.MethodName) method_3_code (5 : Nat) (Option.some (Jvm.ClassFile.FieldType.object "java/lang/String")), Jvm.Cond.code ({ cls := "java/lang/String", name := "<init>", desc := "([C)V" } : Jvm.MethodName) jdk_42_method_3_code (2 : Nat) (Option.none : Option Jvm.ClassFile.FieldType), Jvm.Cond.code ({ cls := "java/lang/String", name := "<init>", desc := "([CIILjava/lang/Void;)V" } : Jvm.MethodName) jdk_42_method_149_code (6 : Nat) (Option.none : Option Jvm.ClassFile.FieldType), Jvm.Cond.code ({ cls := "java/lang/Object", name := "<init>", desc := "()V" } : Jvm.MethodName) object_method_1_code (1 : Nat) (Option.none : Option Jvm.ClassFile.FieldType), Jvm.Cond.code ({ cls := "java/lang/StringUTF16", name := "compress", desc := "([CII)[B" } : Jvm.MethodName) jdk_52_method_16_code (6 : Nat) (Option.some (Jvm.ClassFile.FieldType.array Jvm.ClassFile.FieldType.byte)), Jvm.Cond.code ({ cls := "java/lang/StringUTF16", name := "compress", desc := "([CI[BII)I" } : Jvm.MethodName) jdk_52_method_21_code (7 : Nat) (Option.some Jvm.ClassFile.FieldType.int), Jvm.Cond.code ({ cls := "java/lang/StringUTF16", name := "coderFromArrayLen", desc := "([BI)B" } : Jvm.MethodName) jdk_52_method_15_code (2 : Nat) (Option.some Jvm.ClassFile.FieldType.byte), Jvm.Cond.code ({ cls := "com/example/periwinkle/periwinkle/Name", name := "<init>", desc := "(Ljava/lang/String;)V" } : Jvm.MethodName) prog_17_method_1_code (3 : Nat) (Option.none : Option Jvm.ClassFile.FieldType), Jvm.Cond.code ({ cls := "java/util/Objects", name := "requireNonNull", desc := "(Ljava/lang/Object;Ljava/lang/String;)Ljava/lang/Object;" } : Jvm.MethodName) jdk_31_method_11_code (2 : Nat) (Option.some (Jvm.ClassFile.FieldType.object "java/lang/Object")), Jvm.Cond.code ({ cls := "java/lang/String", name := "isEmpty", desc := "()Z" } : Jvm.MethodName) jdk_42_method_55_code (1 : Nat) (Option.some Jvm.ClassFile.FieldType.boolean), Jvm.Cond.code ({ cls := "java/lang/String", name := "length", desc := "()I" } : Jvm.MethodName) jdk_42_method_54_code (1 : Nat) (Option.some Jvm.ClassFile.FieldType.int), Jvm.Cond.code ({ cls := "java/lang/String", name := "coder", desc := "()B" } : Jvm.MethodName) jdk_42_method_152_code (1 : Nat) (Option.some Jvm.ClassFile.FieldType.byte), Jvm.Cond.code ({ cls := "java/lang/String", name := "charAt", desc := "(I)C" } : Jvm.MethodName) jdk_42_method_56_code (2 : Nat) (Option.some Jvm.ClassFile.FieldType.char), Jvm.Cond.code ({ cls := "java/lang/String", name := "isLatin1", desc := "()Z" } : Jvm.MethodName) jdk_42_method_154_code (1 : Nat) (Option.some Jvm.ClassFile.FieldType.boolean), Jvm.Cond.code ({ cls := "java/lang/StringLatin1", name := "charAt", desc := "([BI)C" } : Jvm.MethodName) jdk_43_method_2_code (2 : Nat) (Option.some Jvm.ClassFile.FieldType.char), Jvm.Cond.code ({ cls := "java/lang/String", name := "checkIndex", desc := "(II)V" } : Jvm.MethodName) jdk_42_method_155_code (2 : Nat) (Option.none : Option Jvm.ClassFile.FieldType), Jvm.Cond.code ({ cls := "jdk/internal/util/Preconditions", name := "checkIndex", desc := "(IILjava/util/function/BiFunction;)I" } : Jvm.MethodName) jdk_41_method_11_code (3 : Nat) (Option.some Jvm.ClassFile.FieldType.int), Jvm.Cond.code ({ cls := "com/example/periwinkle/periwinkle/Name", name := "isAllowed", desc := "(C)Z" } : Jvm.MethodName) prog_17_method_6_code (1 : Nat) (Option.some Jvm.ClassFile.FieldType.boolean), Jvm.Cond.code ({ cls := "com/example/periwinkle/periwinkle/Name", name := "equals", desc := "(Ljava/lang/Object;)Z" } : Jvm.MethodName) prog_17_method_3_code (2 : Nat) (Option.some Jvm.ClassFile.FieldType.boolean), Jvm.Cond.code ({ cls := "java/lang/String", name := "equals", desc := "(Ljava/lang/Object;)Z" } : Jvm.MethodName) jdk_42_method_66_code (3 : Nat) (Option.some Jvm.ClassFile.FieldType.boolean), Jvm.Cond.code ({ cls := "java/lang/StringLatin1", name := "equals", desc := "([B[B)Z" } : Jvm.MethodName) jdk_43_method_13_code (3 : Nat) (Option.some Jvm.ClassFile.FieldType.boolean), Jvm.Cond.code ({ cls := "java/lang/String", name := "indexOf", desc := "(I)I" } : Jvm.MethodName) jdk_42_method_79_code (2 : Nat) (Option.some Jvm.ClassFile.FieldType.int), Jvm.Cond.code ({ cls := "java/lang/String", name := "indexOf", desc := "(II)I" } : Jvm.MethodName) jdk_42_method_80_code (3 : Nat) (Option.some Jvm.ClassFile.FieldType.int), Jvm.Cond.code ({ cls := "java/lang/StringLatin1", name := "indexOf", desc := "([BIII)I" } : Jvm.MethodName) jdk_43_method_22_code (4 : Nat) (Option.some Jvm.ClassFile.FieldType.int), Jvm.Cond.code ({ cls := "java/lang/StringLatin1", name := "canEncode", desc := "(I)Z" } : Jvm.MethodName) jdk_43_method_4_code (1 : Nat) (Option.some Jvm.ClassFile.FieldType.boolean), Jvm.Cond.code ({ cls := "java/lang/Math", name := "max", desc := "(II)I" } : Jvm.MethodName) jdk_29_method_65_code (2 : Nat) (Option.some Jvm.ClassFile.FieldType.int), Jvm.Cond.code ({ cls := "java/lang/Math", name := "min", desc := "(II)I" } : Jvm.MethodName) jdk_29_method_69_code (2 : Nat) (Option.some Jvm.ClassFile.FieldType.int), Jvm.Cond.code ({ cls := "java/lang/StringLatin1", name := "indexOfChar", desc := "([BIII)I" } : Jvm.MethodName) jdk_43_method_23_code (6 : Nat) (Option.some Jvm.ClassFile.FieldType.int)]
set_option maxRecDepth 65536 in
theorem codes_eq : words1.filter isCode = codes1 := rfl
theorem w_codes : ∀ c ∈ words1.filter isCode, c.before args0 about1 = true := by
  rw [codes_eq]
  intro c hc
  simp only [codes1, List.mem_cons, List.not_mem_nil, or_false] at hc
  rcases hc with rfl | rfl | rfl | rfl | rfl | rfl | rfl | rfl | rfl | rfl | rfl | rfl | rfl | rfl | rfl | rfl | rfl | rfl | rfl | rfl | rfl | rfl | rfl | rfl | rfl | rfl | rfl | rfl | rfl | rfl
  · exact w_c0
  · exact w_c1
  · exact w_c2
  · exact w_c3
  · exact w_c4
  · exact w_c5
  · exact w_c6
  · exact w_c7
  · exact w_c8
  · exact w_c9
  · exact w_c10
  · exact w_c11
  · exact w_c12
  · exact w_c13
  · exact w_c14
  · exact w_c15
  · exact w_c16
  · exact w_c17
  · exact w_c18
  · exact w_c19
  · exact w_c20
  · exact w_c21
  · exact w_c22
  · exact w_c23
  · exact w_c24
  · exact w_c25
  · exact w_c26
  · exact w_c27
  · exact w_c28
  · exact w_c29
set_option maxRecDepth 65536 in
theorem w_t1 : (words1.take 24).all (fun c => isCode c || c.before args0 about1) = true := by decide +kernel
set_option maxRecDepth 65536 in
theorem w_t2 : ((words1.drop 24).take 24).all (fun c => isCode c || c.before args0 about1) = true := by decide +kernel
set_option maxRecDepth 65536 in
theorem w_t3 : (((words1.drop 24).drop 24).take 24).all (fun c => isCode c || c.before args0 about1) = true := by decide +kernel
set_option maxRecDepth 65536 in
theorem w_t4 : ((((words1.drop 24).drop 24).drop 24).take 24).all (fun c => isCode c || c.before args0 about1) = true := by decide +kernel
set_option maxRecDepth 65536 in
theorem w_t5 : (((((words1.drop 24).drop 24).drop 24).drop 24).take 24).all (fun c => isCode c || c.before args0 about1) = true := by decide +kernel
set_option maxRecDepth 65536 in
theorem w_t6 : (((((words1.drop 24).drop 24).drop 24).drop 24).drop 24).all (fun c => isCode c || c.before args0 about1) = true := by decide +kernel
theorem w_tables : (allAtoms (Jvm.Cond.code x code maxLocals ret :: tables_1)).before args0 about1 = true := by
  rw [allAtoms_all]
  show words1.all (fun c => c.before args0 about1) = true
  refine all_split ?_ w_codes
  rw [← List.take_append_drop 24 words1, List.all_append, w_t1, ← List.take_append_drop 24 (words1.drop 24), List.all_append, w_t2, ← List.take_append_drop 24 ((words1.drop 24).drop 24), List.all_append, w_t3, ← List.take_append_drop 24 (((words1.drop 24).drop 24).drop 24), List.all_append, w_t4, ← List.take_append_drop 24 ((((words1.drop 24).drop 24).drop 24).drop 24), List.all_append, w_t5, w_t6]
  rfl
set_option maxRecDepth 65536 in
theorem w_rest : rest_1_c.before args0 about1 = true := by decide +kernel
set_option maxRecDepth 65536 in
theorem w_case : (Jvm.Cond.and given_1 narrow_1).before args0 about1 = true := by decide +kernel
set_option maxRecDepth 65536 in
theorem w_consts : constsHeld consts_1 about1 := Jvm.Lit.constsHeldB_iff.mp (by decide +kernel)
theorem w_applies : (headSpec (Jvm.Cond.code x code maxLocals ret :: tables_1) room_1).applies x e0.platform about1 = true :=
  (Spec.applies_iff w_frames).mpr ⟨w_running, w_runnable, w_alone, w_named, w_hears, w_ripe, w_room, w_tables⟩
theorem atStart : AtStart classFile x code maxLocals ret World_1 tables_1 room_1 Calls_1 rest_1 Pre_1 launch0 p0 e0 about1 theMethod args0 below0 :=
  ⟨lists_1, trivial, launch0.admits_env _ _ _, launch0.least_env, fairChoices_fair.cas, fairChoices_fair.clock, w_frames, w_args, w_heap, w_applies, ⟨w_consts, trivial⟩, w_rest, w_case⟩
end start1
theorem witness_1 : WitnessClaimed_1 := ⟨start1.p0, start1.e0, start1.about1, start1.theMethod, start1.args0, start1.below0, start1.atStart⟩
end Jvm.Pilot.@@N@@
