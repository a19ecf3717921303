import JvmDerived
import JvmDerived.Pilot.@@N@@Statement
import JvmDerived.Pilot.@@N@@Code
set_option linter.unusedVariables false
set_option linter.unusedSimpArgs false
namespace Jvm.Pilot.@@N@@
open Jvm Jvm.ClassFile Sem Op Lib Jvm.Free Jvm.Stand Jvm.LawKit Jvm.RoadKit Bundle Jvm.Pilot.@@N@@.Jvm.D

section OwnKit
variable {G : State → JFrame → Prop} {p : Program} {l : Launch} {e : Env} {R : Room} {s : State} {m : MethodId} {args : Array Value} {below : List Frame} {meth : Method} {c : Code} {Z : State} {n0 : Nat} {own nm : String} {bytes : ByteArray} {maxL : Nat} {ret : Option FieldType} {T : State} {h : Heap} {cells slots : Nat} {a0 : Array Value}
def own_Cl (p : Program) (e : Env) (below : List Frame) (G : State → JFrame → Prop) : Prop :=
  ∀ (T T' : State) (g g' : JFrame), (∀ t, Steps p.tables e below (T'.setTop g') t → Steps p.tables e below (T.setTop g) t) → G T' g' → G T g
def own_Cx (p : Program) (s : State) (m : MethodId) (meth : Method) (c : Code) (Z : State) (own nm : String) (bytes : ByteArray) (maxL : Nat) (ret : Option FieldType) : Prop :=
  p.tables.exec = Jvm.exec ∧ c.code = bytes ∧ Z.Warmed39 s.vm ∧ s.vm.findClass own = some m.cls ∧ c.maxLocals = maxL ∧ meth.name = nm ∧ meth.sig.returnType = ret ∧ meth.locks = false
def own_At (G : State → JFrame → Prop) (p : Program) (l : Launch) (e : Env) (R : Room) (s : State) (m : MethodId) (args : Array Value) (below : List Frame) (meth : Method) (c : Code) (Z : State) (n0 : Nat) (own nm : String) (bytes : ByteArray) (maxL : Nat) (ret : Option FieldType) (T : State) (h : Heap) (cells slots : Nat) : Prop :=
  own_Cl p e below G ∧ own_Cx p s m meth c Z own nm bytes maxL ret ∧ ∃ locs, Stand p l e R s m args below meth c T locs cells slots ∧ Fr n0 locs ∧ T.heap = h ∧ Old Z n0 h
def own_Fin (p : Program) (e : Env) (below : List Frame) (s : State) (Z : State) (n0 : Nat) (Q : Option Value → Heap → Prop) (k n : Nat) (T : State) (g : JFrame) : Prop :=
  ∃ s₂ o, Steps p.tables e below (T.setTop g) s₂ ∧ s₂.status = .running ∧ Ended s₂ below o ∧ ∃ v L, o = .returned v ∧ (Q v s₂.heap ∧ Fr n0 L ∧ Old Z n0 s₂.heap) ∧ FrameEnd s o s₂ L k n
theorem own_Fin_cl (p : Program) (e : Env) (below : List Frame) (s : State) (Z : State) (n0 : Nat) (Q : Option Value → Heap → Prop) (k n : Nat) : own_Cl p e below (own_Fin p e below s Z n0 Q k n) := by
  intro T T' g g' hs ⟨s₂, o, h1, h2⟩
  exact ⟨s₂, o, hs _ h1, h2⟩
/-- the contract of a body -/
def own_Met (l : Launch) (Z : State) (n0 : Nat) (y : MethodName) (bytes : ByteArray) (maxL : Nat) (ret : Option FieldType) (rm : Room) (as' : Array Value) (h0 : Heap) (Q : Option Value → Heap → Prop) : Prop :=
  ∀ ws, MetFree l y (head1 (Jvm.Cond.code y bytes maxL ret :: ws) rm) (fun a U => a = as' ∧ Z.Warmed39 U.vm ∧ U.heap = h0) (fun _ _ _ _ _ => True) (fun _ U o U' => ∃ v L, o = .returned v ∧ (Q v U'.heap ∧ Fr n0 L ∧ Old Z n0 U'.heap) ∧ FrameEnd U o U' L rm.cells rm.slots)
theorem own_enter {y : MethodName} {rm : Room} {as' : Array Value} {h0 : Heap} {Q : Option Value → Heap → Prop} (hpn : plainFor y = true) (ho : y.cls = own) (hn : y.name = nm) (hO : Old Z n0 h0)
    (H : ∀ (G : State → JFrame → Prop) (p : Program) (e : Env) (s : State) (m : MethodId) (below : List Frame) (meth : Method) (c : Code) (T : State), G = own_Fin p e below s Z n0 Q rm.cells rm.slots → own_At G p l e rm s m as' below meth c Z n0 own nm bytes maxL ret T h0 0 0 → G T (entryFrame m as' maxL)) :
    own_Met l Z n0 y bytes maxL ret rm as' h0 Q := by
  intro ws
  subst ho hn
  refine MetFree.of_bodySF hpn hisR ?_
  intro p e s m args below meth c s₁ Bd hml0 hP hK
  obtain ⟨rfl, hZ, hh⟩ := hP
  have e0 : s₁.heap = h0 := by rw [← hh, Bd.state]; rfl
  obtain ⟨s₂, o, h1, h2, h3, h4⟩ := H _ p e s m below meth c s₁ rfl ⟨own_Fin_cl p e below s Z n0 Q rm.cells rm.slots, ⟨Bd.exec, Bd.bytes, hZ, findClass_of_methodNamed Bd.named, hml0, (name_of_methodNamed Bd.named Bd.method).1, Bd.returns, BodyLoose.notSynchronized Bd⟩, [], Stand.of_body Bd, Fr.nil n0, e0, hO⟩
  exact ⟨s₂, o, h1, h2, h3, h4⟩
theorem own_at_heap (X : own_At G p l e R s m args below meth c Z n0 own nm bytes maxL ret T h cells slots) : T.heap = h := by obtain ⟨-, -, _, -, -, e, -⟩ := X; exact e
theorem own_old (X : own_At G p l e R s m args below meth c Z n0 own nm bytes maxL ret T h cells slots) : Old Z n0 h := by obtain ⟨-, -, _, -, -, -, e⟩ := X; exact e
theorem own_sta (X : own_At G p l e R s m args below meth c Z n0 own nm bytes maxL ret T h cells slots) {C n d : String} {v : Value} (S : Sta Z Z.heap C n d v) : Sta Z h C n d v := S.ext (own_old X).2
theorem own_n0 (X : own_At G p l e R s m args below meth c Z n0 own nm bytes maxL ret T h cells slots) : n0 ≤ h.size := by have := own_old X; rw [← this.1]; exact this.2.1
theorem own_mono (X : own_At G p l e R s m args below meth c Z n0 own nm bytes maxL ret T h cells slots) {cells' slots' : Nat} (h1 : cells ≤ cells') (h2 : slots ≤ slots') : own_At G p l e R s m args below meth c Z n0 own nm bytes maxL ret T h cells' slots' := by
  obtain ⟨hG, C, L, X, r⟩ := X
  exact ⟨hG, C, L, { X with same := X.same.mono h1 h2 }, r⟩
theorem own_ret {Q : Option Value → Heap → Prop} {k n : Nat} (X : own_At G p l e R s m args below meth c Z n0 own nm bytes maxL ret T h cells slots) (hGe : G = own_Fin p e below s Z n0 Q k n) {pc : Nat} {Ls : Array Slot} {w : Value} {t : FieldType} {i : Instr} {rest : List Value} (hret : ret = some t) (hn : narrow t w = w)
    (hi : (i = .ireturn ∧ (t = .int ∨ t = .boolean ∨ t = .byte ∨ t = .char ∨ t = .short) ∧ ∃ z, w = .int z) ∨ (i = .lreturn ∧ t = .long ∧ ∃ z, w = .long z) ∨ (i = .dreturn ∧ t = .double ∧ ∃ z, w = .double z) ∨ (i = .freturn ∧ t = .float ∧ ∃ z, w = .float z) ∨ (i = .areturn ∧ t.isReference = true ∧ w.isRef = true))
    (hd : decode bytes pc = .ok (i, 1)) (hk : cells ≤ k) (hs : slots ≤ n) (hQ : Q (some w) h) : G T (mkF m pc Ls (w :: rest)) := by
  obtain ⟨-, ⟨c1, c2, c3, c4, c5, c6, c7, c8⟩, L, X, N, eT, O⟩ := X
  have hr' : meth.sig.returnType = some t := c7.trans hret
  obtain ⟨fs, hr, hrun, hended, hW, hsame⟩ := X.leave (v := some w) (fun h => by rw [hr'] at h; cases h)
  rw [hGe]
  exact ⟨_, _, retOut X c1 hr' hn hi (hb c2 hd) hr, hrun, hended, _, L, rfl, ⟨by show Q _ T.heap; rw [eT]; exact hQ, N, by show Old Z n0 T.heap; rw [eT]; exact O⟩, ⟨_, rfl⟩, hW, hsame.mono hk hs⟩
theorem own_retV {Q : Option Value → Heap → Prop} {k n : Nat} (X : own_At G p l e R s m args below meth c Z n0 own nm bytes maxL ret T h cells slots) (hGe : G = own_Fin p e below s Z n0 Q k n) {pc : Nat} {Ls : Array Slot} (hret : ret = none)
    (hd : decode bytes pc = .ok (.return_, 1)) (hk : cells ≤ k) (hs : slots ≤ n) (hQ : Q none h) : G T (mkF m pc Ls []) := by
  obtain ⟨-, ⟨c1, c2, c3, c4, c5, c6, c7, c8⟩, L, X, N, eT, O⟩ := X
  have hr' : meth.sig.returnType = none := c7.trans hret
  obtain ⟨fs, hr, hrun, hended, hW, hsame⟩ := X.leave (v := none) (fun _ => rfl)
  rw [hGe]
  exact ⟨_, _, X.returnOut c1 hr' (hb c2 hd) hr, hrun, hended, _, L, rfl, ⟨by show Q _ T.heap; rw [eT]; exact hQ, N, by show Old Z n0 T.heap; rw [eT]; exact O⟩, ⟨_, rfl⟩, hW, hsame.mono hk hs⟩
theorem own_ne {a b : Addr} {n m : Nat} (h1 : a < n) (h2 : n ≤ m) (h3 : m ≤ b) : a ≠ b := Nat.ne_of_lt (Nat.lt_of_lt_of_le h1 (Nat.le_trans h2 h3))
theorem own_ifc {P Q : Prop} [Decidable P] [Decidable Q] (h : P ↔ Q) : (if P then (1 : Int32) else 0) = if Q then 1 else 0 := by
  by_cases q : P
  · rw [if_pos q, if_pos (h.mp q)]
  · rw [if_neg q, if_neg (fun z => q (h.mpr z))]
theorem own_i32 {i : Nat} (hi : i < 2 ^ 31) : (Int32.ofNat i).toInt = i := len_toInt hi
theorem own_i32lt {i n : Nat} (h : i < n) (hn : n < 2 ^ 31) : Int32.ofNat i < Int32.ofNat n := by rw [Int32.lt_iff_toInt_lt, own_i32 (by omega), own_i32 hn]; omega
theorem own_i32le {i n : Nat} (h : n ≤ i) (hi : i < 2 ^ 31) : ¬ Int32.ofNat i < Int32.ofNat n := by rw [Int32.lt_iff_toInt_lt, own_i32 hi, own_i32 (by omega)]; omega
theorem own_inc (i : Nat) : Int32.ofNat i + 1 = Int32.ofNat (i + 1) := (inc_ofNat i).symm
def own_c16 (x : Int32) : Int32 := x.toUInt32.toUInt16.toUInt32.toInt32
def own_b8 (x : Int32) : Int32 := x.toInt8.toInt32
def own_ushr (x k : Int32) : Int32 := (x.toUInt32 >>> (k &&& 31).toUInt32).toInt32

theorem own_aconst_null (X : own_At G p l e R s m args below meth c Z n0 own nm bytes maxL ret T h cells slots) {pc pc' : Nat} {Ls : Array Slot} {st : List Value} (hd : decode bytes pc = .ok (.aconst_null, 1)) (hp : pc' = pc + 1)  (k : G T (mkF m pc' Ls (.null :: st))) : G T (mkF m pc Ls st) := by
  obtain ⟨hG, ⟨c1, c2, -⟩, L, X, -⟩ := X
  subst hp
  exact hG _ _ _ _ (fun t q => XS.aconstNull X.here c1 rfl (hb c2 hd) q) k
theorem own_iconst (X : own_At G p l e R s m args below meth c Z n0 own nm bytes maxL ret T h cells slots) {pc pc' : Nat} {Ls : Array Slot} {st : List Value} {i : Int} {z : Int32} (hd : decode bytes pc = .ok (.iconst i, 1)) (hp : pc' = pc + 1) (hz : Int32.ofInt i = z) (k : G T (mkF m pc' Ls (.int z :: st))) : G T (mkF m pc Ls st) := by
  obtain ⟨hG, ⟨c1, c2, -⟩, L, X, -⟩ := X
  subst hp
  exact hG _ _ _ _ (fun t q => XS.iconst X.here c1 rfl (hb c2 hd) (by rw [hz]; exact q)) k
theorem own_bipush (X : own_At G p l e R s m args below meth c Z n0 own nm bytes maxL ret T h cells slots) {pc pc' : Nat} {Ls : Array Slot} {st : List Value} {i : Int} {z : Int32} (hd : decode bytes pc = .ok (.bipush i, 2)) (hp : pc' = pc + 2) (hz : (Int8.ofInt i).toInt32 = z) (k : G T (mkF m pc' Ls (.int z :: st))) : G T (mkF m pc Ls st) := by
  obtain ⟨hG, ⟨c1, c2, -⟩, L, X, -⟩ := X
  subst hp
  exact hG _ _ _ _ (fun t q => XS.bipush X.here c1 rfl (hb c2 hd) (by rw [hz]; exact q)) k
theorem own_sipush (X : own_At G p l e R s m args below meth c Z n0 own nm bytes maxL ret T h cells slots) {pc pc' : Nat} {Ls : Array Slot} {st : List Value} {i : Int} {z : Int32} (hd : decode bytes pc = .ok (.sipush i, 3)) (hp : pc' = pc + 3) (hz : (Int16.ofInt i).toInt32 = z) (k : G T (mkF m pc' Ls (.int z :: st))) : G T (mkF m pc Ls st) := by
  obtain ⟨hG, ⟨c1, c2, -⟩, L, X, -⟩ := X
  subst hp
  exact hG _ _ _ _ (fun t q => XS.sipush X.here c1 rfl (hb c2 hd) (by rw [hz]; exact q)) k
theorem own_lconst (X : own_At G p l e R s m args below meth c Z n0 own nm bytes maxL ret T h cells slots) {pc pc' : Nat} {Ls : Array Slot} {st : List Value} {i : Fin 2} {z : Int64} (hd : decode bytes pc = .ok (.lconst i, 1)) (hp : pc' = pc + 1) (hz : Int64.ofNat i = z) (k : G T (mkF m pc' Ls (.long z :: st))) : G T (mkF m pc Ls st) := by
  obtain ⟨hG, ⟨c1, c2, -⟩, L, X, -⟩ := X
  subst hp
  exact hG _ _ _ _ (fun t q => XS.lconst X.here c1 rfl (hb c2 hd) (by rw [hz]; exact q)) k
theorem own_iload_n (X : own_At G p l e R s m args below meth c Z n0 own nm bytes maxL ret T h cells slots) {pc pc' : Nat} {Ls : Array Slot} {st : List Value} {i : Fin 4} {v : Int32} (hd : decode bytes pc = .ok (.iload_n i, 1)) (hp : pc' = pc + 1) (hl : Ls[i.val]? = some (.val (.int v))) (k : G T (mkF m pc' Ls (.int v :: st))) : G T (mkF m pc Ls st) := by
  obtain ⟨hG, ⟨c1, c2, -⟩, L, X, -⟩ := X
  subst hp
  exact hG _ _ _ _ (fun t q => XS.iloadN X.here c1 rfl (hb c2 hd) hl q) k
theorem own_iload (X : own_At G p l e R s m args below meth c Z n0 own nm bytes maxL ret T h cells slots) {pc pc' : Nat} {Ls : Array Slot} {st : List Value} {i : Nat} {v : Int32} (hd : decode bytes pc = .ok (.iload i, 2)) (hp : pc' = pc + 2) (hl : Ls[i]? = some (.val (.int v))) (k : G T (mkF m pc' Ls (.int v :: st))) : G T (mkF m pc Ls st) := by
  obtain ⟨hG, ⟨c1, c2, -⟩, L, X, -⟩ := X
  subst hp
  exact hG _ _ _ _ (fun t q => XS.iload X.here c1 rfl (hb c2 hd) hl q) k
theorem own_istore_n (X : own_At G p l e R s m args below meth c Z n0 own nm bytes maxL ret T h cells slots) {pc pc' : Nat} {Ls : Array Slot} {st : List Value} {i : Fin 4} {v : Int32} {Ls' : Array Slot} (hd : decode bytes pc = .ok (.istore_n i, 1)) (hp : pc' = pc + 1) (hl : storeLocals Ls i.val (.int v) = some Ls') (k : G T (mkF m pc' Ls' st)) : G T (mkF m pc Ls (.int v :: st)) := by
  obtain ⟨hG, ⟨c1, c2, -⟩, L, X, -⟩ := X
  subst hp
  exact hG _ _ _ _ (fun t q => XS.istoreN X.here c1 rfl (hb c2 hd) rfl hl q) k
theorem own_istore (X : own_At G p l e R s m args below meth c Z n0 own nm bytes maxL ret T h cells slots) {pc pc' : Nat} {Ls : Array Slot} {st : List Value} {i : Nat} {v : Int32} {Ls' : Array Slot} (hd : decode bytes pc = .ok (.istore i, 2)) (hp : pc' = pc + 2) (hl : storeLocals Ls i (.int v) = some Ls') (k : G T (mkF m pc' Ls' st)) : G T (mkF m pc Ls (.int v :: st)) := by
  obtain ⟨hG, ⟨c1, c2, -⟩, L, X, -⟩ := X
  subst hp
  exact hG _ _ _ _ (fun t q => XS.istore X.here c1 rfl (hb c2 hd) rfl hl q) k
theorem own_lload_n (X : own_At G p l e R s m args below meth c Z n0 own nm bytes maxL ret T h cells slots) {pc pc' : Nat} {Ls : Array Slot} {st : List Value} {i : Fin 4} {v : Int64} (hd : decode bytes pc = .ok (.lload_n i, 1)) (hp : pc' = pc + 1) (hl : Ls[i.val]? = some (.val (.long v))) (k : G T (mkF m pc' Ls (.long v :: st))) : G T (mkF m pc Ls st) := by
  obtain ⟨hG, ⟨c1, c2, -⟩, L, X, -⟩ := X
  subst hp
  exact hG _ _ _ _ (fun t q => XS.lloadN X.here c1 rfl (hb c2 hd) hl q) k
theorem own_lload (X : own_At G p l e R s m args below meth c Z n0 own nm bytes maxL ret T h cells slots) {pc pc' : Nat} {Ls : Array Slot} {st : List Value} {i : Nat} {v : Int64} (hd : decode bytes pc = .ok (.lload i, 2)) (hp : pc' = pc + 2) (hl : Ls[i]? = some (.val (.long v))) (k : G T (mkF m pc' Ls (.long v :: st))) : G T (mkF m pc Ls st) := by
  obtain ⟨hG, ⟨c1, c2, -⟩, L, X, -⟩ := X
  subst hp
  exact hG _ _ _ _ (fun t q => XS.lload X.here c1 rfl (hb c2 hd) hl q) k
theorem own_lstore_n (X : own_At G p l e R s m args below meth c Z n0 own nm bytes maxL ret T h cells slots) {pc pc' : Nat} {Ls : Array Slot} {st : List Value} {i : Fin 4} {v : Int64} {Ls' : Array Slot} (hd : decode bytes pc = .ok (.lstore_n i, 1)) (hp : pc' = pc + 1) (hl : storeLocals Ls i.val (.long v) = some Ls') (k : G T (mkF m pc' Ls' st)) : G T (mkF m pc Ls (.long v :: st)) := by
  obtain ⟨hG, ⟨c1, c2, -⟩, L, X, -⟩ := X
  subst hp
  exact hG _ _ _ _ (fun t q => XS.lstoreN X.here c1 rfl (hb c2 hd) rfl hl q) k
theorem own_lstore (X : own_At G p l e R s m args below meth c Z n0 own nm bytes maxL ret T h cells slots) {pc pc' : Nat} {Ls : Array Slot} {st : List Value} {i : Nat} {v : Int64} {Ls' : Array Slot} (hd : decode bytes pc = .ok (.lstore i, 2)) (hp : pc' = pc + 2) (hl : storeLocals Ls i (.long v) = some Ls') (k : G T (mkF m pc' Ls' st)) : G T (mkF m pc Ls (.long v :: st)) := by
  obtain ⟨hG, ⟨c1, c2, -⟩, L, X, -⟩ := X
  subst hp
  exact hG _ _ _ _ (fun t q => XS.lstore X.here c1 rfl (hb c2 hd) rfl hl q) k
theorem own_aload_n (X : own_At G p l e R s m args below meth c Z n0 own nm bytes maxL ret T h cells slots) {pc pc' : Nat} {Ls : Array Slot} {st : List Value} {i : Fin 4} {v : Value} (hd : decode bytes pc = .ok (.aload_n i, 1)) (hp : pc' = pc + 1) (hl : Ls[i.val]? = some (.val v)) (hv : v.isRef = true) (k : G T (mkF m pc' Ls (v :: st))) : G T (mkF m pc Ls st) := by
  obtain ⟨hG, ⟨c1, c2, -⟩, L, X, -⟩ := X
  subst hp
  exact hG _ _ _ _ (fun t q => XS.aloadN X.here c1 rfl (hb c2 hd) hl hv q) k
theorem own_aload (X : own_At G p l e R s m args below meth c Z n0 own nm bytes maxL ret T h cells slots) {pc pc' : Nat} {Ls : Array Slot} {st : List Value} {i : Nat} {v : Value} (hd : decode bytes pc = .ok (.aload i, 2)) (hp : pc' = pc + 2) (hl : Ls[i]? = some (.val v)) (hv : v.isRef = true) (k : G T (mkF m pc' Ls (v :: st))) : G T (mkF m pc Ls st) := by
  obtain ⟨hG, ⟨c1, c2, -⟩, L, X, -⟩ := X
  subst hp
  exact hG _ _ _ _ (fun t q => XS.aload X.here c1 rfl (hb c2 hd) hl hv q) k
theorem own_astore_n (X : own_At G p l e R s m args below meth c Z n0 own nm bytes maxL ret T h cells slots) {pc pc' : Nat} {Ls : Array Slot} {st : List Value} {i : Fin 4} {v : Value} {Ls' : Array Slot} (hd : decode bytes pc = .ok (.astore_n i, 1)) (hp : pc' = pc + 1) (hv : v.isRef = true) (hl : storeLocals Ls i.val v = some Ls') (k : G T (mkF m pc' Ls' st)) : G T (mkF m pc Ls (v :: st)) := by
  obtain ⟨hG, ⟨c1, c2, -⟩, L, X, -⟩ := X
  subst hp
  exact hG _ _ _ _ (fun t q => XS.astoreN X.here c1 rfl (hb c2 hd) rfl hv hl q) k
theorem own_astore (X : own_At G p l e R s m args below meth c Z n0 own nm bytes maxL ret T h cells slots) {pc pc' : Nat} {Ls : Array Slot} {st : List Value} {i : Nat} {v : Value} {Ls' : Array Slot} (hd : decode bytes pc = .ok (.astore i, 2)) (hp : pc' = pc + 2) (hv : v.isRef = true) (hl : storeLocals Ls i v = some Ls') (k : G T (mkF m pc' Ls' st)) : G T (mkF m pc Ls (v :: st)) := by
  obtain ⟨hG, ⟨c1, c2, -⟩, L, X, -⟩ := X
  subst hp
  exact hG _ _ _ _ (fun t q => XS.astore X.here c1 rfl (hb c2 hd) rfl hv hl q) k
theorem own_iinc (X : own_At G p l e R s m args below meth c Z n0 own nm bytes maxL ret T h cells slots) {pc pc' : Nat} {Ls : Array Slot} {st : List Value} {i : Nat} {cst : Int} {v z r : Int32} {Ls' : Array Slot} (hd : decode bytes pc = .ok (.iinc i cst, 3)) (hp : pc' = pc + 3) (hl : Ls[i]? = some (.val (.int v))) (hz : Int32.ofInt cst = z) (hr : v + z = r) (hs : storeLocals Ls i (.int r) = some Ls') (k : G T (mkF m pc' Ls' st)) : G T (mkF m pc Ls st) := by
  obtain ⟨hG, ⟨c1, c2, -⟩, L, X, -⟩ := X
  subst hp
  exact hG _ _ _ _ (fun t q => XS.iinc X.here c1 rfl (hb c2 hd) hl (by rw [hz, hr]; exact hs) q) k
theorem own_xpop2 {locs : List Loc} {target : State} (X : Stand p l e R s m args below meth c T locs cells slots) (hx : p.tables.exec = Jvm.exec) {pc : Nat} {Ls : Array Slot} {x : Int64} {rest : List Value} (hd : decode c.code pc = .ok (.pop2, 1)) (hr : Steps p.tables e below (T.setTop (mkF m (pc + 1) Ls rest)) target) : Steps p.tables e below (T.setTop (mkF m pc Ls (.long x :: rest))) target := by
  jvm_step X.here [X.here.top, hx, hd, pop2.sem, Value.category]
  exact hr
theorem own_iadd (X : own_At G p l e R s m args below meth c Z n0 own nm bytes maxL ret T h cells slots) {pc pc' : Nat} {Ls : Array Slot} {st : List Value} {x y r : Int32} (hd : decode bytes pc = .ok (.iadd, 1)) (hp : pc' = pc + 1) (hr : x + y = r) (k : G T (mkF m pc' Ls (.int r :: st))) : G T (mkF m pc Ls (.int y :: .int x :: st)) := by
  obtain ⟨hG, ⟨c1, c2, -⟩, L, X, -⟩ := X
  subst hp
  exact hG _ _ _ _ (fun t q => XS.iadd X.here c1 rfl (hb c2 hd) rfl (by subst hr; exact q)) k
theorem own_isub (X : own_At G p l e R s m args below meth c Z n0 own nm bytes maxL ret T h cells slots) {pc pc' : Nat} {Ls : Array Slot} {st : List Value} {x y r : Int32} (hd : decode bytes pc = .ok (.isub, 1)) (hp : pc' = pc + 1) (hr : x - y = r) (k : G T (mkF m pc' Ls (.int r :: st))) : G T (mkF m pc Ls (.int y :: .int x :: st)) := by
  obtain ⟨hG, ⟨c1, c2, -⟩, L, X, -⟩ := X
  subst hp
  exact hG _ _ _ _ (fun t q => XS.isub X.here c1 rfl (hb c2 hd) rfl (by subst hr; exact q)) k
theorem own_imul (X : own_At G p l e R s m args below meth c Z n0 own nm bytes maxL ret T h cells slots) {pc pc' : Nat} {Ls : Array Slot} {st : List Value} {x y r : Int32} (hd : decode bytes pc = .ok (.imul, 1)) (hp : pc' = pc + 1) (hr : x * y = r) (k : G T (mkF m pc' Ls (.int r :: st))) : G T (mkF m pc Ls (.int y :: .int x :: st)) := by
  obtain ⟨hG, ⟨c1, c2, -⟩, L, X, -⟩ := X
  subst hp
  exact hG _ _ _ _ (fun t q => XS.imul X.here c1 rfl (hb c2 hd) rfl (by subst hr; exact q)) k
theorem own_iand (X : own_At G p l e R s m args below meth c Z n0 own nm bytes maxL ret T h cells slots) {pc pc' : Nat} {Ls : Array Slot} {st : List Value} {x y r : Int32} (hd : decode bytes pc = .ok (.iand, 1)) (hp : pc' = pc + 1) (hr : x &&& y = r) (k : G T (mkF m pc' Ls (.int r :: st))) : G T (mkF m pc Ls (.int y :: .int x :: st)) := by
  obtain ⟨hG, ⟨c1, c2, -⟩, L, X, -⟩ := X
  subst hp
  exact hG _ _ _ _ (fun t q => XS.iand X.here c1 rfl (hb c2 hd) rfl (by subst hr; exact q)) k
theorem own_ior (X : own_At G p l e R s m args below meth c Z n0 own nm bytes maxL ret T h cells slots) {pc pc' : Nat} {Ls : Array Slot} {st : List Value} {x y r : Int32} (hd : decode bytes pc = .ok (.ior, 1)) (hp : pc' = pc + 1) (hr : x ||| y = r) (k : G T (mkF m pc' Ls (.int r :: st))) : G T (mkF m pc Ls (.int y :: .int x :: st)) := by
  obtain ⟨hG, ⟨c1, c2, -⟩, L, X, -⟩ := X
  subst hp
  exact hG _ _ _ _ (fun t q => XS.ior X.here c1 rfl (hb c2 hd) rfl (by subst hr; exact q)) k
theorem own_ixor (X : own_At G p l e R s m args below meth c Z n0 own nm bytes maxL ret T h cells slots) {pc pc' : Nat} {Ls : Array Slot} {st : List Value} {x y r : Int32} (hd : decode bytes pc = .ok (.ixor, 1)) (hp : pc' = pc + 1) (hr : x ^^^ y = r) (k : G T (mkF m pc' Ls (.int r :: st))) : G T (mkF m pc Ls (.int y :: .int x :: st)) := by
  obtain ⟨hG, ⟨c1, c2, -⟩, L, X, -⟩ := X
  subst hp
  exact hG _ _ _ _ (fun t q => XS.ixor X.here c1 rfl (hb c2 hd) rfl (by subst hr; exact q)) k
theorem own_ishl (X : own_At G p l e R s m args below meth c Z n0 own nm bytes maxL ret T h cells slots) {pc pc' : Nat} {Ls : Array Slot} {st : List Value} {x y r : Int32} (hd : decode bytes pc = .ok (.ishl, 1)) (hp : pc' = pc + 1) (hr : x <<< (y &&& 31) = r) (k : G T (mkF m pc' Ls (.int r :: st))) : G T (mkF m pc Ls (.int y :: .int x :: st)) := by
  obtain ⟨hG, ⟨c1, c2, -⟩, L, X, -⟩ := X
  subst hp
  exact hG _ _ _ _ (fun t q => XS.ishl X.here c1 rfl (hb c2 hd) rfl (by subst hr; exact q)) k
theorem own_ishr (X : own_At G p l e R s m args below meth c Z n0 own nm bytes maxL ret T h cells slots) {pc pc' : Nat} {Ls : Array Slot} {st : List Value} {x y r : Int32} (hd : decode bytes pc = .ok (.ishr, 1)) (hp : pc' = pc + 1) (hr : x >>> (y &&& 31) = r) (k : G T (mkF m pc' Ls (.int r :: st))) : G T (mkF m pc Ls (.int y :: .int x :: st)) := by
  obtain ⟨hG, ⟨c1, c2, -⟩, L, X, -⟩ := X
  subst hp
  exact hG _ _ _ _ (fun t q => XS.ishr X.here c1 rfl (hb c2 hd) rfl (by subst hr; exact q)) k
theorem own_iushr (X : own_At G p l e R s m args below meth c Z n0 own nm bytes maxL ret T h cells slots) {pc pc' : Nat} {Ls : Array Slot} {st : List Value} {x y r : Int32} (hd : decode bytes pc = .ok (.iushr, 1)) (hp : pc' = pc + 1) (hr : own_ushr x y = r) (k : G T (mkF m pc' Ls (.int r :: st))) : G T (mkF m pc Ls (.int y :: .int x :: st)) := by
  obtain ⟨hG, ⟨c1, c2, -⟩, L, X, -⟩ := X
  subst hp
  exact hG _ _ _ _ (fun t q => XS.iushr X.here c1 rfl (hb c2 hd) rfl (by subst hr; exact q)) k
theorem own_ladd (X : own_At G p l e R s m args below meth c Z n0 own nm bytes maxL ret T h cells slots) {pc pc' : Nat} {Ls : Array Slot} {st : List Value} {x y r : Int64} (hd : decode bytes pc = .ok (.ladd, 1)) (hp : pc' = pc + 1) (hr : x + y = r) (k : G T (mkF m pc' Ls (.long r :: st))) : G T (mkF m pc Ls (.long y :: .long x :: st)) := by
  obtain ⟨hG, ⟨c1, c2, -⟩, L, X, -⟩ := X
  subst hp
  exact hG _ _ _ _ (fun t q => XS.ladd X.here c1 rfl (hb c2 hd) rfl (by subst hr; exact q)) k
theorem own_lsub (X : own_At G p l e R s m args below meth c Z n0 own nm bytes maxL ret T h cells slots) {pc pc' : Nat} {Ls : Array Slot} {st : List Value} {x y r : Int64} (hd : decode bytes pc = .ok (.lsub, 1)) (hp : pc' = pc + 1) (hr : x - y = r) (k : G T (mkF m pc' Ls (.long r :: st))) : G T (mkF m pc Ls (.long y :: .long x :: st)) := by
  obtain ⟨hG, ⟨c1, c2, -⟩, L, X, -⟩ := X
  subst hp
  exact hG _ _ _ _ (fun t q => XS.lsub X.here c1 rfl (hb c2 hd) rfl (by subst hr; exact q)) k
theorem own_lmul (X : own_At G p l e R s m args below meth c Z n0 own nm bytes maxL ret T h cells slots) {pc pc' : Nat} {Ls : Array Slot} {st : List Value} {x y r : Int64} (hd : decode bytes pc = .ok (.lmul, 1)) (hp : pc' = pc + 1) (hr : x * y = r) (k : G T (mkF m pc' Ls (.long r :: st))) : G T (mkF m pc Ls (.long y :: .long x :: st)) := by
  obtain ⟨hG, ⟨c1, c2, -⟩, L, X, -⟩ := X
  subst hp
  exact hG _ _ _ _ (fun t q => XS.lmul X.here c1 rfl (hb c2 hd) rfl (by subst hr; exact q)) k
theorem own_land (X : own_At G p l e R s m args below meth c Z n0 own nm bytes maxL ret T h cells slots) {pc pc' : Nat} {Ls : Array Slot} {st : List Value} {x y r : Int64} (hd : decode bytes pc = .ok (.land, 1)) (hp : pc' = pc + 1) (hr : x &&& y = r) (k : G T (mkF m pc' Ls (.long r :: st))) : G T (mkF m pc Ls (.long y :: .long x :: st)) := by
  obtain ⟨hG, ⟨c1, c2, -⟩, L, X, -⟩ := X
  subst hp
  exact hG _ _ _ _ (fun t q => XS.land X.here c1 rfl (hb c2 hd) rfl (by subst hr; exact q)) k
theorem own_lor (X : own_At G p l e R s m args below meth c Z n0 own nm bytes maxL ret T h cells slots) {pc pc' : Nat} {Ls : Array Slot} {st : List Value} {x y r : Int64} (hd : decode bytes pc = .ok (.lor, 1)) (hp : pc' = pc + 1) (hr : x ||| y = r) (k : G T (mkF m pc' Ls (.long r :: st))) : G T (mkF m pc Ls (.long y :: .long x :: st)) := by
  obtain ⟨hG, ⟨c1, c2, -⟩, L, X, -⟩ := X
  subst hp
  exact hG _ _ _ _ (fun t q => XS.lor X.here c1 rfl (hb c2 hd) rfl (by subst hr; exact q)) k
theorem own_lxor (X : own_At G p l e R s m args below meth c Z n0 own nm bytes maxL ret T h cells slots) {pc pc' : Nat} {Ls : Array Slot} {st : List Value} {x y r : Int64} (hd : decode bytes pc = .ok (.lxor, 1)) (hp : pc' = pc + 1) (hr : x ^^^ y = r) (k : G T (mkF m pc' Ls (.long r :: st))) : G T (mkF m pc Ls (.long y :: .long x :: st)) := by
  obtain ⟨hG, ⟨c1, c2, -⟩, L, X, -⟩ := X
  subst hp
  exact hG _ _ _ _ (fun t q => XS.lxor X.here c1 rfl (hb c2 hd) rfl (by subst hr; exact q)) k
theorem own_lshl (X : own_At G p l e R s m args below meth c Z n0 own nm bytes maxL ret T h cells slots) {pc pc' : Nat} {Ls : Array Slot} {st : List Value} {x r : Int64} {y : Int32} (hd : decode bytes pc = .ok (.lshl, 1)) (hp : pc' = pc + 1) (hr : x <<< (y &&& 0x3f).toInt64 = r) (k : G T (mkF m pc' Ls (.long r :: st))) : G T (mkF m pc Ls (.int y :: .long x :: st)) := by
  obtain ⟨hG, ⟨c1, c2, -⟩, L, X, -⟩ := X
  subst hp
  exact hG _ _ _ _ (fun t q => XS.lshl X.here c1 rfl (hb c2 hd) rfl (by subst hr; exact q)) k
theorem own_lshr (X : own_At G p l e R s m args below meth c Z n0 own nm bytes maxL ret T h cells slots) {pc pc' : Nat} {Ls : Array Slot} {st : List Value} {x r : Int64} {y : Int32} (hd : decode bytes pc = .ok (.lshr, 1)) (hp : pc' = pc + 1) (hr : x >>> (y &&& 0x3f).toInt64 = r) (k : G T (mkF m pc' Ls (.long r :: st))) : G T (mkF m pc Ls (.int y :: .long x :: st)) := by
  obtain ⟨hG, ⟨c1, c2, -⟩, L, X, -⟩ := X
  subst hp
  exact hG _ _ _ _ (fun t q => XS.lshr X.here c1 rfl (hb c2 hd) rfl (by subst hr; exact q)) k
theorem own_idiv (X : own_At G p l e R s m args below meth c Z n0 own nm bytes maxL ret T h cells slots) {pc pc' : Nat} {Ls : Array Slot} {st : List Value} {x y : Int32} (hd : decode bytes pc = .ok (.idiv, 1)) (hp : pc' = pc + 1) (hy : y ≠ 0) (k : G T (mkF m pc' Ls (.int (x / y) :: st))) : G T (mkF m pc Ls (.int y :: .int x :: st)) := by
  obtain ⟨hG, ⟨c1, c2, -⟩, L, X, -⟩ := X
  subst hp
  exact hG _ _ _ _ (fun t q => XS.idiv X.here c1 rfl (hb c2 hd) rfl hy q) k
theorem own_irem (X : own_At G p l e R s m args below meth c Z n0 own nm bytes maxL ret T h cells slots) {pc pc' : Nat} {Ls : Array Slot} {st : List Value} {x y : Int32} (hd : decode bytes pc = .ok (.irem, 1)) (hp : pc' = pc + 1) (hy : y ≠ 0) (k : G T (mkF m pc' Ls (.int (x % y) :: st))) : G T (mkF m pc Ls (.int y :: .int x :: st)) := by
  obtain ⟨hG, ⟨c1, c2, -⟩, L, X, -⟩ := X
  subst hp
  exact hG _ _ _ _ (fun t q => iremM X c1 rfl (hb c2 hd) rfl hy q) k
theorem own_ldiv (X : own_At G p l e R s m args below meth c Z n0 own nm bytes maxL ret T h cells slots) {pc pc' : Nat} {Ls : Array Slot} {st : List Value} {x y : Int64} (hd : decode bytes pc = .ok (.ldiv, 1)) (hp : pc' = pc + 1) (hy : y ≠ 0) (k : G T (mkF m pc' Ls (.long (x / y) :: st))) : G T (mkF m pc Ls (.long y :: .long x :: st)) := by
  obtain ⟨hG, ⟨c1, c2, -⟩, L, X, -⟩ := X
  subst hp
  exact hG _ _ _ _ (fun t q => XS.ldiv X.here c1 rfl (hb c2 hd) rfl hy q) k
theorem own_lrem (X : own_At G p l e R s m args below meth c Z n0 own nm bytes maxL ret T h cells slots) {pc pc' : Nat} {Ls : Array Slot} {st : List Value} {x y : Int64} (hd : decode bytes pc = .ok (.lrem, 1)) (hp : pc' = pc + 1) (hy : y ≠ 0) (k : G T (mkF m pc' Ls (.long (x % y) :: st))) : G T (mkF m pc Ls (.long y :: .long x :: st)) := by
  obtain ⟨hG, ⟨c1, c2, -⟩, L, X, -⟩ := X
  subst hp
  exact hG _ _ _ _ (fun t q => XS.lrem X.here c1 rfl (hb c2 hd) rfl hy (by rw [lrem_mod]; exact q)) k
theorem own_ineg (X : own_At G p l e R s m args below meth c Z n0 own nm bytes maxL ret T h cells slots) {pc pc' : Nat} {Ls : Array Slot} {st : List Value} {x : Int32} (hd : decode bytes pc = .ok (.ineg, 1)) (hp : pc' = pc + 1)  (k : G T (mkF m pc' Ls (.int (-x) :: st))) : G T (mkF m pc Ls (.int x :: st)) := by
  obtain ⟨hG, ⟨c1, c2, -⟩, L, X, -⟩ := X
  subst hp
  exact hG _ _ _ _ (fun t q => XS.ineg X.here c1 rfl (hb c2 hd) rfl q) k
theorem own_i2c (X : own_At G p l e R s m args below meth c Z n0 own nm bytes maxL ret T h cells slots) {pc pc' : Nat} {Ls : Array Slot} {st : List Value} {x : Int32} (hd : decode bytes pc = .ok (.i2c, 1)) (hp : pc' = pc + 1)  (k : G T (mkF m pc' Ls (.int (own_c16 x) :: st))) : G T (mkF m pc Ls (.int x :: st)) := by
  obtain ⟨hG, ⟨c1, c2, -⟩, L, X, -⟩ := X
  subst hp
  exact hG _ _ _ _ (fun t q => XS.i2c X.here c1 rfl (hb c2 hd) rfl q) k
theorem own_i2b (X : own_At G p l e R s m args below meth c Z n0 own nm bytes maxL ret T h cells slots) {pc pc' : Nat} {Ls : Array Slot} {st : List Value} {x : Int32} (hd : decode bytes pc = .ok (.i2b, 1)) (hp : pc' = pc + 1)  (k : G T (mkF m pc' Ls (.int (own_b8 x) :: st))) : G T (mkF m pc Ls (.int x :: st)) := by
  obtain ⟨hG, ⟨c1, c2, -⟩, L, X, -⟩ := X
  subst hp
  exact hG _ _ _ _ (fun t q => XS.i2b X.here c1 rfl (hb c2 hd) rfl q) k
theorem own_i2l (X : own_At G p l e R s m args below meth c Z n0 own nm bytes maxL ret T h cells slots) {pc pc' : Nat} {Ls : Array Slot} {st : List Value} {x : Int32} {r : Int64} (hd : decode bytes pc = .ok (.i2l, 1)) (hp : pc' = pc + 1) (hr : x.toInt64 = r) (k : G T (mkF m pc' Ls (.long r :: st))) : G T (mkF m pc Ls (.int x :: st)) := by
  obtain ⟨hG, ⟨c1, c2, -⟩, L, X, -⟩ := X
  subst hp
  exact hG _ _ _ _ (fun t q => XS.i2l X.here c1 rfl (hb c2 hd) rfl (by subst hr; exact q)) k
theorem own_l2i (X : own_At G p l e R s m args below meth c Z n0 own nm bytes maxL ret T h cells slots) {pc pc' : Nat} {Ls : Array Slot} {st : List Value} {x : Int64} {r : Int32} (hd : decode bytes pc = .ok (.l2i, 1)) (hp : pc' = pc + 1) (hr : x.toInt32 = r) (k : G T (mkF m pc' Ls (.int r :: st))) : G T (mkF m pc Ls (.long x :: st)) := by
  obtain ⟨hG, ⟨c1, c2, -⟩, L, X, -⟩ := X
  subst hp
  exact hG _ _ _ _ (fun t q => XS.l2i X.here c1 rfl (hb c2 hd) rfl (by subst hr; exact q)) k
theorem own_pop2L (X : own_At G p l e R s m args below meth c Z n0 own nm bytes maxL ret T h cells slots) {pc pc' : Nat} {Ls : Array Slot} {st : List Value} {x : Int64} (hd : decode bytes pc = .ok (.pop2, 1)) (hp : pc' = pc + 1)  (k : G T (mkF m pc' Ls st)) : G T (mkF m pc Ls (.long x :: st)) := by
  obtain ⟨hG, ⟨c1, c2, -⟩, L, X, -⟩ := X
  subst hp
  exact hG _ _ _ _ (fun t q => own_xpop2 X c1 (hb c2 hd) q) k
theorem own_lcmp (X : own_At G p l e R s m args below meth c Z n0 own nm bytes maxL ret T h cells slots) {pc pc' : Nat} {Ls : Array Slot} {st : List Value} {x y : Int64} (hd : decode bytes pc = .ok (.lcmp, 1)) (hp : pc' = pc + 1)  (k : G T (mkF m pc' Ls (.int (lcmpW x y) :: st))) : G T (mkF m pc Ls (.long y :: .long x :: st)) := by
  obtain ⟨hG, ⟨c1, c2, -⟩, L, X, -⟩ := X
  subst hp
  exact hG _ _ _ _ (fun t q => XS.lcmp X.here c1 rfl (hb c2 hd) rfl q) k
theorem own_dup (X : own_At G p l e R s m args below meth c Z n0 own nm bytes maxL ret T h cells slots) {pc pc' : Nat} {Ls : Array Slot} {st : List Value} {x : Value} (hd : decode bytes pc = .ok (.dup, 1)) (hp : pc' = pc + 1) (hc : x.category = 1) (k : G T (mkF m pc' Ls (x :: x :: st))) : G T (mkF m pc Ls (x :: st)) := by
  obtain ⟨hG, ⟨c1, c2, -⟩, L, X, -⟩ := X
  subst hp
  exact hG _ _ _ _ (fun t q => XS.dup X.here c1 rfl (hb c2 hd) rfl hc q) k
theorem own_pop (X : own_At G p l e R s m args below meth c Z n0 own nm bytes maxL ret T h cells slots) {pc pc' : Nat} {Ls : Array Slot} {st : List Value} {x : Value} (hd : decode bytes pc = .ok (.pop, 1)) (hp : pc' = pc + 1) (hc : x.category = 1) (k : G T (mkF m pc' Ls st)) : G T (mkF m pc Ls (x :: st)) := by
  obtain ⟨hG, ⟨c1, c2, -⟩, L, X, -⟩ := X
  subst hp
  exact hG _ _ _ _ (fun t q => XS.pop X.here c1 rfl (hb c2 hd) rfl hc q) k
theorem own_dup_x1 (X : own_At G p l e R s m args below meth c Z n0 own nm bytes maxL ret T h cells slots) {pc pc' : Nat} {Ls : Array Slot} {st : List Value} {x y : Value} (hd : decode bytes pc = .ok (.dup_x1, 1)) (hp : pc' = pc + 1) (hc : x.category = 1) (hc2 : y.category = 1) (k : G T (mkF m pc' Ls (x :: y :: x :: st))) : G T (mkF m pc Ls (x :: y :: st)) := by
  obtain ⟨hG, ⟨c1, c2, -⟩, L, X, -⟩ := X
  subst hp
  exact hG _ _ _ _ (fun t q => XS.dupX1 X.here c1 rfl (hb c2 hd) rfl hc hc2 q) k
theorem own_goto (X : own_At G p l e R s m args below meth c Z n0 own nm bytes maxL ret T h cells slots) {pc pc' : Nat} {Ls : Array Slot} {st : List Value} {o : Int}  (hd : decode bytes pc = .ok (.goto o, 3))  (ho : 0 ≤ (pc : Int) + o) (hp : ((pc : Int) + o).toNat = pc') (k : G T (mkF m pc' Ls st)) : G T (mkF m pc Ls st) := by
  obtain ⟨hG, ⟨c1, c2, -⟩, L, X, -⟩ := X
  exact hG _ _ _ _ (fun t q => XS.goto X.here c1 rfl rfl (hb c2 hd) ho hp q) k
theorem own_ifY (X : own_At G p l e R s m args below meth c Z n0 own nm bytes maxL ret T h cells slots) {pc pc' : Nat} {Ls : Array Slot} {st : List Value} {o : Int} {cd : ClassFile.Cond} {x : Int32} (hd : decode bytes pc = .ok (.ifCond cd o, 3)) (hc : if_icmp.holds cd x 0 = true) (ho : 0 ≤ (pc : Int) + o) (hp : ((pc : Int) + o).toNat = pc') (k : G T (mkF m pc' Ls st)) : G T (mkF m pc Ls (.int x :: st)) := by
  obtain ⟨hG, ⟨c1, c2, -⟩, L, X, -⟩ := X
  exact hG _ _ _ _ (fun t q => XS.ifYes X.here c1 rfl rfl (hb c2 hd) rfl ((if0 _ _).trans hc) ho hp q) k
theorem own_ifN (X : own_At G p l e R s m args below meth c Z n0 own nm bytes maxL ret T h cells slots) {pc pc' : Nat} {Ls : Array Slot} {st : List Value} {o : Int} {cd : ClassFile.Cond} {x : Int32} (hd : decode bytes pc = .ok (.ifCond cd o, 3)) (hp : pc' = pc + 3) (hc : if_icmp.holds cd x 0 = false) (k : G T (mkF m pc' Ls st)) : G T (mkF m pc Ls (.int x :: st)) := by
  obtain ⟨hG, ⟨c1, c2, -⟩, L, X, -⟩ := X
  subst hp
  exact hG _ _ _ _ (fun t q => XS.ifNo X.here c1 rfl (hb c2 hd) rfl ((if0 _ _).trans hc) q) k
theorem own_icmpY (X : own_At G p l e R s m args below meth c Z n0 own nm bytes maxL ret T h cells slots) {pc pc' : Nat} {Ls : Array Slot} {st : List Value} {o : Int} {cd : ClassFile.Cond} {x y : Int32} (hd : decode bytes pc = .ok (.if_icmp cd o, 3)) (hc : if_icmp.holds cd x y = true) (ho : 0 ≤ (pc : Int) + o) (hp : ((pc : Int) + o).toNat = pc') (k : G T (mkF m pc' Ls st)) : G T (mkF m pc Ls (.int y :: .int x :: st)) := by
  obtain ⟨hG, ⟨c1, c2, -⟩, L, X, -⟩ := X
  exact hG _ _ _ _ (fun t q => XS.icmpYes X.here c1 rfl rfl (hb c2 hd) rfl hc ho hp q) k
theorem own_icmpN (X : own_At G p l e R s m args below meth c Z n0 own nm bytes maxL ret T h cells slots) {pc pc' : Nat} {Ls : Array Slot} {st : List Value} {o : Int} {cd : ClassFile.Cond} {x y : Int32} (hd : decode bytes pc = .ok (.if_icmp cd o, 3)) (hp : pc' = pc + 3) (hc : if_icmp.holds cd x y = false) (k : G T (mkF m pc' Ls st)) : G T (mkF m pc Ls (.int y :: .int x :: st)) := by
  obtain ⟨hG, ⟨c1, c2, -⟩, L, X, -⟩ := X
  subst hp
  exact hG _ _ _ _ (fun t q => XS.icmpNo X.here c1 rfl (hb c2 hd) rfl hc q) k
theorem own_ifnullY (X : own_At G p l e R s m args below meth c Z n0 own nm bytes maxL ret T h cells slots) {pc pc' : Nat} {Ls : Array Slot} {st : List Value} {o : Int}  (hd : decode bytes pc = .ok (.ifnull o, 3))  (ho : 0 ≤ (pc : Int) + o) (hp : ((pc : Int) + o).toNat = pc') (k : G T (mkF m pc' Ls st)) : G T (mkF m pc Ls (.null :: st)) := by
  obtain ⟨hG, ⟨c1, c2, -⟩, L, X, -⟩ := X
  exact hG _ _ _ _ (fun t q => XS.ifnullYes X.here c1 rfl rfl (hb c2 hd) rfl ho hp q) k
theorem own_ifnullN (X : own_At G p l e R s m args below meth c Z n0 own nm bytes maxL ret T h cells slots) {pc pc' : Nat} {Ls : Array Slot} {st : List Value} {o : Int} {b : Addr} (hd : decode bytes pc = .ok (.ifnull o, 3)) (hp : pc' = pc + 3)  (k : G T (mkF m pc' Ls st)) : G T (mkF m pc Ls (.ref b :: st)) := by
  obtain ⟨hG, ⟨c1, c2, -⟩, L, X, -⟩ := X
  subst hp
  exact hG _ _ _ _ (fun t q => XS.ifnullNo X.here c1 rfl (hb c2 hd) rfl q) k
theorem own_ifnonnullY (X : own_At G p l e R s m args below meth c Z n0 own nm bytes maxL ret T h cells slots) {pc pc' : Nat} {Ls : Array Slot} {st : List Value} {o : Int} {b : Addr} (hd : decode bytes pc = .ok (.ifnonnull o, 3))  (ho : 0 ≤ (pc : Int) + o) (hp : ((pc : Int) + o).toNat = pc') (k : G T (mkF m pc' Ls st)) : G T (mkF m pc Ls (.ref b :: st)) := by
  obtain ⟨hG, ⟨c1, c2, -⟩, L, X, -⟩ := X
  exact hG _ _ _ _ (fun t q => XS.ifnonnullYes X.here c1 rfl rfl (hb c2 hd) rfl ho hp q) k
theorem own_ifnonnullN (X : own_At G p l e R s m args below meth c Z n0 own nm bytes maxL ret T h cells slots) {pc pc' : Nat} {Ls : Array Slot} {st : List Value} {o : Int}  (hd : decode bytes pc = .ok (.ifnonnull o, 3)) (hp : pc' = pc + 3)  (k : G T (mkF m pc' Ls st)) : G T (mkF m pc Ls (.null :: st)) := by
  obtain ⟨hG, ⟨c1, c2, -⟩, L, X, -⟩ := X
  subst hp
  exact hG _ _ _ _ (fun t q => XS.ifnonnullNo X.here c1 rfl (hb c2 hd) rfl q) k
theorem own_acmp (X : own_At G p l e R s m args below meth c Z n0 own nm bytes maxL ret T h cells slots) {pc pc' : Nat} {Ls : Array Slot} {st : List Value} {o : Int} {cd : ACond} {x y : Value} {same : Bool} (hd : decode bytes pc = .ok (.if_acmp cd o, 3)) (h1 : x.isRef = true) (h2 : y.isRef = true) (hq : decide (x = y) = same) (ho : 0 ≤ (pc : Int) + o) (hp : pc' = if acV cd same = true then ((pc : Int) + o).toNat else pc + 3) (k : G T (mkF m pc' Ls st)) : G T (mkF m pc Ls (y :: x :: st)) := by
  obtain ⟨hG, ⟨c1, c2, -⟩, L, X, -⟩ := X
  exact hG _ _ _ _ (fun t q => Jvm.RoadKit.acmp (g := mkF m pc Ls (y :: x :: st)) X c1 rfl h1 h2 rfl (hb c2 hd) rfl hq ho hp q) k
theorem own_lcY {cd : ClassFile.Cond} {x y : Int64} {P : Prop} [Decidable P] {b : Bool} (h : if_icmp.holds cd (lcmpW x y) 0 = decide P) (q : decide P = b) : if_icmp.holds cd (lcmpW x y) 0 = b := h.trans q
theorem own_lc_eq {x y : Int64} (q : x = y) : if_icmp.holds .eq (lcmpW x y) 0 = true ∧ if_icmp.holds .ne (lcmpW x y) 0 = false := teq ((lw_eq x y).mpr q)
theorem own_lc_ne {x y : Int64} (q : ¬ x = y) : if_icmp.holds .eq (lcmpW x y) 0 = false ∧ if_icmp.holds .ne (lcmpW x y) 0 = true := feq (mt (lw_eq x y).mp q)
theorem own_lc_lt {x y : Int64} (q : x < y) : if_icmp.holds .lt (lcmpW x y) 0 = true ∧ if_icmp.holds .ge (lcmpW x y) 0 = false := by have := tlt ((lw_lt x y).mpr q); exact ⟨this.1, this.2.1⟩
theorem own_lc_nlt {x y : Int64} (q : ¬ x < y) : if_icmp.holds .lt (lcmpW x y) 0 = false ∧ if_icmp.holds .ge (lcmpW x y) 0 = true := by have := flt (mt (lw_lt x y).mp q); exact ⟨this.1, this.2.1⟩
theorem own_lc_gt {x y : Int64} (q : y < x) : if_icmp.holds .gt (lcmpW x y) 0 = true ∧ if_icmp.holds .le (lcmpW x y) 0 = false := by have := tlt ((lw_gt x y).mpr q); exact ⟨this.2.2.1, this.2.2.2⟩
theorem own_lc_ngt {x y : Int64} (q : ¬ y < x) : if_icmp.holds .gt (lcmpW x y) 0 = false ∧ if_icmp.holds .le (lcmpW x y) 0 = true := by have := flt (mt (lw_gt x y).mp q); exact ⟨this.2.2.1, this.2.2.2⟩
theorem own_ldc2 (X : own_At G p l e R s m args below meth c Z n0 own nm bytes maxL ret T h cells slots) {pc pc' : Nat} {Ls : Array Slot} {st : List Value} {i : Nat} {v : Int64} (w : (Cond.constantLong own i v).before a0 Z = true) (hd : decode bytes pc = .ok (.ldc2_w i, 3)) (hp : pc' = pc + 3) (k : G T (mkF m pc' Ls (.long v :: st))) : G T (mkF m pc Ls st) := by
  obtain ⟨hG, ⟨c1, c2, hZ, hown, -⟩, L, X, -⟩ := X
  subst hp
  exact hG _ _ _ _ (X.ldc2Long c1 hown (mvT hZ w) (g := mkF m pc Ls st) rfl (hb c2 hd)) k
theorem own_ldcI (X : own_At G p l e R s m args below meth c Z n0 own nm bytes maxL ret T h cells slots) {pc pc' : Nat} {Ls : Array Slot} {st : List Value} {i : Nat} {v : Int32} (w : (Cond.constant own i v).before a0 Z = true) (hd : decode bytes pc = .ok (.ldc i, 2)) (hp : pc' = pc + 2) (k : G T (mkF m pc' Ls (.int v :: st))) : G T (mkF m pc Ls st) := by
  obtain ⟨hG, ⟨c1, c2, hZ, hown, -⟩, L, X, -⟩ := X
  subst hp
  exact hG _ _ _ _ (X.ldcInt c1 hown (mvT hZ w) (g := mkF m pc Ls st) rfl (hb c2 hd)) k
theorem own_ldcwI (X : own_At G p l e R s m args below meth c Z n0 own nm bytes maxL ret T h cells slots) {pc pc' : Nat} {Ls : Array Slot} {st : List Value} {i : Nat} {v : Int32} (w : (Cond.constant own i v).before a0 Z = true) (hd : decode bytes pc = .ok (.ldc_w i, 3)) (hp : pc' = pc + 3) (k : G T (mkF m pc' Ls (.int v :: st))) : G T (mkF m pc Ls st) := by
  obtain ⟨hG, ⟨c1, c2, hZ, hown, -⟩, L, X, -⟩ := X
  subst hp
  exact hG _ _ _ _ (X.ldcwInt c1 hown (mvT hZ w) (g := mkF m pc Ls st) rfl (hb c2 hd)) k
theorem own_ldcS (X : own_At G p l e R s m args below meth c Z n0 own nm bytes maxL ret T h cells slots) {pc pc' : Nat} {Ls : Array Slot} {st : List Value} {i : Nat} {text : String} {a : Addr} (w : (Cond.stringRef own i text).before a0 Z = true) (F : Lit Z own i a) (hd : decode bytes pc = .ok (.ldc i, 2)) (hp : pc' = pc + 2) (k : G T (mkF m pc' Ls (.ref a :: st))) : G T (mkF m pc Ls st) := by
  obtain ⟨hG, ⟨c1, c2, hZ, hown, -⟩, L, X, -⟩ := X
  subst hp
  exact hG _ _ _ _ (ldcR X c1 hZ hown w F (g := mkF m pc Ls st) rfl (hb c2 hd)) k
theorem own_get (X : own_At G p l e R s m args below meth c Z n0 own nm bytes maxL ret T h cells slots) {pc pc' : Nat} {Ls : Array Slot} {st : List Value} {i : Nat} {R0 O n d host : String} {a : Addr} {v : Value} (w : (Cond.fieldLink own i R0 n d).before a0 Z = true ∨ (Cond.fieldLinkNest own i R0 n d host).before a0 Z = true) (via : Via Z R0 O n d) (F : Fld Z h a O n d v) (hd : decode bytes pc = .ok (.getfield i, 3)) (hp : pc' = pc + 3)
    (k : ∀ T', own_At G p l e R s m args below meth c Z n0 own nm bytes maxL ret T' h cells slots → G T' (mkF m pc' Ls (v :: st))) : G T (mkF m pc Ls (.ref a :: st)) := by
  obtain ⟨hG, ⟨c1, c2, hZ, hown, c5⟩, L, X, N, eT, O⟩ := X
  subst hp
  obtain ⟨T', X', e', st'⟩ := getF X c1 hZ hown w via eT F (g := mkF m pc Ls (.ref a :: st)) rfl rfl (hb c2 hd)
  exact hG _ _ _ _ st' (k _ ⟨hG, ⟨c1, c2, hZ, hown, c5⟩, L, X', N, e', O⟩)
theorem own_getS (X : own_At G p l e R s m args below meth c Z n0 own nm bytes maxL ret T h cells slots) {pc pc' : Nat} {Ls : Array Slot} {st : List Value} {i : Nat} {R0 O n d : String} {v : Value} (w : (Cond.fieldLink own i R0 n d).before a0 Z = true) (via : Via Z R0 O n d) (F : Sta Z h O n d v) (hd : decode bytes pc = .ok (.getstatic i, 3)) (hp : pc' = pc + 3)
    (k : ∀ T', own_At G p l e R s m args below meth c Z n0 own nm bytes maxL ret T' h cells slots → G T' (mkF m pc' Ls (v :: st))) : G T (mkF m pc Ls st) := by
  obtain ⟨hG, ⟨c1, c2, hZ, hown, c5⟩, L, X, N, eT, O⟩ := X
  subst hp
  obtain ⟨T', X', e', st'⟩ := getS (host := "") X c1 hZ hown w via eT F (g := mkF m pc Ls st) rfl (hb c2 hd)
  exact hG _ _ _ _ st' (k _ ⟨hG, ⟨c1, c2, hZ, hown, c5⟩, L, X', N, e', O⟩)
theorem own_put (X : own_At G p l e R s m args below meth c Z n0 own nm bytes maxL ret T h cells slots) {pc pc' : Nat} {Ls : Array Slot} {st : List Value} {i kk : Nat} {R0 O n d host C : String} {a : Addr} {v old : Value} {ty : FieldType} (w : (Cond.fieldLink own i R0 n d).before a0 Z = true ∨ (Cond.fieldLinkNest own i R0 n d host).before a0 Z = true) (via : Via Z R0 O n d) (F : Fld Z h a O n d old) (E : Exa Z h a C)
    (hL : (Cond.lays C O n d).before a0 Z = true ∨ ((Cond.laysFinal C O n d).before a0 Z = true ∧ own = O ∧ nm = "<init>")) (wi : (Cond.instantiable C kk).before a0 Z = true) (hty : parseFieldDescriptor d = some ty) (hn : narrow ty v = v) (hf : fits ty v = true) (ha : n0 ≤ a) (hd : decode bytes pc = .ok (.putfield i, 3)) (hp : pc' = pc + 3)
    (k : ∀ T' h', own_At G p l e R s m args below meth c Z n0 own nm bytes maxL ret T' h' cells slots → Wr h h' a (Jvm.RoadKit.slotOf Z O n d) v → Keep h h' [a] → G T' (mkF m pc' Ls st)) : G T (mkF m pc Ls (v :: .ref a :: st)) := by
  obtain ⟨hG, ⟨c1, c2, hZ, hown, c5, c6, c7⟩, L, X, N, eT, O⟩ := X
  subst hp
  obtain ⟨T', h', X', e', W', st'⟩ := putF X c1 hZ hown w via eT F E (hL.imp id fun q => ⟨q.1, q.2.1, c6.trans q.2.2⟩) wi hty hn hf (g := mkF m pc Ls (v :: .ref a :: st)) rfl rfl (hb c2 hd)
  exact hG _ _ _ _ st' (k _ _ ⟨hG, ⟨c1, c2, hZ, hown, c5, c6, c7⟩, _, X', Fr.snoc X' N ha, e', O.wr W' ha⟩ W' (Keep.of_wr W'))
theorem own_new (X : own_At G p l e R s m args below meth c Z n0 own nm bytes maxL ret T h cells slots) {pc pc' cells' slots' : Nat} {Ls : Array Slot} {st : List Value} {i n : Nat} {C : String} (w : (Cond.classLink own i C).before a0 Z = true) (wi : (Cond.instantiable C n).before a0 Z = true) (wz : (Cond.initialized C).before a0 Z = true) (hd : decode bytes pc = .ok (.new i, 3)) (hp : pc' = pc + 3) (ec : cells' = cells + 1) (es : slots' = slots + n) (hc : cells' ≤ R.cells) (hl : slots' ≤ R.slots)
    (k : ∀ T' h' a, a = h.size → own_At G p l e R s m args below meth c Z n0 own nm bytes maxL ret T' h' cells' slots' → Keep h h' [] → Exa Z h' a C → (∀ {O nm d : String} {ty : FieldType}, Laid Z a0 C O nm d → parseFieldDescriptor d = some ty → Fld Z h' a O nm d (defaultValue ty)) → (∃ cell : Cell, h'[a]? = some cell ∧ cell.vm = .none ∧ cell.monitor = {}) → G T' (mkF m pc' Ls (.ref a :: st))) : G T (mkF m pc Ls st) := by
  obtain ⟨hG, ⟨c1, c2, hZ, hown, c5⟩, L, X, N, eT, O⟩ := X
  subst hp ec es
  obtain ⟨T', h', X', e', E', A', D', U', st'⟩ := newO X c1 hZ hown w wi wz eT (g := mkF m pc Ls st) rfl (hb c2 hd) hc hl
  exact hG _ _ _ _ st' (k _ _ _ rfl ⟨hG, ⟨c1, c2, hZ, hown, c5⟩, _, X', N, e', O.ext E'⟩ ((Keep.refl _ _).ext E') A' D' U')
theorem own_initO (X : own_At G p l e R s m args below meth c Z n0 own nm bytes maxL ret T h cells slots) {pc pc' : Nat} {Ls : Array Slot} {st : List Value} {i : Nat} {a : Addr} {W : Nat} (w1 : (Cond.methodLink own i Lib.objectInit).before a0 Z = true) (w2 : (Cond.instanceMethod Lib.objectInit).before a0 Z = true) (w3 : (Cond.code Lib.objectInit ⟨#[0xb1]⟩ 1 none).before a0 Z = true) (hsz : Ls.size = maxL) (hd : decode bytes pc = .ok (.invokespecial i, 3)) (hp : pc' = pc + 3)
    (hf : 1 ≤ R.frames) (hW : (st.map fun v => v.category).sum = W) (hl : W + 12 ≤ R.locals) (k : ∀ T', own_At G p l e R s m args below meth c Z n0 own nm bytes maxL ret T' h cells slots → G T' (mkF m pc' Ls st)) : G T (mkF m pc Ls (.ref a :: st)) := by
  obtain ⟨hG, ⟨c1, c2, hZ, hown, c5, c6⟩, L, X, N, eT, O⟩ := X
  subst hp
  obtain ⟨T', X', e', st'⟩ := initO X c1 hZ hown w1 w2 w3 eT (g := mkF m pc Ls (.ref a :: st)) rfl (hsz.trans c5.symm) rfl (hb c2 hd) hf (W := W) (by show 2 * 0 + _ ≤ _; rw [hW]; omega) hl
  exact hG _ _ _ _ st' (k _ ⟨hG, ⟨c1, c2, hZ, hown, c5, c6⟩, L, X', N, e', O⟩)
def own_Arr (Z : State) (h : Heap) (a : Addr) (k : ClassId) (ty : FieldType) (vs : List Value) : Prop := ∃ c : Cell, Arr Z h a c ty ∧ c.cls = k ∧ c.slots.toList = vs ∧ vs.length < 2 ^ 31 ∧ ∀ v ∈ vs, fits ty v = true
theorem own_Arr.lt {a : Addr} {k : ClassId} {ty : FieldType} {vs : List Value} (F : own_Arr Z h a k ty vs) : a < h.size := by obtain ⟨c, A, -⟩ := F; exact A.lt
theorem own_Arr.keep {h' : Heap} {a : Addr} {k : ClassId} {ty : FieldType} {vs : List Value} {ws : List Addr} (F : own_Arr Z h a k ty vs) (K : Keep h h' ws) (q : a ∉ ws) : own_Arr Z h' a k ty vs := by
  obtain ⟨c, A, r⟩ := F; exact ⟨c, ⟨K.2.1 a c A.1 q, A.2⟩, r⟩
theorem own_Arr.arv {a : Addr} {k : ClassId} {ty : FieldType} {vs : List Value} {d : Value} {N : Int32} (F : own_Arr Z h a k ty vs) (hN : N = Int32.ofNat vs.length) : Arv Z h a k ty N vs d := by
  obtain ⟨c, A, r1, r2, r3, r4⟩ := F
  have q : N.toInt = vs.length := by rw [hN]; exact len_toInt r3
  have hs : c.slots.size = vs.length := by rw [← r2]; simp
  refine ⟨c, A, r1, by rw [hs]; simp only [Int32.toNatClampNeg, q]; omega, by rw [Int32.lt_iff_toInt_lt, q]; simp, fun i hi => ?_, fun i hi => ?_⟩
  · rw [← Array.getElem?_toList, r2, List.getElem?_eq_getElem (by omega)]; simp [List.getD, List.getElem?_eq_getElem (show i < vs.length by omega)]
  · have hi' : i < vs.length := by omega
    simp only [List.getD, List.getElem?_eq_getElem hi', Option.getD_some]; exact r4 _ (List.getElem_mem hi')
theorem own_Arr.of_arv {a : Addr} {k : ClassId} {ty : FieldType} {vs : List Value} {d : Value} {N : Int32} (F : Arv Z h a k ty N vs d) (hN : N.toNatClampNeg = vs.length) : own_Arr Z h a k ty vs := by
  obtain ⟨c, A, r1, r2, r3, r4, r5⟩ := F
  have hs : c.slots.size = vs.length := by omega
  have e : c.slots.toList = vs := by
    apply List.ext_getElem?
    intro i
    by_cases hi : i < vs.length
    · rw [Array.getElem?_toList, r4 i (by omega)]; simp [List.getD, List.getElem?_eq_getElem hi]
    · rw [List.getElem?_eq_none (by simpa using (by omega : c.slots.size ≤ i)), List.getElem?_eq_none (by omega)]
  refine ⟨c, A, r1, e, by rw [← hN]; exact (back32 r3).2, fun v hv => ?_⟩
  obtain ⟨i, hi, rfl⟩ := List.getElem_of_mem hv
  have := r5 i (by omega)
  simpa [List.getD, List.getElem?_eq_getElem hi] using this
theorem own_idx {n i : Nat} (hi : i < n) (hn : n < 2 ^ 31) {j : Int32} (hj : j.toInt = i) : ¬ (j < 0 ∨ n ≤ j.toNatClampNeg) ∧ j.toNatClampNeg = i := by
  have e : j.toNatClampNeg = i := by simp only [Int32.toNatClampNeg, hj]; omega
  refine ⟨?_, e⟩
  rw [e, Int32.lt_iff_toInt_lt, hj]; simp; omega
theorem own_ld {a : Addr} {k : ClassId} {ty : FieldType} {vs : List Value} {j : Int32} {i : Nat} {v : Value} (F : own_Arr Z h a k ty vs) (hj : j.toInt = i) (hv : vs[i]? = some v) : ∃ c : Cell, Arr Z h a c ty ∧ ¬ (j < 0 ∨ c.slots.size ≤ j.toNatClampNeg) ∧ c.slots[j.toNatClampNeg]? = some v := by
  obtain ⟨c, A, r1, r2, r3, r4⟩ := F
  have hi : i < vs.length := (List.getElem?_eq_some_iff.mp hv).1
  have hs : c.slots.size = vs.length := by rw [← r2]; simp
  obtain ⟨q1, q2⟩ := own_idx hi r3 hj
  exact ⟨c, A, by rw [hs]; exact q1, by rw [q2, ← Array.getElem?_toList, r2]; exact hv⟩
theorem own_iaload (X : own_At G p l e R s m args below meth c Z n0 own nm bytes maxL ret T h cells slots) {pc pc' : Nat} {Ls : Array Slot} {st : List Value} {a : Addr} {kc : ClassId} {vs : List Value} {j : Int32} {i : Nat} {v : Value} (F : own_Arr Z h a kc .int vs) (hj : j.toInt = i) (hv : vs[i]? = some v) (hd : decode bytes pc = .ok (.iaload, 1)) (hp : pc' = pc + 1) (k : G T (mkF m pc' Ls (v :: st))) : G T (mkF m pc Ls (.int j :: .ref a :: st)) := by
  obtain ⟨hG, ⟨c1, c2, hZ, -⟩, L, X, N, eT, O⟩ := X
  subst hp
  obtain ⟨cl, A, q1, q2⟩ := own_ld F hj hv
  exact hG _ _ _ _ (fun t q => X.iaload c1 (by rw [eT]; exact A.1) (State.isArrayOf_alike hZ.alike A.2.1) A.2.2 q1 q2 (g := mkF m pc Ls (.int j :: .ref a :: st)) rfl rfl (hb c2 hd) _ q) k
theorem own_laload (X : own_At G p l e R s m args below meth c Z n0 own nm bytes maxL ret T h cells slots) {pc pc' : Nat} {Ls : Array Slot} {st : List Value} {a : Addr} {kc : ClassId} {vs : List Value} {j : Int32} {i : Nat} {v : Value} (F : own_Arr Z h a kc .long vs) (hj : j.toInt = i) (hv : vs[i]? = some v) (hd : decode bytes pc = .ok (.laload, 1)) (hp : pc' = pc + 1) (k : G T (mkF m pc' Ls (v :: st))) : G T (mkF m pc Ls (.int j :: .ref a :: st)) := by
  obtain ⟨hG, ⟨c1, c2, hZ, -⟩, L, X, N, eT, O⟩ := X
  subst hp
  obtain ⟨cl, A, q1, q2⟩ := own_ld F hj hv
  exact hG _ _ _ _ (fun t q => X.laload c1 (by rw [eT]; exact A.1) (State.isArrayOf_alike hZ.alike A.2.1) A.2.2 q1 q2 (g := mkF m pc Ls (.int j :: .ref a :: st)) rfl rfl (hb c2 hd) _ q) k
theorem own_caload (X : own_At G p l e R s m args below meth c Z n0 own nm bytes maxL ret T h cells slots) {pc pc' : Nat} {Ls : Array Slot} {st : List Value} {a : Addr} {kc : ClassId} {vs : List Value} {j : Int32} {i : Nat} {v : Value} (F : own_Arr Z h a kc .char vs) (hj : j.toInt = i) (hv : vs[i]? = some v) (hd : decode bytes pc = .ok (.caload, 1)) (hp : pc' = pc + 1) (k : G T (mkF m pc' Ls (v :: st))) : G T (mkF m pc Ls (.int j :: .ref a :: st)) := by
  obtain ⟨hG, ⟨c1, c2, hZ, -⟩, L, X, N, eT, O⟩ := X
  subst hp
  obtain ⟨cl, A, q1, q2⟩ := own_ld F hj hv
  exact hG _ _ _ _ (fun t q => X.caload c1 (by rw [eT]; exact A.1) (State.isArrayOf_alike hZ.alike A.2.1) A.2.2 q1 q2 (g := mkF m pc Ls (.int j :: .ref a :: st)) rfl rfl (hb c2 hd) _ q) k
theorem own_baload (X : own_At G p l e R s m args below meth c Z n0 own nm bytes maxL ret T h cells slots) {pc pc' : Nat} {Ls : Array Slot} {st : List Value} {a : Addr} {kc : ClassId} {vs : List Value} {j : Int32} {i : Nat} {v : Value} (F : own_Arr Z h a kc .byte vs) (hj : j.toInt = i) (hv : vs[i]? = some v) (hd : decode bytes pc = .ok (.baload, 1)) (hp : pc' = pc + 1) (k : G T (mkF m pc' Ls (v :: st))) : G T (mkF m pc Ls (.int j :: .ref a :: st)) := by
  obtain ⟨hG, ⟨c1, c2, hZ, -⟩, L, X, N, eT, O⟩ := X
  subst hp
  obtain ⟨cl, A, q1, q2⟩ := own_ld F hj hv
  exact hG _ _ _ _ (fun t q => X.baloadBytes c1 (by rw [eT]; exact A.1) (State.isArrayOf_alike hZ.alike A.2.1) A.2.2 q1 q2 (g := mkF m pc Ls (.int j :: .ref a :: st)) rfl rfl (hb c2 hd) _ q) k
theorem own_aaload (X : own_At G p l e R s m args below meth c Z n0 own nm bytes maxL ret T h cells slots) {pc pc' : Nat} {Ls : Array Slot} {st : List Value} {ty : FieldType} {a : Addr} {kc : ClassId} {vs : List Value} {j : Int32} {i : Nat} {v : Value} (F : own_Arr Z h a kc ty vs) (hty : ty.isReference = true) (hj : j.toInt = i) (hv : vs[i]? = some v) (hd : decode bytes pc = .ok (.aaload, 1)) (hp : pc' = pc + 1) (k : G T (mkF m pc' Ls (v :: st))) : G T (mkF m pc Ls (.int j :: .ref a :: st)) := by
  obtain ⟨hG, ⟨c1, c2, hZ, -⟩, L, X, N, eT, O⟩ := X
  subst hp
  obtain ⟨cl, A, q1, q2⟩ := own_ld F hj hv
  exact hG _ _ _ _ (fun t q => X.aaload c1 (by rw [eT]; exact A.1) (State.isArrayOf_alike hZ.alike A.2.1) hty A.2.2 q1 q2 (g := mkF m pc Ls (.int j :: .ref a :: st)) rfl rfl (hb c2 hd) _ q) k
theorem own_arraylength (X : own_At G p l e R s m args below meth c Z n0 own nm bytes maxL ret T h cells slots) {pc pc' : Nat} {Ls : Array Slot} {st : List Value} {ty : FieldType} {a : Addr} {kc : ClassId} {vs : List Value} {z : Int32} (F : own_Arr Z h a kc ty vs) (hz : Int32.ofNat vs.length = z) (hd : decode bytes pc = .ok (.arraylength, 1)) (hp : pc' = pc + 1) (k : G T (mkF m pc' Ls (.int z :: st))) : G T (mkF m pc Ls (.ref a :: st)) := by
  obtain ⟨hG, ⟨c1, c2, hZ, -⟩, L, X, N, eT, O⟩ := X
  subst hp
  obtain ⟨cl, A, r1, r2, r3, r4⟩ := F
  have hs : cl.slots.size = vs.length := by rw [← r2]; simp
  exact hG _ _ _ _ (fun t q => X.arraylength c1 (by rw [eT]; exact A.1) (State.isArrayOf_alike hZ.alike A.2.1) (g := mkF m pc Ls (.ref a :: st)) rfl rfl (hb c2 hd) _ (by rw [hs, show vs.length.toInt32 = z from hz]; exact q)) k
theorem own_Arr.set {h' : Heap} {a : Addr} {k : ClassId} {ty : FieldType} {vs : List Value} {i : Nat} {v : Value} (F : own_Arr Z h a k ty vs) (W : Wr h h' a i v) (hv : fits ty v = true) : own_Arr Z h' a k ty (vs.set i v) := by
  obtain ⟨c, A, r1, r2, r3, r4⟩ := F
  refine ⟨_, A.same W, r1, ?_, by simpa using r3, fun x hx => ?_⟩
  · simp [Cell.setSlot, r2]
  · rcases List.mem_or_eq_of_mem_set hx with q | q
    · exact r4 _ q
    · rw [q]; exact hv
theorem own_newA (cA : ClassId) (ty : FieldType) (n : Int32) : (newA cA ty n).slots.toList = List.replicate n.toNatClampNeg (defaultValue ty) := by simp [newA]
theorem own_defit (aty : ArrayType) : fits (newarray.typeOf aty) (defaultValue (newarray.typeOf aty)) = true := by cases aty <;> rfl
theorem own_newarray (X : own_At G p l e R s m args below meth c Z n0 own nm bytes maxL ret T h cells slots) {pc pc' cells' slots' : Nat} {Ls : Array Slot} {st : List Value} {aty : ArrayType} {ty : FieldType} {z : Int32} {n : Nat} {dv : Value} (w : (Cond.arrayClass ty).before a0 Z = true) (ht : newarray.typeOf aty = ty) (hdv : defaultValue ty = dv) (hz : z.toInt = n) (hn : n ≤ 60000000) (hd : decode bytes pc = .ok (.newarray aty, 2)) (hp : pc' = pc + 2) (ec : cells' = cells + 1) {cap : Nat} (hcap : n ≤ cap) (hbig : cap ≤ 60000000) (es : slots' = slots + cap) (hc : cells' ≤ R.cells) (hl : slots' ≤ R.slots)
    (k : ∀ T' h' a kc, a = h.size → own_At G p l e R s m args below meth c Z n0 own nm bytes maxL ret T' h' cells' slots' → Keep h h' [] → own_Arr Z h' a kc ty (List.replicate n dv) → G T' (mkF m pc' Ls (.ref a :: st))) : G T (mkF m pc Ls (.int z :: st)) := by
  obtain ⟨hG, ⟨c1, c2, hZ, c5⟩, L, X, N, eT, O⟩ := X
  subst hp ec es ht hdv
  have hz0 : ¬ z < 0 := by rw [Int32.lt_iff_toInt_lt, hz]; simp
  have hzn : z.toNatClampNeg = n := by simp only [Int32.toNatClampNeg, hz]; omega
  obtain ⟨T', h', cA, X', e', E', A', st'⟩ := newP X c1 hZ w eT (g := mkF m pc Ls (.int z :: st)) rfl (hb c2 hd) rfl hz0 (cap := cap) (by omega) (by omega) hc hl
  refine hG _ _ _ _ st' (k _ _ _ cA rfl ⟨hG, ⟨c1, c2, hZ, c5⟩, _, X', N, e', O.ext E'⟩ ((Keep.refl _ _).ext E') ⟨_, A', rfl, by rw [own_newA, hzn], by simp; omega, fun v hv => ?_⟩)
  rw [List.eq_of_mem_replicate hv]; exact own_defit aty
theorem own_iastore (X : own_At G p l e R s m args below meth c Z n0 own nm bytes maxL ret T h cells slots) {pc pc' : Nat} {Ls : Array Slot} {st : List Value} {a : Addr} {kc : ClassId} {vs : List Value} {j : Int32} {i : Nat} {x : Int32} (F : own_Arr Z h a kc .int vs) (hj : j.toInt = i) (hi : i < vs.length) (ha : n0 ≤ a) (hd : decode bytes pc = .ok (.iastore, 1)) (hp : pc' = pc + 1)
    (k : ∀ T' h', own_At G p l e R s m args below meth c Z n0 own nm bytes maxL ret T' h' cells slots → Keep h h' [a] → own_Arr Z h' a kc .int (vs.set i (.int x)) → G T' (mkF m pc' Ls st)) : G T (mkF m pc Ls (.int x :: .int j :: .ref a :: st)) := by
  obtain ⟨hG, ⟨c1, c2, hZ, c5⟩, L, X, N, eT, O⟩ := X
  subst hp 
  have F0 := F
  obtain ⟨cl, A, r1, r2, r3, r4⟩ := F
  have hs : cl.slots.size = vs.length := by rw [← r2]; simp
  obtain ⟨q1, q2⟩ := own_idx hi r3 hj
  obtain ⟨T', h', X', e', W', st'⟩ := stI X c1 hZ eT A (j := j) (by rw [hs]; exact q1) (g := mkF m pc Ls (.int x :: .int j :: .ref a :: st)) rfl rfl (hb c2 hd)
  have K' := Keep.of_wr W'
  have O' := O.wr W' ha
  rw [q2] at W'
  exact hG _ _ _ _ st' (k _ _ ⟨hG, ⟨c1, c2, hZ, c5⟩, _, X', Fr.snoc X' N ha, e', O'⟩ K' (F0.set W' (rfl)))
theorem own_lastore (X : own_At G p l e R s m args below meth c Z n0 own nm bytes maxL ret T h cells slots) {pc pc' : Nat} {Ls : Array Slot} {st : List Value} {a : Addr} {kc : ClassId} {vs : List Value} {j : Int32} {i : Nat} {x : Int64} (F : own_Arr Z h a kc .long vs) (hj : j.toInt = i) (hi : i < vs.length) (ha : n0 ≤ a) (hd : decode bytes pc = .ok (.lastore, 1)) (hp : pc' = pc + 1)
    (k : ∀ T' h', own_At G p l e R s m args below meth c Z n0 own nm bytes maxL ret T' h' cells slots → Keep h h' [a] → own_Arr Z h' a kc .long (vs.set i (.long x)) → G T' (mkF m pc' Ls st)) : G T (mkF m pc Ls (.long x :: .int j :: .ref a :: st)) := by
  obtain ⟨hG, ⟨c1, c2, hZ, c5⟩, L, X, N, eT, O⟩ := X
  subst hp 
  have F0 := F
  obtain ⟨cl, A, r1, r2, r3, r4⟩ := F
  have hs : cl.slots.size = vs.length := by rw [← r2]; simp
  obtain ⟨q1, q2⟩ := own_idx hi r3 hj
  obtain ⟨T', h', X', e', W', st'⟩ := stJ X c1 hZ eT A (j := j) (by rw [hs]; exact q1) (g := mkF m pc Ls (.long x :: .int j :: .ref a :: st)) rfl rfl (hb c2 hd)
  have K' := Keep.of_wr W'
  have O' := O.wr W' ha
  rw [q2] at W'
  exact hG _ _ _ _ st' (k _ _ ⟨hG, ⟨c1, c2, hZ, c5⟩, _, X', Fr.snoc X' N ha, e', O'⟩ K' (F0.set W' (rfl)))
theorem own_castore (X : own_At G p l e R s m args below meth c Z n0 own nm bytes maxL ret T h cells slots) {pc pc' : Nat} {Ls : Array Slot} {st : List Value} {a : Addr} {kc : ClassId} {vs : List Value} {j : Int32} {i : Nat} {x y : Int32} (F : own_Arr Z h a kc .char vs) (hj : j.toInt = i) (hi : i < vs.length) (hy : nar .char x = y) (ha : n0 ≤ a) (hd : decode bytes pc = .ok (.castore, 1)) (hp : pc' = pc + 1)
    (k : ∀ T' h', own_At G p l e R s m args below meth c Z n0 own nm bytes maxL ret T' h' cells slots → Keep h h' [a] → own_Arr Z h' a kc .char (vs.set i (.int y)) → G T' (mkF m pc' Ls st)) : G T (mkF m pc Ls (.int x :: .int j :: .ref a :: st)) := by
  obtain ⟨hG, ⟨c1, c2, hZ, c5⟩, L, X, N, eT, O⟩ := X
  subst hp hy
  have F0 := F
  obtain ⟨cl, A, r1, r2, r3, r4⟩ := F
  have hs : cl.slots.size = vs.length := by rw [← r2]; simp
  obtain ⟨q1, q2⟩ := own_idx hi r3 hj
  obtain ⟨T', h', X', e', W', st'⟩ := stC X c1 hZ eT A (j := j) (by rw [hs]; exact q1) (g := mkF m pc Ls (.int x :: .int j :: .ref a :: st)) rfl rfl (hb c2 hd)
  have K' := Keep.of_wr W'
  have O' := O.wr W' ha
  rw [q2] at W'
  exact hG _ _ _ _ st' (k _ _ ⟨hG, ⟨c1, c2, hZ, c5⟩, _, X', Fr.snoc X' N ha, e', O'⟩ K' (F0.set W' (fits_nar_char _)))
theorem own_bastore (X : own_At G p l e R s m args below meth c Z n0 own nm bytes maxL ret T h cells slots) {pc pc' : Nat} {Ls : Array Slot} {st : List Value} {a : Addr} {kc : ClassId} {vs : List Value} {j : Int32} {i : Nat} {x y : Int32} (F : own_Arr Z h a kc .byte vs) (hj : j.toInt = i) (hi : i < vs.length) (hy : nar .byte x = y) (ha : n0 ≤ a) (hd : decode bytes pc = .ok (.bastore, 1)) (hp : pc' = pc + 1)
    (k : ∀ T' h', own_At G p l e R s m args below meth c Z n0 own nm bytes maxL ret T' h' cells slots → Keep h h' [a] → own_Arr Z h' a kc .byte (vs.set i (.int y)) → G T' (mkF m pc' Ls st)) : G T (mkF m pc Ls (.int x :: .int j :: .ref a :: st)) := by
  obtain ⟨hG, ⟨c1, c2, hZ, c5⟩, L, X, N, eT, O⟩ := X
  subst hp hy
  have F0 := F
  obtain ⟨cl, A, r1, r2, r3, r4⟩ := F
  have hs : cl.slots.size = vs.length := by rw [← r2]; simp
  obtain ⟨q1, q2⟩ := own_idx hi r3 hj
  obtain ⟨T', h', X', e', W', st'⟩ := stB X c1 hZ eT A (j := j) (by rw [hs]; exact q1) (g := mkF m pc Ls (.int x :: .int j :: .ref a :: st)) rfl rfl (hb c2 hd)
  have K' := Keep.of_wr W'
  have O' := O.wr W' ha
  rw [q2] at W'
  exact hG _ _ _ _ st' (k _ _ ⟨hG, ⟨c1, c2, hZ, c5⟩, _, X', Fr.snoc X' N ha, e', O'⟩ K' (F0.set W' (fits_nar_byte _)))
theorem own_back {y : MethodName} {bytes' : ByteArray} {maxL' : Nat} {ret' : Option FieldType} {rm : Room} {as' : Array Value} {Q : Option Value → Heap → Prop} {len W : Nat} (hM : own_Met l Z n0 y bytes' maxL' ret' rm as' h Q) (hZ : Z.Warmed39 s.vm) (wc : (Jvm.Cond.code y bytes' maxL' ret').before a0 Z = true) (wz : (Jvm.Cond.initialized y.cls).before a0 Z = true) (hf : rm.frames + 1 ≤ R.frames) (hl : W + (maxL' + 11) + rm.locals ≤ R.locals) :
    Back l R p e below s args y len W (fun A a => a = as' ∧ A.U.heap = h ∧ A.cells + rm.cells ≤ R.cells ∧ A.slots + rm.slots ≤ R.slots) (fun A _ v B => ∃ L, (Q v B.U.heap ∧ Fr n0 L ∧ Old Z n0 B.U.heap) ∧ B.locs = A.locs ++ L ∧ B.cells = A.cells + rm.cells ∧ B.slots = A.slots + rm.slots) :=
  backOf (Q := fun v h' L => Q v h' ∧ Fr n0 L ∧ Old Z n0 h') (hM []) hZ wc wz hf hl
theorem own_callS (X : own_At G p l e R s m args below meth c Z n0 own nm bytes maxL ret T h cells slots) {pc pc' cells' slots' : Nat} {Ls : Array Slot} {st argsL rest : List Value} {i kc ks W : Nat} {as' : Array Value} {QQ : Option Value → Heap → List Loc → Prop} {Q : Option Value → Heap → Prop} {y : MethodName} {bytes' : ByteArray} {maxL' : Nat} {ret' : Option FieldType} (w1 : (Cond.methodLink own i y).before a0 Z = true) (w2 : (Cond.static y).before a0 Z = true) (w3 : (Cond.initialized y.cls).before a0 Z = true) (w4 : (Cond.code y bytes' maxL' ret').before a0 Z = true) (hy : y.cls ≠ "java/lang/invoke/MethodHandle" ∧ y.cls ≠ "java/lang/invoke/VarHandle") (B : ∀ (hZ : Z.Warmed39 s.vm), Back l R p e below s args y 3 W (fun A a => a = as' ∧ A.U.heap = h ∧ A.cells + kc ≤ R.cells ∧ A.slots + ks ≤ R.slots) (fun A _ v B => ∃ L, QQ v B.U.heap L ∧ B.locs = A.locs ++ L ∧ B.cells = A.cells + kc ∧ B.slots = A.slots + ks)) (hQ : ∀ v h' L, QQ v h' L → Q v h' ∧ Fr n0 L ∧ Old Z n0 h') (hsz : Ls.size = maxL) (hlen : ∀ sig, parseMethodDescriptor y.desc = some sig → argsL.length = sig.parameters.length) (hs : st = argsL.reverse ++ rest) (hW : (rest.map fun v => v.category).sum = W) (hd : decode bytes pc = .ok (.invokestatic i, 3)) (hp : pc' = pc + 3) (ha : argsL.toArray = as') (ec : cells' = cells + kc) (es : slots' = slots + ks) (hc : cells' ≤ R.cells) (hl : slots' ≤ R.slots)
    (k : ∀ v T' h', own_At G p l e R s m args below meth c Z n0 own nm bytes maxL ret T' h' cells' slots' → Q v h' → G T' (mkF m pc' Ls (v.toList ++ rest))) : G T (mkF m pc Ls st) := by
  obtain ⟨hG, ⟨c1, c2, hZ, hown, c5, c6⟩, L, X, N, eT, O⟩ := X
  subst hp ec es ha hs
  obtain ⟨v, vm₁, ⟨T', L', k', n'⟩, -, X', ⟨Lc, hq, l', y', z'⟩, st'⟩ := Jvm.LawKit.callS X c1 hown (mvT hZ w1) (mvT hZ w2) (mvT hZ w3) (mvT hZ w4) hy (B hZ) (g := mkF m pc Ls (argsL.reverse ++ rest)) rfl (hsz.trans c5.symm) hlen rfl (by show 2 * 0 + _ ≤ _; rw [hW]; omega) (hb c2 hd) (fun _ _ => ⟨rfl, eT, hc, hl⟩)
  dsimp only [Pt.U, Pt.locs, Pt.cells, Pt.slots] at X' l' y' z' st' hq
  subst l' y' z'
  obtain ⟨q1, q2, q3⟩ := hQ _ _ _ hq
  exact hG _ _ _ _ st' (k _ _ _ ⟨hG, ⟨c1, c2, hZ, hown, c5, c6⟩, _, X', Fr.app N q2, rfl, q3⟩ q1)
theorem own_callI (X : own_At G p l e R s m args below meth c Z n0 own nm bytes maxL ret T h cells slots) {pc pc' cells' slots' : Nat} {Ls : Array Slot} {st argsL rest : List Value} {i kc ks W : Nat} {as' : Array Value} {QQ : Option Value → Heap → List Loc → Prop} {Q : Option Value → Heap → Prop} {y : MethodName} {bytes' : ByteArray} {maxL' : Nat} {a : Addr} (w1 : (Cond.methodLink own i y).before a0 Z = true) (w2 : (Cond.instanceMethod y).before a0 Z = true) (w4 : (Cond.code y bytes' maxL' none).before a0 Z = true) (hy0 : y.name = "<init>") (hy : y.cls ≠ "java/lang/invoke/MethodHandle" ∧ y.cls ≠ "java/lang/invoke/VarHandle") (B : ∀ (hZ : Z.Warmed39 s.vm), Back l R p e below s args y 3 W (fun A a => a = as' ∧ A.U.heap = h ∧ A.cells + kc ≤ R.cells ∧ A.slots + ks ≤ R.slots) (fun A _ v B => ∃ L, QQ v B.U.heap L ∧ B.locs = A.locs ++ L ∧ B.cells = A.cells + kc ∧ B.slots = A.slots + ks)) (hQ : ∀ v h' L, QQ v h' L → Q v h' ∧ Fr n0 L ∧ Old Z n0 h') (hsz : Ls.size = maxL) (hlen : ∀ sig, parseMethodDescriptor y.desc = some sig → argsL.length = sig.parameters.length) (hs : st = argsL.reverse ++ Value.ref a :: rest) (hW : (rest.map fun v => v.category).sum = W) (hd : decode bytes pc = .ok (.invokespecial i, 3)) (hp : pc' = pc + 3) (ha : (Value.ref a :: argsL).toArray = as') (ec : cells' = cells + kc) (es : slots' = slots + ks) (hc : cells' ≤ R.cells) (hl : slots' ≤ R.slots)
    (k : ∀ v T' h', own_At G p l e R s m args below meth c Z n0 own nm bytes maxL ret T' h' cells' slots' → Q v h' → G T' (mkF m pc' Ls (v.toList ++ rest))) : G T (mkF m pc Ls st) := by
  obtain ⟨hG, ⟨c1, c2, hZ, hown, c5, c6⟩, L, X, N, eT, O⟩ := X
  subst hp ec es ha hs
  obtain ⟨v, vm₁, ⟨T', L', k', n'⟩, -, X', ⟨Lc, hq, l', y', z'⟩, st'⟩ := Jvm.LawKit.callI X c1 hown hy0 (mvT hZ w1) (mvT hZ w2) (mvT hZ w4) hy (B hZ) (g := mkF m pc Ls (argsL.reverse ++ Value.ref a :: rest)) rfl (hsz.trans c5.symm) hlen rfl (by show 2 * 0 + _ ≤ _; rw [hW]; omega) (hb c2 hd) (fun _ _ => ⟨rfl, eT, hc, hl⟩)
  dsimp only [Pt.U, Pt.locs, Pt.cells, Pt.slots] at X' l' y' z' st' hq
  subst l' y' z'
  obtain ⟨q1, q2, q3⟩ := hQ _ _ _ hq
  exact hG _ _ _ _ st' (k _ _ _ ⟨hG, ⟨c1, c2, hZ, hown, c5, c6⟩, _, X', Fr.app N q2, rfl, q3⟩ q1)
theorem own_callV (X : own_At G p l e R s m args below meth c Z n0 own nm bytes maxL ret T h cells slots) {pc pc' cells' slots' : Nat} {Ls : Array Slot} {st argsL rest : List Value} {i kc ks W : Nat} {as' : Array Value} {QQ : Option Value → Heap → List Loc → Prop} {Q : Option Value → Heap → Prop} {y z : MethodName} {C : String} {a : Addr} (w1 : (Cond.methodLink own i y).before a0 Z = true) (w2 : (Cond.declares y).before a0 Z = true) (nf : ∀ s' : State, Z.Warmed39 s'.vm → NotFace s' y) (w3 : (Cond.selects C y z).before a0 Z = true) (w4 : (Cond.instanceMethod z).before a0 Z = true) (hy : y.cls ≠ "java/lang/invoke/MethodHandle" ∧ y.cls ≠ "java/lang/invoke/VarHandle") (E : Exa Z h a C) (B : ∀ (hZ : Z.Warmed39 s.vm), Back l R p e below s args z 3 W (fun A a => a = as' ∧ A.U.heap = h ∧ A.cells + kc ≤ R.cells ∧ A.slots + ks ≤ R.slots) (fun A _ v B => ∃ L, QQ v B.U.heap L ∧ B.locs = A.locs ++ L ∧ B.cells = A.cells + kc ∧ B.slots = A.slots + ks)) (hQ : ∀ v h' L, QQ v h' L → Q v h' ∧ Fr n0 L ∧ Old Z n0 h') (hsz : Ls.size = maxL) (hlen : ∀ sig, parseMethodDescriptor y.desc = some sig → argsL.length = sig.parameters.length) (hs : st = argsL.reverse ++ Value.ref a :: rest) (hW : (rest.map fun v => v.category).sum = W) (hd : decode bytes pc = .ok (.invokevirtual i, 3)) (hp : pc' = pc + 3) (ha : (Value.ref a :: argsL).toArray = as') (ec : cells' = cells + kc) (es : slots' = slots + ks) (hc : cells' ≤ R.cells) (hl : slots' ≤ R.slots)
    (k : ∀ v T' h', own_At G p l e R s m args below meth c Z n0 own nm bytes maxL ret T' h' cells' slots' → Q v h' → G T' (mkF m pc' Ls (v.toList ++ rest))) : G T (mkF m pc Ls st) := by
  obtain ⟨hG, ⟨c1, c2, hZ, hown, c5, c6⟩, L, X, N, eT, O⟩ := X
  subst hp ec es ha hs
  obtain ⟨v, vm₁, ⟨T', L', k', n'⟩, -, X', ⟨Lc, hq, l', y', z'⟩, st'⟩ := (have ⟨_, _, q1, _, q3⟩ := isOf hZ eT E; X.virtualBack c1 hown (mvT hZ w1) (mvT hZ w2) (nf s hZ) (mvT hZ w3) (mvT hZ w4) hy (B hZ) q1 q3 (g := mkF m pc Ls (argsL.reverse ++ Value.ref a :: rest)) rfl (hsz.trans c5.symm) (Steps.refl _) hlen rfl (by show 2 * 0 + _ ≤ _; rw [hW]; omega) (hb c2 hd) (fun _ _ => ⟨rfl, eT, hc, hl⟩))
  dsimp only [Pt.U, Pt.locs, Pt.cells, Pt.slots] at X' l' y' z' st' hq
  subst l' y' z'
  obtain ⟨q1, q2, q3⟩ := hQ _ _ _ hq
  exact hG _ _ _ _ (fun t q => st'.trans q) (k _ _ _ ⟨hG, ⟨c1, c2, hZ, hown, c5, c6⟩, _, X', Fr.app N q2, rfl, q3⟩ q1)
theorem own_callF (X : own_At G p l e R s m args below meth c Z n0 own nm bytes maxL ret T h cells slots) {pc pc' cells' slots' : Nat} {Ls : Array Slot} {st argsL rest : List Value} {i kc ks W : Nat} {as' : Array Value} {QQ : Option Value → Heap → List Loc → Prop} {Q : Option Value → Heap → Prop} {y z : MethodName} {C : String} {a : Addr} {cnt : Nat} (w1 : (Cond.methodLink own i y).before a0 Z = true) (w2 : (Cond.declares y).before a0 Z = true) (wf : ∀ (s' : State) (a' : Array Value), Z.Warmed39 s'.vm → (Cond.interfaceMethod y.cls y.cls y.name y.desc).before a' s' = true) (w3 : (Cond.selects C y z).before a0 Z = true) (w4 : (Cond.instanceMethod z).before a0 Z = true) (w5 : (Cond.publicMethod z).before a0 Z = true) (w6 : (Cond.unhidden C y.name y.desc).before a0 Z = true) (w7 : (Cond.castable C y.cls).before a0 Z = true) (hy : y.cls ≠ "java/lang/invoke/MethodHandle" ∧ y.cls ≠ "java/lang/invoke/VarHandle") (E : Exa Z h a C) (B : ∀ (hZ : Z.Warmed39 s.vm), Back l R p e below s args z 5 W (fun A a => a = as' ∧ A.U.heap = h ∧ A.cells + kc ≤ R.cells ∧ A.slots + ks ≤ R.slots) (fun A _ v B => ∃ L, QQ v B.U.heap L ∧ B.locs = A.locs ++ L ∧ B.cells = A.cells + kc ∧ B.slots = A.slots + ks)) (hQ : ∀ v h' L, QQ v h' L → Q v h' ∧ Fr n0 L ∧ Old Z n0 h') (hsz : Ls.size = maxL) (hlen : ∀ sig, parseMethodDescriptor y.desc = some sig → argsL.length = sig.parameters.length) (hs : st = argsL.reverse ++ Value.ref a :: rest) (hW : (rest.map fun v => v.category).sum = W) (hd : decode bytes pc = .ok (.invokeinterface i cnt, 5)) (hp : pc' = pc + 5) (ha : (Value.ref a :: argsL).toArray = as') (ec : cells' = cells + kc) (es : slots' = slots + ks) (hc : cells' ≤ R.cells) (hl : slots' ≤ R.slots)
    (k : ∀ v T' h', own_At G p l e R s m args below meth c Z n0 own nm bytes maxL ret T' h' cells' slots' → Q v h' → G T' (mkF m pc' Ls (v.toList ++ rest))) : G T (mkF m pc Ls st) := by
  obtain ⟨hG, ⟨c1, c2, hZ, hown, c5, c6⟩, L, X, N, eT, O⟩ := X
  subst hp ec es ha hs
  obtain ⟨v, vm₁, ⟨T', L', k', n'⟩, -, X', ⟨Lc, hq, l', y', z'⟩, st'⟩ := (have ⟨_, _, q1, q2, q3⟩ := isOf hZ eT E; X.interfaceBack c1 hown (mvT hZ w1) (mvT hZ w2) (wf s args hZ) (mvT hZ w3) (mvT hZ w4) (mvT hZ w5) (mvT hZ w6) (mvT hZ w7) hy (B hZ) q1 q2 q3 (g := mkF m pc Ls (argsL.reverse ++ Value.ref a :: rest)) rfl (hsz.trans c5.symm) (Steps.refl _) hlen rfl (by show 2 * 0 + _ ≤ _; rw [hW]; omega) (hb c2 hd) (fun _ _ => ⟨rfl, eT, hc, hl⟩))
  dsimp only [Pt.U, Pt.locs, Pt.cells, Pt.slots] at X' l' y' z' st' hq
  subst l' y' z'
  obtain ⟨q1, q2, q3⟩ := hQ _ _ _ hq
  exact hG _ _ _ _ (fun t q => st'.trans q) (k _ _ _ ⟨hG, ⟨c1, c2, hZ, hown, c5, c6⟩, _, X', Fr.app N q2, rfl, q3⟩ q1)
theorem own_callSM (X : own_At G p l e R s m args below meth c Z n0 own nm bytes maxL ret T h cells slots) {pc pc' cells' slots' : Nat} {Ls : Array Slot} {st argsL rest : List Value} {i W : Nat} {as' : Array Value} {Q : Option Value → Heap → Prop} {rm : Room} {y : MethodName} {bytes' : ByteArray} {maxL' : Nat} {ret' : Option FieldType} (w1 : (Cond.methodLink own i y).before a0 Z = true) (w2 : (Cond.static y).before a0 Z = true) (hy : y.cls ≠ "java/lang/invoke/MethodHandle" ∧ y.cls ≠ "java/lang/invoke/VarHandle") (M : own_Met l Z n0 y bytes' maxL' ret' rm as' h Q) (wc : (Jvm.Cond.code y bytes' maxL' ret').before a0 Z = true) (wz : (Jvm.Cond.initialized y.cls).before a0 Z = true) (hf : rm.frames + 1 ≤ R.frames) (hlo : W + (maxL' + 11) + rm.locals ≤ R.locals) (hsz : Ls.size = maxL) (hlen : ∀ sig, parseMethodDescriptor y.desc = some sig → argsL.length = sig.parameters.length) (hs : st = argsL.reverse ++ rest) (hW : (rest.map fun v => v.category).sum = W) (hd : decode bytes pc = .ok (.invokestatic i, 3)) (hp : pc' = pc + 3) (ha : argsL.toArray = as') (ec : cells' = cells + rm.cells) (es : slots' = slots + rm.slots) (hc : cells' ≤ R.cells) (hl : slots' ≤ R.slots)
    (k : ∀ v T' h', own_At G p l e R s m args below meth c Z n0 own nm bytes maxL ret T' h' cells' slots' → Q v h' → G T' (mkF m pc' Ls (v.toList ++ rest))) : G T (mkF m pc Ls st) :=
  own_callS (QQ := fun v h' L => Q v h' ∧ Fr n0 L ∧ Old Z n0 h') (kc := rm.cells) (ks := rm.slots) X w1 w2 wz wc hy (fun hZ => own_back M hZ wc wz hf hlo) (fun _ _ _ q => q) hsz hlen hs hW hd hp ha ec es hc hl k
theorem own_callIM (X : own_At G p l e R s m args below meth c Z n0 own nm bytes maxL ret T h cells slots) {pc pc' cells' slots' : Nat} {Ls : Array Slot} {st argsL rest : List Value} {i W : Nat} {as' : Array Value} {Q : Option Value → Heap → Prop} {rm : Room} {y : MethodName} {bytes' : ByteArray} {maxL' : Nat} {a : Addr} (w1 : (Cond.methodLink own i y).before a0 Z = true) (w2 : (Cond.instanceMethod y).before a0 Z = true) (hy0 : y.name = "<init>") (hy : y.cls ≠ "java/lang/invoke/MethodHandle" ∧ y.cls ≠ "java/lang/invoke/VarHandle") (M : own_Met l Z n0 y bytes' maxL' none rm as' h Q) (wc : (Jvm.Cond.code y bytes' maxL' none).before a0 Z = true) (wz : (Jvm.Cond.initialized y.cls).before a0 Z = true) (hf : rm.frames + 1 ≤ R.frames) (hlo : W + (maxL' + 11) + rm.locals ≤ R.locals) (hsz : Ls.size = maxL) (hlen : ∀ sig, parseMethodDescriptor y.desc = some sig → argsL.length = sig.parameters.length) (hs : st = argsL.reverse ++ Value.ref a :: rest) (hW : (rest.map fun v => v.category).sum = W) (hd : decode bytes pc = .ok (.invokespecial i, 3)) (hp : pc' = pc + 3) (ha : (Value.ref a :: argsL).toArray = as') (ec : cells' = cells + rm.cells) (es : slots' = slots + rm.slots) (hc : cells' ≤ R.cells) (hl : slots' ≤ R.slots)
    (k : ∀ v T' h', own_At G p l e R s m args below meth c Z n0 own nm bytes maxL ret T' h' cells' slots' → Q v h' → G T' (mkF m pc' Ls (v.toList ++ rest))) : G T (mkF m pc Ls st) :=
  own_callI (QQ := fun v h' L => Q v h' ∧ Fr n0 L ∧ Old Z n0 h') (kc := rm.cells) (ks := rm.slots) X w1 w2 wc hy0 hy (fun hZ => own_back M hZ wc wz hf hlo) (fun _ _ _ q => q) hsz hlen hs hW hd hp ha ec es hc hl k
theorem own_callVM (X : own_At G p l e R s m args below meth c Z n0 own nm bytes maxL ret T h cells slots) {pc pc' cells' slots' : Nat} {Ls : Array Slot} {st argsL rest : List Value} {i W : Nat} {as' : Array Value} {Q : Option Value → Heap → Prop} {rm : Room} {y z : MethodName} {C : String} {a : Addr} {bytes' : ByteArray} {maxL' : Nat} {ret' : Option FieldType} (w1 : (Cond.methodLink own i y).before a0 Z = true) (w2 : (Cond.declares y).before a0 Z = true) (nf : ∀ s' : State, Z.Warmed39 s'.vm → NotFace s' y) (w3 : (Cond.selects C y z).before a0 Z = true) (w4 : (Cond.instanceMethod z).before a0 Z = true) (hy : y.cls ≠ "java/lang/invoke/MethodHandle" ∧ y.cls ≠ "java/lang/invoke/VarHandle") (E : Exa Z h a C) (M : own_Met l Z n0 z bytes' maxL' ret' rm as' h Q) (wc : (Jvm.Cond.code z bytes' maxL' ret').before a0 Z = true) (wz : (Jvm.Cond.initialized z.cls).before a0 Z = true) (hf : rm.frames + 1 ≤ R.frames) (hlo : W + (maxL' + 11) + rm.locals ≤ R.locals) (hsz : Ls.size = maxL) (hlen : ∀ sig, parseMethodDescriptor y.desc = some sig → argsL.length = sig.parameters.length) (hs : st = argsL.reverse ++ Value.ref a :: rest) (hW : (rest.map fun v => v.category).sum = W) (hd : decode bytes pc = .ok (.invokevirtual i, 3)) (hp : pc' = pc + 3) (ha : (Value.ref a :: argsL).toArray = as') (ec : cells' = cells + rm.cells) (es : slots' = slots + rm.slots) (hc : cells' ≤ R.cells) (hl : slots' ≤ R.slots)
    (k : ∀ v T' h', own_At G p l e R s m args below meth c Z n0 own nm bytes maxL ret T' h' cells' slots' → Q v h' → G T' (mkF m pc' Ls (v.toList ++ rest))) : G T (mkF m pc Ls st) :=
  own_callV (QQ := fun v h' L => Q v h' ∧ Fr n0 L ∧ Old Z n0 h') (kc := rm.cells) (ks := rm.slots) X w1 w2 nf w3 w4 hy E (fun hZ => own_back M hZ wc wz hf hlo) (fun _ _ _ q => q) hsz hlen hs hW hd hp ha ec es hc hl k
theorem own_callFM (X : own_At G p l e R s m args below meth c Z n0 own nm bytes maxL ret T h cells slots) {pc pc' cells' slots' : Nat} {Ls : Array Slot} {st argsL rest : List Value} {i W : Nat} {as' : Array Value} {Q : Option Value → Heap → Prop} {rm : Room} {y z : MethodName} {C : String} {a : Addr} {cnt : Nat} {bytes' : ByteArray} {maxL' : Nat} {ret' : Option FieldType} (w1 : (Cond.methodLink own i y).before a0 Z = true) (w2 : (Cond.declares y).before a0 Z = true) (wf : ∀ (s' : State) (a' : Array Value), Z.Warmed39 s'.vm → (Cond.interfaceMethod y.cls y.cls y.name y.desc).before a' s' = true) (w3 : (Cond.selects C y z).before a0 Z = true) (w4 : (Cond.instanceMethod z).before a0 Z = true) (w5 : (Cond.publicMethod z).before a0 Z = true) (w6 : (Cond.unhidden C y.name y.desc).before a0 Z = true) (w7 : (Cond.castable C y.cls).before a0 Z = true) (hy : y.cls ≠ "java/lang/invoke/MethodHandle" ∧ y.cls ≠ "java/lang/invoke/VarHandle") (E : Exa Z h a C) (M : own_Met l Z n0 z bytes' maxL' ret' rm as' h Q) (wc : (Jvm.Cond.code z bytes' maxL' ret').before a0 Z = true) (wz : (Jvm.Cond.initialized z.cls).before a0 Z = true) (hf : rm.frames + 1 ≤ R.frames) (hlo : W + (maxL' + 11) + rm.locals ≤ R.locals) (hsz : Ls.size = maxL) (hlen : ∀ sig, parseMethodDescriptor y.desc = some sig → argsL.length = sig.parameters.length) (hs : st = argsL.reverse ++ Value.ref a :: rest) (hW : (rest.map fun v => v.category).sum = W) (hd : decode bytes pc = .ok (.invokeinterface i cnt, 5)) (hp : pc' = pc + 5) (ha : (Value.ref a :: argsL).toArray = as') (ec : cells' = cells + rm.cells) (es : slots' = slots + rm.slots) (hc : cells' ≤ R.cells) (hl : slots' ≤ R.slots)
    (k : ∀ v T' h', own_At G p l e R s m args below meth c Z n0 own nm bytes maxL ret T' h' cells' slots' → Q v h' → G T' (mkF m pc' Ls (v.toList ++ rest))) : G T (mkF m pc Ls st) :=
  own_callF (QQ := fun v h' L => Q v h' ∧ Fr n0 L ∧ Old Z n0 h') (kc := rm.cells) (ks := rm.slots) X w1 w2 wf w3 w4 w5 w6 w7 hy E (fun hZ => own_back M hZ wc wz hf hlo) (fun _ _ _ q => q) hsz hlen hs hW hd hp ha ec es hc hl k
theorem own_instY (X : own_At G p l e R s m args below meth c Z n0 own nm bytes maxL ret T h cells slots) {pc pc' : Nat} {Ls : Array Slot} {st : List Value} {i : Nat} {K : String} {a : Addr} (w : (Cond.classLink own i K).before a0 Z = true) (F : Ins Z h a K true) (hd : decode bytes pc = .ok (.instanceof i, 3)) (hp : pc' = pc + 3)
    (k : ∀ T', own_At G p l e R s m args below meth c Z n0 own nm bytes maxL ret T' h cells slots → G T' (mkF m pc' Ls (.int 1 :: st))) : G T (mkF m pc Ls (.ref a :: st)) := by
  obtain ⟨hG, ⟨c1, c2, hZ, hown, c5⟩, L, X, N, eT, O⟩ := X
  subst hp
  obtain ⟨T', X', e', st'⟩ := instY X c1 hZ hown w eT F (g := mkF m pc Ls (.ref a :: st)) rfl rfl (hb c2 hd)
  exact hG _ _ _ _ st' (k _ ⟨hG, ⟨c1, c2, hZ, hown, c5⟩, L, X', N, e', O⟩)
theorem own_castY (X : own_At G p l e R s m args below meth c Z n0 own nm bytes maxL ret T h cells slots) {pc pc' : Nat} {Ls : Array Slot} {st : List Value} {i : Nat} {K : String} {a : Addr} (w : (Cond.classLink own i K).before a0 Z = true) (F : Ins Z h a K true) (hd : decode bytes pc = .ok (.checkcast i, 3)) (hp : pc' = pc + 3)
    (k : ∀ T', own_At G p l e R s m args below meth c Z n0 own nm bytes maxL ret T' h cells slots → G T' (mkF m pc' Ls (.ref a :: st))) : G T (mkF m pc Ls (.ref a :: st)) := by
  obtain ⟨hG, ⟨c1, c2, hZ, hown, c5⟩, L, X, N, eT, O⟩ := X
  subst hp
  obtain ⟨T', X', e', st'⟩ := castY X c1 hZ hown w eT F (g := mkF m pc Ls (.ref a :: st)) rfl rfl (hb c2 hd)
  exact hG _ _ _ _ st' (k _ ⟨hG, ⟨c1, c2, hZ, hown, c5⟩, L, X', N, e', O⟩)
theorem own_instN (X : own_At G p l e R s m args below meth c Z n0 own nm bytes maxL ret T h cells slots) {pc pc' : Nat} {Ls : Array Slot} {st : List Value} {i : Nat} {K C : String} {a : Addr} (w : (Cond.classLink own i K).before a0 Z = true) (E : Exa Z h a C) (F : ∃ c t, Z.vm.findClass C = some c ∧ Z.vm.findClass K = some t ∧ Z.vm.assignable c t = false) (hd : decode bytes pc = .ok (.instanceof i, 3)) (hp : pc' = pc + 3)
    (k : ∀ T', own_At G p l e R s m args below meth c Z n0 own nm bytes maxL ret T' h cells slots → G T' (mkF m pc' Ls (.int 0 :: st))) : G T (mkF m pc Ls (.ref a :: st)) := by
  obtain ⟨hG, ⟨c1, c2, hZ, hown, c5⟩, L, X, N, eT, O⟩ := X
  subst hp
  obtain ⟨T', X', e', st'⟩ := instNo X c1 hZ hown w eT E F (g := mkF m pc Ls (.ref a :: st)) rfl rfl (hb c2 hd)
  exact hG _ _ _ _ st' (k _ ⟨hG, ⟨c1, c2, hZ, hown, c5⟩, L, X', N, e', O⟩)
theorem own_instNull (X : own_At G p l e R s m args below meth c Z n0 own nm bytes maxL ret T h cells slots) {pc pc' : Nat} {Ls : Array Slot} {st : List Value} {i : Nat} (hd : decode bytes pc = .ok (.instanceof i, 3)) (hp : pc' = pc + 3)
    (k : G T (mkF m pc' Ls (.int 0 :: st))) : G T (mkF m pc Ls (.null :: st)) := by
  obtain ⟨hG, ⟨c1, c2, hZ, hown, c5⟩, L, X, N, eT, O⟩ := X
  subst hp
  exact hG _ _ _ _ (X.instanceofNull c1 (g := mkF m pc Ls (.null :: st)) rfl rfl (hb c2 hd)) k
theorem own_castNull (X : own_At G p l e R s m args below meth c Z n0 own nm bytes maxL ret T h cells slots) {pc pc' : Nat} {Ls : Array Slot} {st : List Value} {i : Nat} (hd : decode bytes pc = .ok (.checkcast i, 3)) (hp : pc' = pc + 3)
    (k : G T (mkF m pc' Ls (.null :: st))) : G T (mkF m pc Ls (.null :: st)) := by
  obtain ⟨hG, ⟨c1, c2, hZ, hown, c5⟩, L, X, N, eT, O⟩ := X
  subst hp
  exact hG _ _ _ _ (X.checkcastNull c1 (g := mkF m pc Ls (.null :: st)) rfl rfl (hb c2 hd)) k
/-- an object of C, whose superclass S has none, is no K -/
theorem own_no {C S K : String} {n : Nat} (w : (Cond.superclass C S).before a0 Z = true) (wS : (Cond.noSuperclass S).before a0 Z = true) (wi : (Cond.instantiable K n).before a0 Z = true) (hn : C ≠ K) (hS : S ≠ K) : ∃ c t, Z.vm.findClass C = some c ∧ Z.vm.findClass K = some t ∧ Z.vm.assignable c t = false := by
  obtain ⟨t, k', g0, g2, g5, g7, -⟩ := Cond.instantiable_spec wi
  obtain ⟨c, h0⟩ := found_sup w
  obtain ⟨q, k, kp, h1, h2, h3, h4, h5, -, h7⟩ := Cond.superclass_spec h0 w
  obtain ⟨cS, kS, s1, s2, s3, -, -⟩ := Cond.noSuperclass_spec wS
  cases h1.symm.trans s1
  have ne := ids_ne h0 g0 hn
  have neS := ids_ne s1 g0 hS
  have n3 : ∀ fuel, Z.vm.isSubclassAux fuel c t = false := by
    intro fuel
    cases fuel with
    | zero => rfl
    | succ f =>
      cases f with
      | zero => simp [Vm.isSubclassAux, ne, h2, h4]
      | succ f => simp [Vm.isSubclassAux, ne, neS, h2, h4, s2, s3]
  have g7' : k'.isInterface = false := by
    cases hq : k'.isInterface with
    | false => rfl
    | true => rw [hq] at g7; cases g7
  refine ⟨c, t, h0, g0, ?_⟩
  show Z.vm.assignableAux (255 + 1) c t = false
  simp [Vm.assignableAux, ne, h2, g2, h5, g5, g7', Vm.isSubclass, n3]
end OwnKit
section OwnArr
variable {G : State → JFrame → Prop} {p : Program} {l : Launch} {e : Env} {R : Room} {s : State} {m : MethodId} {args : Array Value} {below : List Frame} {meth : Method} {c : Code} {Z : State} {n0 : Nat} {own nm : String} {bytes : ByteArray} {maxL : Nat} {ret : Option FieldType} {T : State} {h : Heap} {cells slots : Nat} {a0 : Array Value}
theorem own_newarrayE (X : own_At G p l e R s m args below meth c Z n0 own nm bytes maxL ret T h cells slots) {pc pc' cells' slots' : Nat} {Ls : Array Slot} {st : List Value} {aty : ArrayType} {ty : FieldType} {z : Int32} {n : Nat} {dv : Value} {ad : String} (w : (Cond.arrayClass ty).before a0 Z = true) (ht : newarray.typeOf aty = ty) (had : "[" ++ ty.toString = ad) (hdv : defaultValue ty = dv) (hz : z.toInt = n) (hn : n ≤ 60000000) (hd : decode bytes pc = .ok (.newarray aty, 2)) (hp : pc' = pc + 2) (ec : cells' = cells + 1) {cap : Nat} (hcap : n ≤ cap) (hbig : cap ≤ 60000000) (es : slots' = slots + cap) (hc : cells' ≤ R.cells) (hl : slots' ≤ R.slots)
    (k : ∀ T' h' a kc, a = h.size → own_At G p l e R s m args below meth c Z n0 own nm bytes maxL ret T' h' cells' slots' → Keep h h' [] → own_Arr Z h' a kc ty (List.replicate n dv) → Exa Z h' a ad → G T' (mkF m pc' Ls (.ref a :: st))) : G T (mkF m pc Ls (.int z :: st)) := by
  obtain ⟨hG, ⟨c1, c2, hZ, c5⟩, L, X, N, eT, O⟩ := X
  subst hp ec es ht hdv
  have hz0 : ¬ z < 0 := by rw [Int32.lt_iff_toInt_lt, hz]; simp
  have hzn : z.toNatClampNeg = n := by simp only [Int32.toNatClampNeg, hz]; omega
  obtain ⟨T', h', cA, X', e', E', A', F', st'⟩ := newPE X c1 hZ w eT (g := mkF m pc Ls (.int z :: st)) rfl (hb c2 hd) rfl hz0 (cap := cap) (by omega) (by omega) hc hl had
  refine hG _ _ _ _ st' (k _ _ _ cA rfl ⟨hG, ⟨c1, c2, hZ, c5⟩, _, X', N, e', O.ext E'⟩ ((Keep.refl _ _).ext E') ⟨_, A', rfl, by rw [own_newA, hzn], by simp; omega, fun v hv => ?_⟩ F')
  rw [List.eq_of_mem_replicate hv]; exact own_defit aty
theorem own_anewA (X : own_At G p l e R s m args below meth c Z n0 own nm bytes maxL ret T h cells slots) {pc pc' cells' slots' : Nat} {Ls : Array Slot} {st : List Value} {ty : FieldType} {C ad : String} {i : Nat} {z : Int32} {n : Nat} (hC : (FieldType.array ty).toString = C) (w1 : (Cond.classLink own i C).before a0 Z = true) (w2 : (Cond.arrayOver (.array ty)).before a0 Z = true) (had : "[" ++ C = ad) (hz : z.toInt = n) (hn : n ≤ 60000000) (hd : decode bytes pc = .ok (.anewarray i, 3)) (hp : pc' = pc + 3) (ec : cells' = cells + 1) {cap : Nat} (hcap : n ≤ cap) (hbig : cap ≤ 60000000) (es : slots' = slots + cap) (hc : cells' ≤ R.cells) (hl : slots' ≤ R.slots)
    (k : ∀ T' h' a kc, a = h.size → own_At G p l e R s m args below meth c Z n0 own nm bytes maxL ret T' h' cells' slots' → Keep h h' [] → own_Arr Z h' a kc (.array ty) (List.replicate n .null) → Exa Z h' a ad → OvrA Z kc ty C → G T' (mkF m pc' Ls (.ref a :: st))) : G T (mkF m pc Ls (.int z :: st)) := by
  obtain ⟨hG, ⟨c1, c2, hZ, hown, c5⟩, L, X, N, eT, O⟩ := X
  subst hp ec es
  have hz0 : ¬ z < 0 := by rw [Int32.lt_iff_toInt_lt, hz]; simp
  have hzn : z.toNatClampNeg = n := by simp only [Int32.toNatClampNeg, hz]; omega
  obtain ⟨T', h', cA, X', e', E', A', F', V', st'⟩ := newRA X c1 hZ hown hC w1 w2 eT (g := mkF m pc Ls (.int z :: st)) rfl (hb c2 hd) rfl hz0 (cap := cap) (by omega) (by omega) hc hl had
  refine hG _ _ _ _ st' (k _ _ _ cA rfl ⟨hG, ⟨c1, c2, hZ, hown, c5⟩, _, X', N, e', O.ext E'⟩ ((Keep.refl _ _).ext E') ⟨_, A', rfl, by rw [own_newA, hzn]; rfl, by simp; omega, fun v hv => ?_⟩ F' V')
  rw [List.eq_of_mem_replicate hv]; rfl
theorem own_anewR (X : own_At G p l e R s m args below meth c Z n0 own nm bytes maxL ret T h cells slots) {pc pc' cells' slots' : Nat} {Ls : Array Slot} {st : List Value} {C ad : String} {i : Nat} {z : Int32} {n : Nat} (w1 : (Cond.classLink own i C).before a0 Z = true) (w2 : (Cond.arrayOver (.object C)).before a0 Z = true) (had : "[" ++ (FieldType.object C).toString = ad) (hz : z.toInt = n) (hn : n ≤ 60000000) (hd : decode bytes pc = .ok (.anewarray i, 3)) (hp : pc' = pc + 3) (ec : cells' = cells + 1) {cap : Nat} (hcap : n ≤ cap) (hbig : cap ≤ 60000000) (es : slots' = slots + cap) (hc : cells' ≤ R.cells) (hl : slots' ≤ R.slots)
    (k : ∀ T' h' a kc, a = h.size → own_At G p l e R s m args below meth c Z n0 own nm bytes maxL ret T' h' cells' slots' → Keep h h' [] → own_Arr Z h' a kc (.object C) (List.replicate n .null) → Exa Z h' a ad → Ovr Z kc C → G T' (mkF m pc' Ls (.ref a :: st))) : G T (mkF m pc Ls (.int z :: st)) := by
  obtain ⟨hG, ⟨c1, c2, hZ, hown, c5⟩, L, X, N, eT, O⟩ := X
  subst hp ec es
  have hz0 : ¬ z < 0 := by rw [Int32.lt_iff_toInt_lt, hz]; simp
  have hzn : z.toNatClampNeg = n := by simp only [Int32.toNatClampNeg, hz]; omega
  obtain ⟨T', h', cA, X', e', E', A', F', V', st'⟩ := newRE X c1 hZ hown w1 w2 eT (g := mkF m pc Ls (.int z :: st)) rfl (hb c2 hd) rfl hz0 (cap := cap) (by omega) (by omega) hc hl had
  refine hG _ _ _ _ st' (k _ _ _ cA rfl ⟨hG, ⟨c1, c2, hZ, hown, c5⟩, _, X', N, e', O.ext E'⟩ ((Keep.refl _ _).ext E') ⟨_, A', rfl, by rw [own_newA, hzn]; rfl, by simp; omega, fun v hv => ?_⟩ F' V')
  rw [List.eq_of_mem_replicate hv]; rfl
theorem own_stoA {a y : Addr} {kc : ClassId} {t0 ty : FieldType} {vs : List Value} {C : String} (F : own_Arr Z h a kc t0 vs) (O : OvrA Z kc ty C) (I : Ins Z h y C true) : Sto Z h a (.ref y) := by
  obtain ⟨c, A, q, -⟩ := F; exact Sto.ofVA A q O I
theorem own_stoR {a y : Addr} {kc : ClassId} {t0 : FieldType} {vs : List Value} {C : String} (F : own_Arr Z h a kc t0 vs) (O : Ovr Z kc C) (I : Ins Z h y C true) : Sto Z h a (.ref y) := by
  obtain ⟨c, A, q, -⟩ := F; exact Sto.ofV A q O I
theorem own_aastore (X : own_At G p l e R s m args below meth c Z n0 own nm bytes maxL ret T h cells slots) {pc pc' : Nat} {Ls : Array Slot} {st : List Value} {a : Addr} {kc : ClassId} {ty : FieldType} {vs : List Value} {j : Int32} {i : Nat} {v : Value} (F : own_Arr Z h a kc ty vs) (hty : ty.isReference = true) (hfit : fits ty v = true) (S : Sto Z h a v) (hj : j.toInt = i) (hi : i < vs.length) (ha : n0 ≤ a) (hd : decode bytes pc = .ok (.aastore, 1)) (hp : pc' = pc + 1)
    (k : ∀ T' h', own_At G p l e R s m args below meth c Z n0 own nm bytes maxL ret T' h' cells slots → Keep h h' [a] → own_Arr Z h' a kc ty (vs.set i v) → G T' (mkF m pc' Ls st)) : G T (mkF m pc Ls (v :: .int j :: .ref a :: st)) := by
  obtain ⟨hG, ⟨c1, c2, hZ, c5⟩, L, X, N, eT, O⟩ := X
  subst hp
  have F0 := F
  obtain ⟨cl, A, r1, r2, r3, r4⟩ := F
  have hs : cl.slots.size = vs.length := by rw [← r2]; simp
  obtain ⟨q1, q2⟩ := own_idx hi r3 hj
  obtain ⟨T', h', X', e', W', st'⟩ := stR X c1 hZ eT A (j := j) (by rw [hs]; exact q1) hty S (g := mkF m pc Ls (v :: .int j :: .ref a :: st)) rfl rfl (hb c2 hd)
  have K' := Keep.of_wr W'
  have O' := O.wr W' ha
  rw [q2] at W'
  exact hG _ _ _ _ st' (k _ _ ⟨hG, ⟨c1, c2, hZ, c5⟩, _, X', Fr.snoc X' N ha, e', O'⟩ K' (F0.set W' hfit))
theorem own_range {vs : List Value} {sp n : Nat} {dv : Value} (h : sp + n ≤ vs.length) : ((List.range n).map fun i => vs.getD (sp + i) dv) = (vs.drop sp).take n := by
  apply List.ext_getElem
  · simp; omega
  · intro i h1 h2
    simp only [List.length_map, List.length_range] at h1
    simp [List.getD, List.getElem?_eq_getElem (show sp + i < vs.length by omega)]
theorem own_arraycopy (X : own_At G p l e R s m args below meth c Z n0 own nm bytes maxL ret T h cells slots) {pc pc' : Nat} {Ls : Array Slot} {st : List Value} {a b : Addr} {kc kc' : ClassId} {ty ty' : FieldType} {vs vd : List Value} {js jd jn : Int32} {sp dp n i W : Nat}
    (w1 : (Cond.methodLink own i Jvm.Stand.acN).before a0 Z = true) (w2 : (Cond.native Jvm.Stand.acN).before a0 Z = true) (w3 : (Cond.static Jvm.Stand.acN).before a0 Z = true) (w4 : (Cond.initialized "java/lang/System").before a0 Z = true)
    (A : own_Arr Z h a kc ty vs) (B : own_Arr Z h b kc' ty' vd) (hty : (ty = ty' ∧ refKind ty = false) ∨ (refKind ty = true ∧ refKind ty' = true ∧ StoL Z h b ((vs.drop sp).take n))) (e1 : js.toInt = sp) (e2 : jd.toInt = dp) (e3 : jn.toInt = n) (l1 : sp + n ≤ vs.length) (l2 : dp + n ≤ vd.length) (ha : n0 ≤ b)
    (hsz : Ls.size = maxL) (hW : (st.map fun v => v.category).sum = W) (hd : decode bytes pc = .ok (.invokestatic i, 3)) (hp : pc' = pc + 3) (hf : 1 ≤ R.frames) (hlo : W + (nativeFrameWords "java/lang/System" "arraycopy" 5 + 11) ≤ R.locals)
    (k : ∀ T' h', own_At G p l e R s m args below meth c Z n0 own nm bytes maxL ret T' h' cells slots → Keep h h' [b] → own_Arr Z h' b kc' ty' (vd.take dp ++ (vs.drop sp).take n ++ vd.drop (dp + n)) → G T' (mkF m pc' Ls st)) : G T (mkF m pc Ls (.int jn :: .int jd :: .ref b :: .int js :: .ref a :: st)) := by
  obtain ⟨hG, ⟨c1, c2, hZ, hown, c5, c6⟩, L, X, N, eT, O⟩ := X
  subst hp
  have nn : ∀ {j : Int32} {q : Nat}, j.toInt = q → ¬ j < 0 ∧ j.toNatClampNeg = q := fun {j q} hj => ⟨by rw [Int32.lt_iff_toInt_lt, hj]; simp, by simp only [Int32.toNatClampNeg, hj]; omega⟩
  have la : vs.length < 2 ^ 31 := by obtain ⟨_, -, -, -, q, -⟩ := A; exact q
  have lb : vd.length < 2 ^ 31 := by obtain ⟨_, -, -, -, q, -⟩ := B; exact q
  have za : (Int32.ofNat vs.length).toNatClampNeg = vs.length := (nn (len_toInt la)).2
  have zb : (Int32.ofNat vd.length).toNatClampNeg = vd.length := (nn (len_toInt lb)).2
  obtain ⟨T', h', L', X', e', N', K', B', st'⟩ := cpA X c1 hZ hown w1 w2 w3 w4 eT (A.arv (d := .null) rfl) (B.arv (d := .null) rfl) (us := (vs.drop sp).take n) (hty.imp id fun q => q) (sp := js) (dp := jd) (nn := jn) (nn e1).1 (nn e2).1 (nn e3).1 (by rw [(nn e1).2, (nn e3).2, za]; exact l1) (by rw [(nn e2).2, (nn e3).2, zb]; exact l2) (by rw [(nn e1).2, (nn e3).2]; exact (own_range l1).symm) (by rw [(nn e2).2, (nn e3).2]; exact l2) N ha (g := mkF m pc Ls (.int jn :: .int jd :: .ref b :: .int js :: .ref a :: st)) rfl (hsz.trans c5.symm) rfl (hb c2 hd) hf (W := W) (by show 2 * 0 + _ ≤ _; rw [hW]; omega) hlo
  rw [(nn e2).2, (nn e3).2] at B'
  refine hG _ _ _ _ st' (k _ _ ⟨hG, ⟨c1, c2, hZ, hown, c5, c6⟩, _, X', N', e', O.keep K' (allS ha all0)⟩ K' (own_Arr.of_arv B' ?_))
  rw [zb]; simp; omega
theorem own_mapL {xs : List Int64} {i : Nat} (h : i < xs.length) : (xs.map Value.long)[i]? = some (.long (xs.getD i 0)) := by simp [List.getD, List.getElem?_eq_getElem h]
theorem own_mapI {xs : List Int32} {i : Nat} (h : i < xs.length) : (xs.map Value.int)[i]? = some (.int (xs.getD i 0)) := by simp [List.getD, List.getElem?_eq_getElem h]
theorem own_setL {xs : List Int64} {i : Nat} {x : Int64} : (xs.map Value.long).set i (.long x) = (xs.set i x).map Value.long := List.map_set.symm
theorem own_setI {xs : List Int32} {i : Nat} {x : Int32} : (xs.map Value.int).set i (.int x) = (xs.set i x).map Value.int := List.map_set.symm
theorem own_laloadM (X : own_At G p l e R s m args below meth c Z n0 own nm bytes maxL ret T h cells slots) {pc pc' : Nat} {Ls : Array Slot} {st : List Value} {a : Addr} {kc : ClassId} {xs : List Int64} {j : Int32} {i : Nat} {x : Int64} (F : own_Arr Z h a kc .long (xs.map Value.long)) (hj : j.toInt = i) (hi : i < xs.length) (hx : xs.getD i 0 = x) (hd : decode bytes pc = .ok (.laload, 1)) (hp : pc' = pc + 1) (k : G T (mkF m pc' Ls (.long x :: st))) : G T (mkF m pc Ls (.int j :: .ref a :: st)) :=
  own_laload X F hj (by rw [own_mapL hi, hx]) hd hp k
theorem own_ialoadM (X : own_At G p l e R s m args below meth c Z n0 own nm bytes maxL ret T h cells slots) {pc pc' : Nat} {Ls : Array Slot} {st : List Value} {a : Addr} {kc : ClassId} {xs : List Int32} {j : Int32} {i : Nat} {x : Int32} (F : own_Arr Z h a kc .int (xs.map Value.int)) (hj : j.toInt = i) (hi : i < xs.length) (hx : xs.getD i 0 = x) (hd : decode bytes pc = .ok (.iaload, 1)) (hp : pc' = pc + 1) (k : G T (mkF m pc' Ls (.int x :: st))) : G T (mkF m pc Ls (.int j :: .ref a :: st)) :=
  own_iaload X F hj (by rw [own_mapI hi, hx]) hd hp k
theorem own_lastoreM (X : own_At G p l e R s m args below meth c Z n0 own nm bytes maxL ret T h cells slots) {pc pc' : Nat} {Ls : Array Slot} {st : List Value} {a : Addr} {kc : ClassId} {xs : List Int64} {j : Int32} {i : Nat} {x : Int64} (F : own_Arr Z h a kc .long (xs.map Value.long)) (hj : j.toInt = i) (hi : i < xs.length) (ha : n0 ≤ a) (hd : decode bytes pc = .ok (.lastore, 1)) (hp : pc' = pc + 1)
    (k : ∀ T' h', own_At G p l e R s m args below meth c Z n0 own nm bytes maxL ret T' h' cells slots → Keep h h' [a] → own_Arr Z h' a kc .long ((xs.set i x).map Value.long) → G T' (mkF m pc' Ls st)) : G T (mkF m pc Ls (.long x :: .int j :: .ref a :: st)) :=
  own_lastore X F hj (by simpa using hi) ha hd hp (fun T' h' X' K' A' => k T' h' X' K' (own_setL ▸ A'))
theorem own_iastoreM (X : own_At G p l e R s m args below meth c Z n0 own nm bytes maxL ret T h cells slots) {pc pc' : Nat} {Ls : Array Slot} {st : List Value} {a : Addr} {kc : ClassId} {xs : List Int32} {j : Int32} {i : Nat} {x : Int32} (F : own_Arr Z h a kc .int (xs.map Value.int)) (hj : j.toInt = i) (hi : i < xs.length) (ha : n0 ≤ a) (hd : decode bytes pc = .ok (.iastore, 1)) (hp : pc' = pc + 1)
    (k : ∀ T' h', own_At G p l e R s m args below meth c Z n0 own nm bytes maxL ret T' h' cells slots → Keep h h' [a] → own_Arr Z h' a kc .int ((xs.set i x).map Value.int) → G T' (mkF m pc' Ls st)) : G T (mkF m pc Ls (.int x :: .int j :: .ref a :: st)) :=
  own_iastore X F hj (by simpa using hi) ha hd hp (fun T' h' X' K' A' => k T' h' X' K' (own_setI ▸ A'))
theorem own_neA {a b : Addr} {C : String} {k : Nat} {kc : ClassId} {ty : FieldType} {vs : List Value} (E : Exa Z h a C) (wi : (Cond.instantiable C k).before a0 Z = true) (F : own_Arr Z h b kc ty vs) : a ≠ b := by
  obtain ⟨c, A, -⟩ := F; exact ne_arr E wi A
theorem own_neT {a b : Addr} {kc kc' : ClassId} {ty ty' : FieldType} {vs vs' : List Value} (F : own_Arr Z h a kc ty vs) (F' : own_Arr Z h b kc' ty' vs') (hn : ty ≠ ty') : a ≠ b := fun e => by
  subst e
  obtain ⟨c, A, -⟩ := F
  obtain ⟨c', A', -⟩ := F'
  cases A.1.symm.trans A'.1
  obtain ⟨-, k, h1, comp, h2⟩ := A.2.1
  obtain ⟨-, k', g1, comp', g2⟩ := A'.2.1
  cases h1.symm.trans g1
  rw [h2] at g2; cases g2; exact hn rfl
theorem own_dup_x2 (X : own_At G p l e R s m args below meth c Z n0 own nm bytes maxL ret T h cells slots) {pc pc' : Nat} {Ls : Array Slot} {st : List Value} {x y z : Value} (hd : decode bytes pc = .ok (.dup_x2, 1)) (hp : pc' = pc + 1) (hc : x.category = 1) (hc2 : y.category = 1) (hc3 : z.category = 1) (k : G T (mkF m pc' Ls (x :: y :: z :: x :: st))) : G T (mkF m pc Ls (x :: y :: z :: st)) := by
  obtain ⟨hG, ⟨c1, c2, -⟩, L, X, -⟩ := X
  subst hp
  refine hG _ _ _ _ (fun t q => ?_) k
  jvm_step X.here [X.here.top, c1, hb c2 hd, dup_x2.wp_sem, hc, hc2, hc3]
  exact q
theorem own_dup2 (X : own_At G p l e R s m args below meth c Z n0 own nm bytes maxL ret T h cells slots) {pc pc' : Nat} {Ls : Array Slot} {st : List Value} {x y : Value} (hd : decode bytes pc = .ok (.dup2, 1)) (hp : pc' = pc + 1) (hc : x.category = 1) (hc2 : y.category = 1) (k : G T (mkF m pc' Ls (x :: y :: x :: y :: st))) : G T (mkF m pc Ls (x :: y :: st)) := by
  obtain ⟨hG, ⟨c1, c2, -⟩, L, X, -⟩ := X
  subst hp
  exact hG _ _ _ _ (fun t q => Jvm.Free.XT.dup2 X.here c1 rfl (hb c2 hd) rfl hc hc2 q) k
end OwnArr
theorem dd_jdk_29_method_70_0 : decode jdk_29_method_70_code 0 = .ok (.lload_n 0, 1) := by decide +kernel
theorem dd_jdk_29_method_70_1 : decode jdk_29_method_70_code 1 = .ok (.lload_n 2, 1) := by decide +kernel
theorem dd_jdk_29_method_70_2 : decode jdk_29_method_70_code 2 = .ok (.lcmp, 1) := by decide +kernel
theorem dd_jdk_29_method_70_3 : decode jdk_29_method_70_code 3 = .ok (.ifCond .gt 7, 3) := by decide +kernel
theorem dd_jdk_29_method_70_10 : decode jdk_29_method_70_code 10 = .ok (.lload_n 2, 1) := by decide +kernel
theorem dd_jdk_29_method_70_11 : decode jdk_29_method_70_code 11 = .ok (.lreturn, 1) := by decide +kernel
theorem dd_jdk_29_method_70_6 : decode jdk_29_method_70_code 6 = .ok (.lload_n 0, 1) := by decide +kernel
theorem dd_jdk_29_method_70_7 : decode jdk_29_method_70_code 7 = .ok (.goto 4, 3) := by decide +kernel
theorem pf_0 : plainFor (⟨"java/lang/Math", "min", "(JJ)J"⟩ : MethodName) = true := by decide +kernel
theorem ef_own_min (m : MethodId) (x0 : Int64) (x1 : Int64) : entryFrame m #[(.long x0), (.long x1)] 4 = mkF m 0 #[.val (.long x0), .second, .val (.long x1), .second] [] := by first | (simp [entryFrame, mkF, argsToLocals, Value.category]; done) | rfl
set_option maxRecDepth 65536 in
set_option maxHeartbeats 40000000 in
theorem own_min (l : Launch) (Z : State) (a0 : Array Value) (hw : ∀ d ∈ tables_1, d.before a0 Z = true) (n0 : Nat) (x y : Int64) (h0 : Heap) (O0 : Old Z n0 h0)  :
    own_Met l Z n0 (⟨"java/lang/Math", "min", "(JJ)J"⟩ : MethodName) jdk_29_method_70_code 4 (some .long) ({ frames := 0, cells := 0, slots := 0, locals := 0 } : Room) #[(.long x), (.long y)] h0 (fun v h => v = some (.long (if y < x then y else x)) ∧ h0 = h) := by
  refine own_enter (own := "java/lang/Math") (nm := "min") pf_0 rfl rfl O0 ?_
  have W : ∀ (k : Nat) {d : Jvm.Cond}, tables_1[k]? = some d → d.before a0 Z = true := fun k d q => hw d (List.mem_of_getElem? q)
  intro G p e s m below meth c T0 hGe X0
  rw [ef_own_min m x y]
  refine own_lload_n (pc' := 1) X0 dd_jdk_29_method_70_0 rfl rfl ?_
  refine own_lload_n (pc' := 2) X0 dd_jdk_29_method_70_1 rfl rfl ?_
  refine own_lcmp (pc' := 3) X0 dd_jdk_29_method_70_2 rfl ?_
  by_cases hc : y < x
  · refine own_ifY (pc' := 10) X0 dd_jdk_29_method_70_3 ((own_lc_gt hc).1) (by decide) (by decide) ?_
    refine own_lload_n (pc' := 11) X0 dd_jdk_29_method_70_10 rfl rfl ?_
    exact own_ret X0 hGe (t := .long) rfl rfl (Or.inr (Or.inl ⟨rfl, rfl, _, rfl⟩)) dd_jdk_29_method_70_11 (by decide) (by decide) ⟨by rw [if_pos hc], rfl⟩
  · refine own_ifN (pc' := 6) X0 dd_jdk_29_method_70_3 rfl ((own_lc_ngt hc).1) ?_
    refine own_lload_n (pc' := 7) X0 dd_jdk_29_method_70_6 rfl rfl ?_
    refine own_goto (pc' := 11) X0 dd_jdk_29_method_70_7 (by decide) (by decide) ?_
    exact own_ret X0 hGe (t := .long) rfl rfl (Or.inr (Or.inl ⟨rfl, rfl, _, rfl⟩)) dd_jdk_29_method_70_11 (by decide) (by decide) ⟨by rw [if_neg hc], rfl⟩
theorem dd_jdk_29_method_66_0 : decode jdk_29_method_66_code 0 = .ok (.lload_n 0, 1) := by decide +kernel
theorem dd_jdk_29_method_66_1 : decode jdk_29_method_66_code 1 = .ok (.lload_n 2, 1) := by decide +kernel
theorem dd_jdk_29_method_66_2 : decode jdk_29_method_66_code 2 = .ok (.lcmp, 1) := by decide +kernel
theorem dd_jdk_29_method_66_3 : decode jdk_29_method_66_code 3 = .ok (.ifCond .lt 7, 3) := by decide +kernel
theorem dd_jdk_29_method_66_10 : decode jdk_29_method_66_code 10 = .ok (.lload_n 2, 1) := by decide +kernel
theorem dd_jdk_29_method_66_11 : decode jdk_29_method_66_code 11 = .ok (.lreturn, 1) := by decide +kernel
theorem dd_jdk_29_method_66_6 : decode jdk_29_method_66_code 6 = .ok (.lload_n 0, 1) := by decide +kernel
theorem dd_jdk_29_method_66_7 : decode jdk_29_method_66_code 7 = .ok (.goto 4, 3) := by decide +kernel
theorem pf_1 : plainFor (⟨"java/lang/Math", "max", "(JJ)J"⟩ : MethodName) = true := by decide +kernel
theorem ef_own_max (m : MethodId) (x0 : Int64) (x1 : Int64) : entryFrame m #[(.long x0), (.long x1)] 4 = mkF m 0 #[.val (.long x0), .second, .val (.long x1), .second] [] := by first | (simp [entryFrame, mkF, argsToLocals, Value.category]; done) | rfl
set_option maxRecDepth 65536 in
set_option maxHeartbeats 40000000 in
theorem own_max (l : Launch) (Z : State) (a0 : Array Value) (hw : ∀ d ∈ tables_1, d.before a0 Z = true) (n0 : Nat) (x y : Int64) (h0 : Heap) (O0 : Old Z n0 h0)  :
    own_Met l Z n0 (⟨"java/lang/Math", "max", "(JJ)J"⟩ : MethodName) jdk_29_method_66_code 4 (some .long) ({ frames := 0, cells := 0, slots := 0, locals := 0 } : Room) #[(.long x), (.long y)] h0 (fun v h => v = some (.long (if x < y then y else x)) ∧ h0 = h) := by
  refine own_enter (own := "java/lang/Math") (nm := "max") pf_1 rfl rfl O0 ?_
  have W : ∀ (k : Nat) {d : Jvm.Cond}, tables_1[k]? = some d → d.before a0 Z = true := fun k d q => hw d (List.mem_of_getElem? q)
  intro G p e s m below meth c T0 hGe X0
  rw [ef_own_max m x y]
  refine own_lload_n (pc' := 1) X0 dd_jdk_29_method_66_0 rfl rfl ?_
  refine own_lload_n (pc' := 2) X0 dd_jdk_29_method_66_1 rfl rfl ?_
  refine own_lcmp (pc' := 3) X0 dd_jdk_29_method_66_2 rfl ?_
  by_cases hc : x < y
  · refine own_ifY (pc' := 10) X0 dd_jdk_29_method_66_3 ((own_lc_lt hc).1) (by decide) (by decide) ?_
    refine own_lload_n (pc' := 11) X0 dd_jdk_29_method_66_10 rfl rfl ?_
    exact own_ret X0 hGe (t := .long) rfl rfl (Or.inr (Or.inl ⟨rfl, rfl, _, rfl⟩)) dd_jdk_29_method_66_11 (by decide) (by decide) ⟨by rw [if_pos hc], rfl⟩
  · refine own_ifN (pc' := 6) X0 dd_jdk_29_method_66_3 rfl ((own_lc_nlt hc).1) ?_
    refine own_lload_n (pc' := 7) X0 dd_jdk_29_method_66_6 rfl rfl ?_
    refine own_goto (pc' := 11) X0 dd_jdk_29_method_66_7 (by decide) (by decide) ?_
    exact own_ret X0 hGe (t := .long) rfl rfl (Or.inr (Or.inl ⟨rfl, rfl, _, rfl⟩)) dd_jdk_29_method_66_11 (by decide) (by decide) ⟨by rw [if_neg hc], rfl⟩
theorem own_fill_eq {vs : List Int32} {n i : Nat} {x : Int32} (hl : vs.length = n) (hi : i < n) : ((List.replicate i x ++ vs.drop i).map Value.int).set i (.int x) = (List.replicate (i + 1) x ++ vs.drop (i + 1)).map Value.int := by
  apply List.ext_getElem?
  intro j
  rw [List.getElem?_set]
  by_cases h : i = j
  · subst h
    simp [List.getElem?_append]; omega
  · simp only [h, if_false, List.getElem?_map, List.getElem?_append, List.length_replicate, List.getElem?_replicate, List.getElem?_drop]
    by_cases h2 : j < i
    · simp [h2, show j < i + 1 by omega]
    · simp [h2, show ¬ j < i + 1 by omega, show i + (j - i) = j by omega, show i + 1 + (j - (i + 1)) = j by omega]
theorem dd_jdk_65_method_103_5 : decode jdk_65_method_103_code 5 = .ok (.iload_n 2, 1) := by decide +kernel
theorem dd_jdk_65_method_103_6 : decode jdk_65_method_103_code 6 = .ok (.iload_n 3, 1) := by decide +kernel
theorem dd_jdk_65_method_103_7 : decode jdk_65_method_103_code 7 = .ok (.if_icmp .ge 13, 3) := by decide +kernel
theorem dd_jdk_65_method_103_10 : decode jdk_65_method_103_code 10 = .ok (.aload_n 0, 1) := by decide +kernel
theorem dd_jdk_65_method_103_11 : decode jdk_65_method_103_code 11 = .ok (.iload_n 2, 1) := by decide +kernel
theorem dd_jdk_65_method_103_12 : decode jdk_65_method_103_code 12 = .ok (.iload_n 1, 1) := by decide +kernel
theorem dd_jdk_65_method_103_13 : decode jdk_65_method_103_code 13 = .ok (.iastore, 1) := by decide +kernel
theorem dd_jdk_65_method_103_14 : decode jdk_65_method_103_code 14 = .ok (.iinc 2 1, 3) := by decide +kernel
theorem dd_jdk_65_method_103_17 : decode jdk_65_method_103_code 17 = .ok (.goto (-12), 3) := by decide +kernel
set_option maxRecDepth 65536 in
set_option maxHeartbeats 40000000 in
theorem own_fill_l {G : State → JFrame → Prop} {p : Program} {l : Launch} {e : Env} {s : State} {m : MethodId} {args : Array Value} {below : List Frame} {meth : Method} {c : Code} {Z : State} {a0 : Array Value} {n0 : Nat} {hS : Heap} (hw : ∀ d ∈ tables_1, d.before a0 Z = true) (b : Addr) (kb : ClassId) (x : Int32) (vs : List Int32) (n : Nat) (p_n : n0 ≤ b) (p_l : vs.length = n) (p_b : n < 2 ^ 31)
    (kont : ∀ {T0 : State} {h0 : Heap} , own_At G p l e ({ frames := 0, cells := 0, slots := 0, locals := 0 } : Room) s m args below meth c Z n0 "java/util/Arrays" "fill" jdk_65_method_103_code 4 none T0 h0 0 0 → Keep hS h0 [b] → (own_Arr Z h0 b kb .int ((List.replicate n x ++ vs.drop n).map Value.int)) → G T0 (mkF m 20 #[.val (.ref b), .val (.int x), .val (.int (Int32.ofNat n)), .val (.int (Int32.ofNat n))] [])) :
    ∀ (r i : Nat), i + r = n → ∀ {T0 : State} {h0 : Heap}  (X0 : own_At G p l e ({ frames := 0, cells := 0, slots := 0, locals := 0 } : Room) s m args below meth c Z n0 "java/util/Arrays" "fill" jdk_65_method_103_code 4 none T0 h0 0 0) (KK : Keep hS h0 [b]) (p_A : own_Arr Z h0 b kb .int ((List.replicate i x ++ vs.drop i).map Value.int)), G T0 (mkF m 5 #[.val (.ref b), .val (.int x), .val (.int (Int32.ofNat i)), .val (.int (Int32.ofNat n))] []) := by
  have W : ∀ (k : Nat) {d : Jvm.Cond}, tables_1[k]? = some d → d.before a0 Z = true := fun k d q => hw d (List.mem_of_getElem? q)
  intro r
  induction r with
  | zero =>
    intro i hi T0 h0  X0 KK p_A
    obtain rfl : n = i := by omega
    refine own_iload_n (pc' := 6) X0 dd_jdk_65_method_103_5 rfl rfl ?_
    refine own_iload_n (pc' := 7) X0 dd_jdk_65_method_103_6 rfl rfl ?_
    refine own_icmpY (pc' := 20) X0 dd_jdk_65_method_103_7 ((flt (own_i32le (Nat.le_refl _) p_b)).2.1) (by decide) (by decide) ?_
    exact kont X0 KK p_A
  | succ r ih =>
    intro i hi T0 h0  X0 KK p_A
    refine own_iload_n (pc' := 6) X0 dd_jdk_65_method_103_5 rfl rfl ?_
    refine own_iload_n (pc' := 7) X0 dd_jdk_65_method_103_6 rfl rfl ?_
    refine own_icmpN (pc' := 10) X0 dd_jdk_65_method_103_7 rfl ((tlt (own_i32lt (show i < n by omega) p_b)).2.1) ?_
    refine own_aload_n (pc' := 11) X0 dd_jdk_65_method_103_10 rfl rfl rfl ?_
    refine own_iload_n (pc' := 12) X0 dd_jdk_65_method_103_11 rfl rfl ?_
    refine own_iload_n (pc' := 13) X0 dd_jdk_65_method_103_12 rfl rfl ?_
    refine own_iastore (pc' := 14) (i := i) X0 p_A (own_i32 (by omega)) (by simp; omega) p_n dd_jdk_65_method_103_13 rfl ?_
    intro T1 h1 X1 K1 A1
    refine own_iinc (pc' := 17) X1 dd_jdk_65_method_103_14 rfl rfl (z := (1 : Int32)) (by decide) (r := (Int32.ofNat (i + 1))) (own_inc i) (Ls' := #[.val (.ref b), .val (.int x), .val (.int (Int32.ofNat (i + 1))), .val (.int (Int32.ofNat n))]) rfl ?_
    refine own_goto (pc' := 5) X1 dd_jdk_65_method_103_17 (by decide) (by decide) ?_
    refine ih (i + 1) (by omega) X1 (((Keep.refl hS [b]).trans KK (allS (Or.inl (List.mem_of_getElem? (i := 0) rfl)) all0)).trans K1 (allS (Or.inl (List.mem_of_getElem? (i := 0) rfl)) all0)) (own_fill_eq (i := i) p_l (show i < n by omega) ▸ A1)
theorem dd_jdk_65_method_103_0 : decode jdk_65_method_103_code 0 = .ok (.iconst 0, 1) := by decide +kernel
theorem dd_jdk_65_method_103_1 : decode jdk_65_method_103_code 1 = .ok (.istore_n 2, 1) := by decide +kernel
theorem dd_jdk_65_method_103_2 : decode jdk_65_method_103_code 2 = .ok (.aload_n 0, 1) := by decide +kernel
theorem dd_jdk_65_method_103_3 : decode jdk_65_method_103_code 3 = .ok (.arraylength, 1) := by decide +kernel
theorem dd_jdk_65_method_103_4 : decode jdk_65_method_103_code 4 = .ok (.istore_n 3, 1) := by decide +kernel
theorem dd_jdk_65_method_103_20 : decode jdk_65_method_103_code 20 = .ok (.return_, 1) := by decide +kernel
theorem pn_2 : plainName "java/util/Arrays" = true := by first | (simp [plainName, overriddenIn]; done) | decide +kernel
theorem ef_own_fill (m : MethodId) (x0 : Addr) (x1 : Int32) : entryFrame m #[(.ref x0), (.int x1)] 4 = mkF m 0 #[.val (.ref x0), .val (.int x1), .unset, .unset] [] := by first | (simp [entryFrame, mkF, argsToLocals, Value.category]; done) | rfl
set_option maxRecDepth 65536 in
set_option maxHeartbeats 40000000 in
theorem own_fill (l : Launch) (Z : State) (a0 : Array Value) (hw : ∀ d ∈ tables_1, d.before a0 Z = true) (n0 : Nat) (b : Addr) (kb : ClassId) (x : Int32) (vs : List Int32) (n : Nat) (h0 : Heap) (O0 : Old Z n0 h0) (p_n : n0 ≤ b) (p_l : vs.length = n) (p_b : n < 2 ^ 31) (p_A : own_Arr Z h0 b kb .int (vs.map Value.int)) :
    own_Met l Z n0 (⟨"java/util/Arrays", "fill", "([II)V"⟩ : MethodName) jdk_65_method_103_code 4 none ({ frames := 0, cells := 0, slots := 0, locals := 0 } : Room) #[(.ref b), (.int x)] h0 (fun v h => v = none ∧ Keep h0 h [b] ∧ own_Arr Z h b kb .int ((List.replicate n x).map Value.int)) := by
  refine own_enter (own := "java/util/Arrays") (nm := "fill") (plainFor_of_name pn_2) rfl rfl O0 ?_
  have W : ∀ (k : Nat) {d : Jvm.Cond}, tables_1[k]? = some d → d.before a0 Z = true := fun k d q => hw d (List.mem_of_getElem? q)
  intro G p e s m below meth c T0 hGe X0
  rw [ef_own_fill m b x]
  refine own_iconst (pc' := 1) X0 dd_jdk_65_method_103_0 rfl (z := (0 : Int32)) (by decide) ?_
  refine own_istore_n (pc' := 2) X0 dd_jdk_65_method_103_1 rfl (Ls' := #[.val (.ref b), .val (.int x), .val (.int (0 : Int32)), .unset]) rfl ?_
  refine own_aload_n (pc' := 3) X0 dd_jdk_65_method_103_2 rfl rfl rfl ?_
  refine own_arraylength (pc' := 4) (z := (Int32.ofNat n)) X0 p_A (by rw [List.length_map, p_l]) dd_jdk_65_method_103_3 rfl ?_
  refine own_istore_n (pc' := 5) X0 dd_jdk_65_method_103_4 rfl (Ls' := #[.val (.ref b), .val (.int x), .val (.int (0 : Int32)), .val (.int (Int32.ofNat n))]) rfl ?_
  refine own_fill_l hw b kb x vs n p_n p_l p_b (fun {T1} {h1} X1 K1 A1 => ?_) n 0 (by omega) X0 (Keep.refl _ _) (by simpa using p_A)
  rw [List.drop_eq_nil_of_le (by omega), List.append_nil] at A1
  exact own_retV X1 hGe rfl dd_jdk_65_method_103_20 (by decide) (by decide) ⟨rfl, K1, A1⟩
def own_NC (Z : State) (h : Heap) (a : Addr) (cc bits : Int32) (ceil cap : Int64) (ar ap as_ ac : Addr) (tl : Int64) (tg bt : Int32) (en : Value) : Prop := Exa Z h a "com/example/kentro/kentro/bound/NearestCandidates" ∧ Fld Z h a "com/example/kentro/kentro/bound/NearestCandidates" "candidateCount" "I" (.int cc) ∧ Fld Z h a "com/example/kentro/kentro/bound/NearestCandidates" "bits" "I" (.int bits) ∧ Fld Z h a "com/example/kentro/kentro/bound/NearestCandidates" "ceiling" "J" (.long ceil) ∧ Fld Z h a "com/example/kentro/kentro/bound/NearestCandidates" "capacity" "J" (.long cap) ∧ Fld Z h a "com/example/kentro/kentro/bound/NearestCandidates" "radius" "[J" (.ref ar) ∧ Fld Z h a "com/example/kentro/kentro/bound/NearestCandidates" "proposed" "[J" (.ref ap) ∧ Fld Z h a "com/example/kentro/kentro/bound/NearestCandidates" "start" "[I" (.ref as_) ∧ Fld Z h a "com/example/kentro/kentro/bound/NearestCandidates" "count" "[I" (.ref ac) ∧ Fld Z h a "com/example/kentro/kentro/bound/NearestCandidates" "tallied" "J" (.long tl) ∧ Fld Z h a "com/example/kentro/kentro/bound/NearestCandidates" "tallying" "Z" (.int tg) ∧ Fld Z h a "com/example/kentro/kentro/bound/NearestCandidates" "built" "Z" (.int bt) ∧ Fld Z h a "com/example/kentro/kentro/bound/NearestCandidates" "entry" "[J" en
theorem dd_jdk_33_method_47_0 : decode jdk_33_method_47_code 0 = .ok (.iload_n 0, 1) := by decide +kernel
theorem dd_jdk_33_method_47_1 : decode jdk_33_method_47_code 1 = .ok (.ifCond .gt 14, 3) := by decide +kernel
theorem dd_jdk_33_method_47_15 : decode jdk_33_method_47_code 15 = .ok (.bipush 31, 2) := by decide +kernel
theorem dd_jdk_33_method_47_17 : decode jdk_33_method_47_code 17 = .ok (.istore_n 1, 1) := by decide +kernel
theorem dd_jdk_33_method_47_18 : decode jdk_33_method_47_code 18 = .ok (.iload_n 0, 1) := by decide +kernel
theorem dd_jdk_33_method_47_19 : decode jdk_33_method_47_code 19 = .ok (.ldc_w 264, 3) := by decide +kernel
theorem dd_jdk_33_method_47_22 : decode jdk_33_method_47_code 22 = .ok (.if_icmp .lt 11, 3) := by decide +kernel
theorem dd_jdk_33_method_47_33 : decode jdk_33_method_47_code 33 = .ok (.iload_n 0, 1) := by decide +kernel
theorem dd_jdk_33_method_47_34 : decode jdk_33_method_47_code 34 = .ok (.sipush 256, 3) := by decide +kernel
theorem dd_jdk_33_method_47_37 : decode jdk_33_method_47_code 37 = .ok (.if_icmp .lt 11, 3) := by decide +kernel
theorem dd_jdk_33_method_47_48 : decode jdk_33_method_47_code 48 = .ok (.iload_n 0, 1) := by decide +kernel
theorem dd_jdk_33_method_47_49 : decode jdk_33_method_47_code 49 = .ok (.bipush 16, 2) := by decide +kernel
theorem dd_jdk_33_method_47_51 : decode jdk_33_method_47_code 51 = .ok (.if_icmp .lt 10, 3) := by decide +kernel
theorem dd_jdk_33_method_47_61 : decode jdk_33_method_47_code 61 = .ok (.iload_n 0, 1) := by decide +kernel
theorem dd_jdk_33_method_47_62 : decode jdk_33_method_47_code 62 = .ok (.iconst 4, 1) := by decide +kernel
theorem dd_jdk_33_method_47_63 : decode jdk_33_method_47_code 63 = .ok (.if_icmp .lt 10, 3) := by decide +kernel
theorem dd_jdk_33_method_47_73 : decode jdk_33_method_47_code 73 = .ok (.iload_n 1, 1) := by decide +kernel
theorem dd_jdk_33_method_47_74 : decode jdk_33_method_47_code 74 = .ok (.iload_n 0, 1) := by decide +kernel
theorem dd_jdk_33_method_47_75 : decode jdk_33_method_47_code 75 = .ok (.iconst 1, 1) := by decide +kernel
theorem dd_jdk_33_method_47_76 : decode jdk_33_method_47_code 76 = .ok (.iushr, 1) := by decide +kernel
theorem dd_jdk_33_method_47_77 : decode jdk_33_method_47_code 77 = .ok (.isub, 1) := by decide +kernel
theorem dd_jdk_33_method_47_78 : decode jdk_33_method_47_code 78 = .ok (.ireturn, 1) := by decide +kernel
theorem pn_3 : plainName "java/lang/Integer" = true := by first | (simp [plainName, overriddenIn]; done) | decide +kernel
theorem ef_own_nlz (m : MethodId) (x0 : Int32) : entryFrame m #[(.int x0)] 2 = mkF m 0 #[.val (.int x0), .unset] [] := by first | (simp [entryFrame, mkF, argsToLocals, Value.category]; done) | rfl
set_option maxRecDepth 65536 in
set_option maxHeartbeats 40000000 in
theorem own_nlz (l : Launch) (Z : State) (a0 : Array Value) (hw : ∀ d ∈ tables_1, d.before a0 Z = true) (n0 : Nat)  (h0 : Heap) (O0 : Old Z n0 h0)  :
    own_Met l Z n0 (⟨"java/lang/Integer", "numberOfLeadingZeros", "(I)I"⟩ : MethodName) jdk_33_method_47_code 2 (some .int) ({ frames := 0, cells := 0, slots := 0, locals := 0 } : Room) #[(.int (1 : Int32))] h0 (fun v h => v = some (.int (31 : Int32)) ∧ h0 = h) := by
  refine own_enter (own := "java/lang/Integer") (nm := "numberOfLeadingZeros") (plainFor_of_name pn_3) rfl rfl O0 ?_
  have W : ∀ (k : Nat) {d : Jvm.Cond}, tables_1[k]? = some d → d.before a0 Z = true := fun k d q => hw d (List.mem_of_getElem? q)
  intro G p e s m below meth c T0 hGe X0
  rw [ef_own_nlz m ((1 : Int32))]
  refine own_iload_n (pc' := 1) X0 dd_jdk_33_method_47_0 rfl rfl ?_
  refine own_ifY (pc' := 15) X0 dd_jdk_33_method_47_1 ((tlt (by decide)).2.2.1) (by decide) (by decide) ?_
  refine own_bipush (pc' := 17) X0 dd_jdk_33_method_47_15 rfl (z := (31 : Int32)) (by decide) ?_
  refine own_istore_n (pc' := 18) X0 dd_jdk_33_method_47_17 rfl (Ls' := #[.val (.int (1 : Int32)), .val (.int (31 : Int32))]) rfl ?_
  refine own_iload_n (pc' := 19) X0 dd_jdk_33_method_47_18 rfl rfl ?_
  refine own_ldcwI (pc' := 22) X0 (v := (65536 : Int32)) (W 20 rfl) dd_jdk_33_method_47_19 rfl ?_
  refine own_icmpY (pc' := 33) X0 dd_jdk_33_method_47_22 ((tlt (by decide)).1) (by decide) (by decide) ?_
  refine own_iload_n (pc' := 34) X0 dd_jdk_33_method_47_33 rfl rfl ?_
  refine own_sipush (pc' := 37) X0 dd_jdk_33_method_47_34 rfl (z := (256 : Int32)) (by decide) ?_
  refine own_icmpY (pc' := 48) X0 dd_jdk_33_method_47_37 ((tlt (by decide)).1) (by decide) (by decide) ?_
  refine own_iload_n (pc' := 49) X0 dd_jdk_33_method_47_48 rfl rfl ?_
  refine own_bipush (pc' := 51) X0 dd_jdk_33_method_47_49 rfl (z := (16 : Int32)) (by decide) ?_
  refine own_icmpY (pc' := 61) X0 dd_jdk_33_method_47_51 ((tlt (by decide)).1) (by decide) (by decide) ?_
  refine own_iload_n (pc' := 62) X0 dd_jdk_33_method_47_61 rfl rfl ?_
  refine own_iconst (pc' := 63) X0 dd_jdk_33_method_47_62 rfl (z := (4 : Int32)) (by decide) ?_
  refine own_icmpY (pc' := 73) X0 dd_jdk_33_method_47_63 ((tlt (by decide)).1) (by decide) (by decide) ?_
  refine own_iload_n (pc' := 74) X0 dd_jdk_33_method_47_73 rfl rfl ?_
  refine own_iload_n (pc' := 75) X0 dd_jdk_33_method_47_74 rfl rfl ?_
  refine own_iconst (pc' := 76) X0 dd_jdk_33_method_47_75 rfl (z := (1 : Int32)) (by decide) ?_
  refine own_iushr (pc' := 77) X0 dd_jdk_33_method_47_76 rfl (r := (0 : Int32)) (by decide) ?_
  refine own_isub (pc' := 78) X0 dd_jdk_33_method_47_77 rfl (r := (31 : Int32)) (by decide) ?_
  exact own_ret X0 hGe (t := .int) rfl rfl (Or.inl ⟨rfl, by simp, _, rfl⟩) dd_jdk_33_method_47_78 (by decide) (by decide) ⟨rfl, rfl⟩
theorem dd_prog_7_method_3_0 : decode prog_7_method_3_code 0 = .ok (.iload_n 0, 1) := by decide +kernel
theorem dd_prog_7_method_3_1 : decode prog_7_method_3_code 1 = .ok (.i2l, 1) := by decide +kernel
theorem dd_prog_7_method_3_2 : decode prog_7_method_3_code 2 = .ok (.iload_n 1, 1) := by decide +kernel
theorem dd_prog_7_method_3_3 : decode prog_7_method_3_code 3 = .ok (.i2l, 1) := by decide +kernel
theorem dd_prog_7_method_3_4 : decode prog_7_method_3_code 4 = .ok (.lmul, 1) := by decide +kernel
theorem dd_prog_7_method_3_5 : decode prog_7_method_3_code 5 = .ok (.lstore_n 2, 1) := by decide +kernel
theorem dd_prog_7_method_3_6 : decode prog_7_method_3_code 6 = .ok (.lload_n 2, 1) := by decide +kernel
theorem dd_prog_7_method_3_7 : decode prog_7_method_3_code 7 = .ok (.ldc2_w 61, 3) := by decide +kernel
theorem dd_prog_7_method_3_10 : decode prog_7_method_3_code 10 = .ok (.ldiv, 1) := by decide +kernel
theorem dd_prog_7_method_3_11 : decode prog_7_method_3_code 11 = .ok (.ldc2_w 63, 3) := by decide +kernel
theorem dd_prog_7_method_3_14 : decode prog_7_method_3_code 14 = .ok (.invokestatic 30, 3) := by decide +kernel
theorem pd_0 : parseMethodDescriptor "(JJ)J" = some ⟨[.long, .long], some .long⟩ := by decide +kernel
theorem dd_prog_7_method_3_17 : decode prog_7_method_3_code 17 = .ok (.lreturn, 1) := by decide +kernel
theorem pn_4 : plainName "com/example/kentro/kentro/bound/NearestCandidates" = true := by first | (simp [plainName, overriddenIn]; done) | decide +kernel
theorem ef_own_capm (m : MethodId) (x0 : Int32) (x1 : Int32) : entryFrame m #[(.int x0), (.int x1)] 4 = mkF m 0 #[.val (.int x0), .val (.int x1), .unset, .unset] [] := by first | (simp [entryFrame, mkF, argsToLocals, Value.category]; done) | rfl
set_option maxRecDepth 65536 in
set_option maxHeartbeats 40000000 in
theorem own_capm (l : Launch) (Z : State) (a0 : Array Value) (hw : ∀ d ∈ tables_1, d.before a0 Z = true) (n0 : Nat) (nI : Int32) (h0 : Heap) (O0 : Old Z n0 h0)  :
    own_Met l Z n0 (⟨"com/example/kentro/kentro/bound/NearestCandidates", "capacity", "(II)J"⟩ : MethodName) prog_7_method_3_code 4 (some .long) ({ frames := 1, cells := 0, slots := 0, locals := 15 } : Room) #[(.int (2 : Int32)), (.int nI)] h0 (fun v h => v = some (.long (if (2147483639 : Int64) < (((2 : Int64) * nI.toInt64) / (4 : Int64)) then (2147483639 : Int64) else (((2 : Int64) * nI.toInt64) / (4 : Int64)))) ∧ h0 = h) := by
  refine own_enter (own := "com/example/kentro/kentro/bound/NearestCandidates") (nm := "capacity") (plainFor_of_name pn_4) rfl rfl O0 ?_
  have W : ∀ (k : Nat) {d : Jvm.Cond}, tables_1[k]? = some d → d.before a0 Z = true := fun k d q => hw d (List.mem_of_getElem? q)
  intro G p e s m below meth c T0 hGe X0
  rw [ef_own_capm m ((2 : Int32)) nI]
  refine own_iload_n (pc' := 1) X0 dd_prog_7_method_3_0 rfl rfl ?_
  refine own_i2l (pc' := 2) X0 dd_prog_7_method_3_1 rfl (r := (2 : Int64)) (by decide) ?_
  refine own_iload_n (pc' := 3) X0 dd_prog_7_method_3_2 rfl rfl ?_
  refine own_i2l (pc' := 4) X0 dd_prog_7_method_3_3 rfl (r := nI.toInt64) rfl ?_
  refine own_lmul (pc' := 5) X0 dd_prog_7_method_3_4 rfl (r := ((2 : Int64) * nI.toInt64)) rfl ?_
  refine own_lstore_n (pc' := 6) X0 dd_prog_7_method_3_5 rfl (Ls' := #[.val (.int (2 : Int32)), .val (.int nI), .val (.long ((2 : Int64) * nI.toInt64)), .second]) rfl ?_
  refine own_lload_n (pc' := 7) X0 dd_prog_7_method_3_6 rfl rfl ?_
  refine own_ldc2 (pc' := 10) X0 (v := (4 : Int64)) (W 35 rfl) dd_prog_7_method_3_7 rfl ?_
  refine own_ldiv (pc' := 11) X0 dd_prog_7_method_3_10 rfl (by decide) ?_
  refine own_ldc2 (pc' := 14) X0 (v := (2147483639 : Int64)) (W 36 rfl) dd_prog_7_method_3_11 rfl ?_
  refine own_callSM (pc' := 17) (cells' := 0) (slots' := 0) (argsL := [(.long (((2 : Int64) * nI.toInt64) / (4 : Int64))), (.long (2147483639 : Int64))]) (rest := []) (W := 0) (y := (⟨"java/lang/Math", "min", "(JJ)J"⟩ : MethodName)) X0 (W 26 rfl) (W 27 rfl) (by decide) (own_min l Z a0 hw n0 (((2 : Int64) * nI.toInt64) / (4 : Int64)) (2147483639 : Int64) h0 (own_old X0)) (W 29 rfl) (W 28 rfl) (by decide) (by decide) rfl (lenOf pd_0 rfl) rfl rfl dd_prog_7_method_3_14 rfl rfl rfl rfl (by decide) (by decide) ?_
  intro v1 T1 h1 X1 q1
  obtain ⟨rfl, rfl⟩ := q1
  show G T1 (mkF m 17 #[.val (.int (2 : Int32)), .val (.int nI), .val (.long ((2 : Int64) * nI.toInt64)), .second] [(.long (if (2147483639 : Int64) < (((2 : Int64) * nI.toInt64) / (4 : Int64)) then (2147483639 : Int64) else (((2 : Int64) * nI.toInt64) / (4 : Int64))))])
  exact own_ret X1 hGe (t := .long) rfl rfl (Or.inr (Or.inl ⟨rfl, rfl, _, rfl⟩)) dd_prog_7_method_3_17 (by decide) (by decide) ⟨rfl, rfl⟩
theorem dd_prog_7_method_1_0 : decode prog_7_method_1_code 0 = .ok (.aload_n 0, 1) := by decide +kernel
theorem dd_prog_7_method_1_1 : decode prog_7_method_1_code 1 = .ok (.invokespecial 1, 3) := by decide +kernel
theorem dd_prog_7_method_1_4 : decode prog_7_method_1_code 4 = .ok (.aload_n 0, 1) := by decide +kernel
theorem dd_prog_7_method_1_5 : decode prog_7_method_1_code 5 = .ok (.iload_n 1, 1) := by decide +kernel
theorem dd_prog_7_method_1_6 : decode prog_7_method_1_code 6 = .ok (.putfield 7, 3) := by decide +kernel
theorem dd_prog_7_method_1_9 : decode prog_7_method_1_code 9 = .ok (.aload_n 0, 1) := by decide +kernel
theorem dd_prog_7_method_1_10 : decode prog_7_method_1_code 10 = .ok (.bipush 32, 2) := by decide +kernel
theorem dd_prog_7_method_1_12 : decode prog_7_method_1_code 12 = .ok (.iload_n 1, 1) := by decide +kernel
theorem dd_prog_7_method_1_13 : decode prog_7_method_1_code 13 = .ok (.iconst 1, 1) := by decide +kernel
theorem dd_prog_7_method_1_14 : decode prog_7_method_1_code 14 = .ok (.isub, 1) := by decide +kernel
theorem dd_prog_7_method_1_15 : decode prog_7_method_1_code 15 = .ok (.invokestatic 15, 3) := by decide +kernel
theorem pd_1 : parseMethodDescriptor "(I)I" = some ⟨[.int], some .int⟩ := by decide +kernel
theorem dd_prog_7_method_1_18 : decode prog_7_method_1_code 18 = .ok (.isub, 1) := by decide +kernel
theorem dd_prog_7_method_1_19 : decode prog_7_method_1_code 19 = .ok (.putfield 19, 3) := by decide +kernel
theorem dd_prog_7_method_1_22 : decode prog_7_method_1_code 22 = .ok (.aload_n 0, 1) := by decide +kernel
theorem dd_prog_7_method_1_23 : decode prog_7_method_1_code 23 = .ok (.lconst 1, 1) := by decide +kernel
theorem dd_prog_7_method_1_24 : decode prog_7_method_1_code 24 = .ok (.aload_n 0, 1) := by decide +kernel
theorem dd_prog_7_method_1_25 : decode prog_7_method_1_code 25 = .ok (.getfield 19, 3) := by decide +kernel
theorem dd_prog_7_method_1_28 : decode prog_7_method_1_code 28 = .ok (.lshl, 1) := by decide +kernel
theorem dd_prog_7_method_1_29 : decode prog_7_method_1_code 29 = .ok (.lconst 1, 1) := by decide +kernel
theorem dd_prog_7_method_1_30 : decode prog_7_method_1_code 30 = .ok (.lsub, 1) := by decide +kernel
theorem dd_prog_7_method_1_31 : decode prog_7_method_1_code 31 = .ok (.putfield 22, 3) := by decide +kernel
theorem dd_prog_7_method_1_34 : decode prog_7_method_1_code 34 = .ok (.aload_n 0, 1) := by decide +kernel
theorem dd_prog_7_method_1_35 : decode prog_7_method_1_code 35 = .ok (.lload_n 3, 1) := by decide +kernel
theorem dd_prog_7_method_1_36 : decode prog_7_method_1_code 36 = .ok (.ldc2_w 28, 3) := by decide +kernel
theorem dd_prog_7_method_1_39 : decode prog_7_method_1_code 39 = .ok (.aload_n 0, 1) := by decide +kernel
theorem dd_prog_7_method_1_40 : decode prog_7_method_1_code 40 = .ok (.getfield 19, 3) := by decide +kernel
theorem dd_prog_7_method_1_43 : decode prog_7_method_1_code 43 = .ok (.lshr, 1) := by decide +kernel
theorem dd_prog_7_method_1_44 : decode prog_7_method_1_code 44 = .ok (.invokestatic 30, 3) := by decide +kernel
theorem dd_prog_7_method_1_47 : decode prog_7_method_1_code 47 = .ok (.putfield 36, 3) := by decide +kernel
theorem dd_prog_7_method_1_50 : decode prog_7_method_1_code 50 = .ok (.aload_n 0, 1) := by decide +kernel
theorem dd_prog_7_method_1_51 : decode prog_7_method_1_code 51 = .ok (.iload_n 1, 1) := by decide +kernel
theorem dd_prog_7_method_1_52 : decode prog_7_method_1_code 52 = .ok (.iload_n 2, 1) := by decide +kernel
theorem dd_prog_7_method_1_53 : decode prog_7_method_1_code 53 = .ok (.invokestatic 39, 3) := by decide +kernel
theorem pd_2 : parseMethodDescriptor "(II)J" = some ⟨[.int, .int], some .long⟩ := by decide +kernel
theorem dd_prog_7_method_1_56 : decode prog_7_method_1_code 56 = .ok (.putfield 43, 3) := by decide +kernel
theorem dd_prog_7_method_1_59 : decode prog_7_method_1_code 59 = .ok (.aload_n 0, 1) := by decide +kernel
theorem dd_prog_7_method_1_60 : decode prog_7_method_1_code 60 = .ok (.iload_n 2, 1) := by decide +kernel
theorem dd_prog_7_method_1_61 : decode prog_7_method_1_code 61 = .ok (.newarray .long, 2) := by decide +kernel
theorem dd_prog_7_method_1_63 : decode prog_7_method_1_code 63 = .ok (.putfield 45, 3) := by decide +kernel
theorem dd_prog_7_method_1_66 : decode prog_7_method_1_code 66 = .ok (.aload_n 0, 1) := by decide +kernel
theorem dd_prog_7_method_1_67 : decode prog_7_method_1_code 67 = .ok (.iload_n 2, 1) := by decide +kernel
theorem dd_prog_7_method_1_68 : decode prog_7_method_1_code 68 = .ok (.newarray .long, 2) := by decide +kernel
theorem dd_prog_7_method_1_70 : decode prog_7_method_1_code 70 = .ok (.putfield 49, 3) := by decide +kernel
theorem dd_prog_7_method_1_73 : decode prog_7_method_1_code 73 = .ok (.aload_n 0, 1) := by decide +kernel
theorem dd_prog_7_method_1_74 : decode prog_7_method_1_code 74 = .ok (.iload_n 2, 1) := by decide +kernel
theorem dd_prog_7_method_1_75 : decode prog_7_method_1_code 75 = .ok (.iconst 1, 1) := by decide +kernel
theorem dd_prog_7_method_1_76 : decode prog_7_method_1_code 76 = .ok (.iadd, 1) := by decide +kernel
theorem dd_prog_7_method_1_77 : decode prog_7_method_1_code 77 = .ok (.newarray .int, 2) := by decide +kernel
theorem dd_prog_7_method_1_79 : decode prog_7_method_1_code 79 = .ok (.putfield 52, 3) := by decide +kernel
theorem dd_prog_7_method_1_82 : decode prog_7_method_1_code 82 = .ok (.aload_n 0, 1) := by decide +kernel
theorem dd_prog_7_method_1_83 : decode prog_7_method_1_code 83 = .ok (.iload_n 2, 1) := by decide +kernel
theorem dd_prog_7_method_1_84 : decode prog_7_method_1_code 84 = .ok (.newarray .int, 2) := by decide +kernel
theorem dd_prog_7_method_1_86 : decode prog_7_method_1_code 86 = .ok (.putfield 56, 3) := by decide +kernel
theorem dd_prog_7_method_1_89 : decode prog_7_method_1_code 89 = .ok (.return_, 1) := by decide +kernel
theorem ef_own_init (m : MethodId) (x0 : Addr) (x1 : Int32) (x2 : Int32) (x3 : Int64) : entryFrame m #[(.ref x0), (.int x1), (.int x2), (.long x3)] 5 = mkF m 0 #[.val (.ref x0), .val (.int x1), .val (.int x2), .val (.long x3), .second] [] := by first | (simp [entryFrame, mkF, argsToLocals, Value.category]; done) | rfl
set_option maxRecDepth 65536 in
set_option maxHeartbeats 40000000 in
theorem own_init (l : Launch) (Z : State) (a0 : Array Value) (hw : ∀ d ∈ tables_1, d.before a0 Z = true) (n0 : Nat) (a : Addr) (n : Nat) (h0 : Heap) (O0 : Old Z n0 h0) (p_n : n0 ≤ a) (p_b : n ≤ 16) (p_E : Exa Z h0 a "com/example/kentro/kentro/bound/NearestCandidates") (p_candidateCount : Fld Z h0 a "com/example/kentro/kentro/bound/NearestCandidates" "candidateCount" "I" (.int 0)) (p_bits : Fld Z h0 a "com/example/kentro/kentro/bound/NearestCandidates" "bits" "I" (.int 0)) (p_ceiling : Fld Z h0 a "com/example/kentro/kentro/bound/NearestCandidates" "ceiling" "J" (.long 0)) (p_capacity : Fld Z h0 a "com/example/kentro/kentro/bound/NearestCandidates" "capacity" "J" (.long 0)) (p_radius : Fld Z h0 a "com/example/kentro/kentro/bound/NearestCandidates" "radius" "[J" .null) (p_proposed : Fld Z h0 a "com/example/kentro/kentro/bound/NearestCandidates" "proposed" "[J" .null) (p_start : Fld Z h0 a "com/example/kentro/kentro/bound/NearestCandidates" "start" "[I" .null) (p_count : Fld Z h0 a "com/example/kentro/kentro/bound/NearestCandidates" "count" "[I" .null) (p_tallied : Fld Z h0 a "com/example/kentro/kentro/bound/NearestCandidates" "tallied" "J" (.long 0)) (p_tallying : Fld Z h0 a "com/example/kentro/kentro/bound/NearestCandidates" "tallying" "Z" (.int 0)) (p_built : Fld Z h0 a "com/example/kentro/kentro/bound/NearestCandidates" "built" "Z" (.int 0)) (p_entry : Fld Z h0 a "com/example/kentro/kentro/bound/NearestCandidates" "entry" "[J" .null) (p_mask : Fld Z h0 a "com/example/kentro/kentro/bound/NearestCandidates" "mask" "J" (.long 0)) :
    own_Met l Z n0 (⟨"com/example/kentro/kentro/bound/NearestCandidates", "<init>", "(IIJ)V"⟩ : MethodName) prog_7_method_1_code 5 none ({ frames := 2, cells := 4, slots := 65, locals := 31 } : Room) #[(.ref a), (.int (2 : Int32)), (.int (Int32.ofNat n)), (.long (9223372036854775807 : Int64))] h0 (fun v h => v = none ∧ Keep h0 h [a] ∧ ∃ (ar ap as_ ac : Addr) (kr kp ks kc : ClassId), h0.size ≤ ar ∧ ar < ap ∧ ap < as_ ∧ as_ < ac ∧ own_NC Z h a (2 : Int32) (1 : Int32) (4611686018427387903 : Int64) (if (2147483639 : Int64) < (((2 : Int64) * (Int32.ofNat n).toInt64) / (4 : Int64)) then (2147483639 : Int64) else (((2 : Int64) * (Int32.ofNat n).toInt64) / (4 : Int64))) ar ap as_ ac (0 : Int64) (0 : Int32) (0 : Int32) .null ∧ own_Arr Z h ar kr .long ((List.replicate n (0 : Int64)).map Value.long) ∧ own_Arr Z h ap kp .long ((List.replicate n (0 : Int64)).map Value.long) ∧ own_Arr Z h as_ ks .int ((List.replicate (n + 1) (0 : Int32)).map Value.int) ∧ own_Arr Z h ac kc .int ((List.replicate n (0 : Int32)).map Value.int)) := by
  refine own_enter (own := "com/example/kentro/kentro/bound/NearestCandidates") (nm := "<init>") (plainFor_of_name pn_4) rfl rfl O0 ?_
  have W : ∀ (k : Nat) {d : Jvm.Cond}, tables_1[k]? = some d → d.before a0 Z = true := fun k d q => hw d (List.mem_of_getElem? q)
  intro G p e s m below meth c T0 hGe X0
  rw [ef_own_init m a ((2 : Int32)) ((Int32.ofNat n)) ((9223372036854775807 : Int64))]
  refine own_aload_n (pc' := 1) X0 dd_prog_7_method_1_0 rfl rfl rfl ?_
  refine own_initO (pc' := 4) (W := 0) X0 (W 11 rfl) (W 12 rfl) (W 13 rfl) rfl dd_prog_7_method_1_1 rfl (by decide) rfl (by decide) ?_
  intro T1 X1
  refine own_aload_n (pc' := 5) X1 dd_prog_7_method_1_4 rfl rfl rfl ?_
  refine own_iload_n (pc' := 6) X1 dd_prog_7_method_1_5 rfl rfl ?_
  refine own_put (pc' := 9) X1 (host := "") (Or.inl (W 14 rfl)) Via.refl p_candidateCount p_E (Or.inr ⟨(W 15 rfl), rfl, rfl⟩) (W 5 rfl) (ty := .int) (by decide) rfl rfl p_n dd_prog_7_method_1_6 rfl ?_
  intro T2 h2 X2 W2 K2
  have f2_ := p_candidateCount.same W2
  refine own_aload_n (pc' := 10) X2 dd_prog_7_method_1_9 rfl rfl rfl ?_
  refine own_bipush (pc' := 12) X2 dd_prog_7_method_1_10 rfl (z := (32 : Int32)) (by decide) ?_
  refine own_iload_n (pc' := 13) X2 dd_prog_7_method_1_12 rfl rfl ?_
  refine own_iconst (pc' := 14) X2 dd_prog_7_method_1_13 rfl (z := (1 : Int32)) (by decide) ?_
  refine own_isub (pc' := 15) X2 dd_prog_7_method_1_14 rfl (r := (1 : Int32)) (by decide) ?_
  refine own_callSM (pc' := 18) (cells' := 0) (slots' := 0) (argsL := [(.int (1 : Int32))]) (rest := [(.int (32 : Int32)), (.ref a)]) (W := 2) (y := (⟨"java/lang/Integer", "numberOfLeadingZeros", "(I)I"⟩ : MethodName)) X2 (W 16 rfl) (W 17 rfl) (by decide) (own_nlz l Z a0 hw n0 h2 (own_old X2)) (W 19 rfl) (W 18 rfl) (by decide) (by decide) rfl (lenOf pd_1 rfl) rfl rfl dd_prog_7_method_1_15 rfl rfl rfl rfl (by decide) (by decide) ?_
  intro v3 T3 h3 X3 q3
  obtain ⟨rfl, rfl⟩ := q3
  show G T3 (mkF m 18 #[.val (.ref a), .val (.int (2 : Int32)), .val (.int (Int32.ofNat n)), .val (.long (9223372036854775807 : Int64)), .second] [(.int (31 : Int32)), (.int (32 : Int32)), (.ref a)])
  refine own_isub (pc' := 19) X3 dd_prog_7_method_1_18 rfl (r := (1 : Int32)) (by decide) ?_
  have f4 := (p_bits.other W2 (Or.inr (slot_ne (Or.inr (W 22 rfl)) (Or.inr (W 15 rfl)) (by decide) (t := .int) (t' := .int) (by decide) (by decide))))
  have f5 := (p_E.keep K2)
  refine own_put (pc' := 22) X3 (host := "") (Or.inl (W 21 rfl)) Via.refl f4 f5 (Or.inr ⟨(W 22 rfl), rfl, rfl⟩) (W 5 rfl) (ty := .int) (by decide) rfl rfl p_n dd_prog_7_method_1_19 rfl ?_
  intro T6 h6 X6 W6 K6
  have f6_ := f4.same W6
  refine own_aload_n (pc' := 23) X6 dd_prog_7_method_1_22 rfl rfl rfl ?_
  refine own_lconst (pc' := 24) X6 dd_prog_7_method_1_23 rfl (z := (1 : Int64)) (by decide) ?_
  refine own_aload_n (pc' := 25) X6 dd_prog_7_method_1_24 rfl rfl rfl ?_
  refine own_get (pc' := 28) X6 (host := "") (Or.inl (W 21 rfl)) Via.refl f6_ dd_prog_7_method_1_25 rfl ?_
  intro T7 X7
  refine own_lshl (pc' := 29) X7 dd_prog_7_method_1_28 rfl (r := (2 : Int64)) (by decide) ?_
  refine own_lconst (pc' := 30) X7 dd_prog_7_method_1_29 rfl (z := (1 : Int64)) (by decide) ?_
  refine own_lsub (pc' := 31) X7 dd_prog_7_method_1_30 rfl (r := (1 : Int64)) (by decide) ?_
  have f8 := ((p_mask.other W2 (Or.inr (slot_ne (Or.inr (W 24 rfl)) (Or.inr (W 15 rfl)) (by decide) (t := .long) (t' := .int) (by decide) (by decide)))).other W6 (Or.inr (slot_ne (Or.inr (W 24 rfl)) (Or.inr (W 22 rfl)) (by decide) (t := .long) (t' := .int) (by decide) (by decide))))
  have f9 := (f5.keep K6)
  refine own_put (pc' := 34) X7 (host := "") (Or.inl (W 23 rfl)) Via.refl f8 f9 (Or.inr ⟨(W 24 rfl), rfl, rfl⟩) (W 5 rfl) (ty := .long) (by decide) rfl rfl p_n dd_prog_7_method_1_31 rfl ?_
  intro T10 h10 X10 W10 K10
  have f10_ := f8.same W10
  refine own_aload_n (pc' := 35) X10 dd_prog_7_method_1_34 rfl rfl rfl ?_
  refine own_lload_n (pc' := 36) X10 dd_prog_7_method_1_35 rfl rfl ?_
  refine own_ldc2 (pc' := 39) X10 (v := (9223372036854775807 : Int64)) (W 25 rfl) dd_prog_7_method_1_36 rfl ?_
  refine own_aload_n (pc' := 40) X10 dd_prog_7_method_1_39 rfl rfl rfl ?_
  have f11 := (f6_.other W10 (Or.inr (slot_ne (Or.inr (W 22 rfl)) (Or.inr (W 24 rfl)) (by decide) (t := .int) (t' := .long) (by decide) (by decide))))
  refine own_get (pc' := 43) X10 (host := "") (Or.inl (W 21 rfl)) Via.refl f11 dd_prog_7_method_1_40 rfl ?_
  intro T12 X12
  refine own_lshr (pc' := 44) X12 dd_prog_7_method_1_43 rfl (r := (4611686018427387903 : Int64)) (by decide) ?_
  refine own_callSM (pc' := 47) (cells' := 0) (slots' := 0) (argsL := [(.long (9223372036854775807 : Int64)), (.long (4611686018427387903 : Int64))]) (rest := [(.ref a)]) (W := 1) (y := (⟨"java/lang/Math", "min", "(JJ)J"⟩ : MethodName)) X12 (W 26 rfl) (W 27 rfl) (by decide) (own_min l Z a0 hw n0 (9223372036854775807 : Int64) (4611686018427387903 : Int64) h10 (own_old X12)) (W 29 rfl) (W 28 rfl) (by decide) (by decide) rfl (lenOf pd_0 rfl) rfl rfl dd_prog_7_method_1_44 rfl rfl rfl rfl (by decide) (by decide) ?_
  intro v13 T13 h13 X13 q13
  obtain ⟨rfl, rfl⟩ := q13
  show G T13 (mkF m 47 #[.val (.ref a), .val (.int (2 : Int32)), .val (.int (Int32.ofNat n)), .val (.long (9223372036854775807 : Int64)), .second] [(.long (if (4611686018427387903 : Int64) < (9223372036854775807 : Int64) then (4611686018427387903 : Int64) else (9223372036854775807 : Int64))), (.ref a)])
  rw [show (if (4611686018427387903 : Int64) < (9223372036854775807 : Int64) then (4611686018427387903 : Int64) else (9223372036854775807 : Int64)) = (4611686018427387903 : Int64) from by decide]
  have f14 := (((p_ceiling.other W2 (Or.inr (slot_ne (Or.inr (W 31 rfl)) (Or.inr (W 15 rfl)) (by decide) (t := .long) (t' := .int) (by decide) (by decide)))).other W6 (Or.inr (slot_ne (Or.inr (W 31 rfl)) (Or.inr (W 22 rfl)) (by decide) (t := .long) (t' := .int) (by decide) (by decide)))).other W10 (Or.inr (slot_ne (Or.inr (W 31 rfl)) (Or.inr (W 24 rfl)) (by decide) (t := .long) (t' := .long) (by decide) (by decide))))
  have f15 := (f9.keep K10)
  refine own_put (pc' := 50) X13 (host := "") (Or.inl (W 30 rfl)) Via.refl f14 f15 (Or.inr ⟨(W 31 rfl), rfl, rfl⟩) (W 5 rfl) (ty := .long) (by decide) rfl rfl p_n dd_prog_7_method_1_47 rfl ?_
  intro T16 h16 X16 W16 K16
  have f16_ := f14.same W16
  refine own_aload_n (pc' := 51) X16 dd_prog_7_method_1_50 rfl rfl rfl ?_
  refine own_iload_n (pc' := 52) X16 dd_prog_7_method_1_51 rfl rfl ?_
  refine own_iload_n (pc' := 53) X16 dd_prog_7_method_1_52 rfl rfl ?_
  refine own_callSM (pc' := 56) (cells' := 0) (slots' := 0) (argsL := [(.int (2 : Int32)), (.int (Int32.ofNat n))]) (rest := [(.ref a)]) (W := 1) (y := (⟨"com/example/kentro/kentro/bound/NearestCandidates", "capacity", "(II)J"⟩ : MethodName)) X16 (W 32 rfl) (W 33 rfl) (by decide) (own_capm l Z a0 hw n0 (Int32.ofNat n) h16 (own_old X16)) (W 34 rfl) (W 6 rfl) (by decide) (by decide) rfl (lenOf pd_2 rfl) rfl rfl dd_prog_7_method_1_53 rfl rfl rfl rfl (by decide) (by decide) ?_
  intro v17 T17 h17 X17 q17
  obtain ⟨rfl, rfl⟩ := q17
  show G T17 (mkF m 56 #[.val (.ref a), .val (.int (2 : Int32)), .val (.int (Int32.ofNat n)), .val (.long (9223372036854775807 : Int64)), .second] [(.long (if (2147483639 : Int64) < (((2 : Int64) * (Int32.ofNat n).toInt64) / (4 : Int64)) then (2147483639 : Int64) else (((2 : Int64) * (Int32.ofNat n).toInt64) / (4 : Int64)))), (.ref a)])
  have f18 := ((((p_capacity.other W2 (Or.inr (slot_ne (Or.inr (W 38 rfl)) (Or.inr (W 15 rfl)) (by decide) (t := .long) (t' := .int) (by decide) (by decide)))).other W6 (Or.inr (slot_ne (Or.inr (W 38 rfl)) (Or.inr (W 22 rfl)) (by decide) (t := .long) (t' := .int) (by decide) (by decide)))).other W10 (Or.inr (slot_ne (Or.inr (W 38 rfl)) (Or.inr (W 24 rfl)) (by decide) (t := .long) (t' := .long) (by decide) (by decide)))).other W16 (Or.inr (slot_ne (Or.inr (W 38 rfl)) (Or.inr (W 31 rfl)) (by decide) (t := .long) (t' := .long) (by decide) (by decide))))
  have f19 := (f15.keep K16)
  refine own_put (pc' := 59) X17 (host := "") (Or.inl (W 37 rfl)) Via.refl f18 f19 (Or.inr ⟨(W 38 rfl), rfl, rfl⟩) (W 5 rfl) (ty := .long) (by decide) rfl rfl p_n dd_prog_7_method_1_56 rfl ?_
  intro T20 h20 X20 W20 K20
  have f20_ := f18.same W20
  refine own_aload_n (pc' := 60) X20 dd_prog_7_method_1_59 rfl rfl rfl ?_
  refine own_iload_n (pc' := 61) X20 dd_prog_7_method_1_60 rfl rfl ?_
  refine own_newarray (pc' := 63) (cells' := 1) (slots' := 16) (n := n) (cap := 16) (dv := (.long 0)) X20 (W 0 rfl) rfl rfl (own_i32 (by omega)) (by omega) dd_prog_7_method_1_61 rfl rfl (by omega) (by decide) rfl (by decide) (by decide) ?_
  intro T21 h21 a21 k21 g21 X21 K21 A21
  have n_a21 : n0 ≤ a21 := by rw [g21]; exact own_n0 X20
  have f22 := ((((((p_radius.other W2 (Or.inr (slot_ne (Or.inr (W 40 rfl)) (Or.inr (W 15 rfl)) (by decide) (t := (.array .long)) (t' := .int) (by decide) (by decide)))).other W6 (Or.inr (slot_ne (Or.inr (W 40 rfl)) (Or.inr (W 22 rfl)) (by decide) (t := (.array .long)) (t' := .int) (by decide) (by decide)))).other W10 (Or.inr (slot_ne (Or.inr (W 40 rfl)) (Or.inr (W 24 rfl)) (by decide) (t := (.array .long)) (t' := .long) (by decide) (by decide)))).other W16 (Or.inr (slot_ne (Or.inr (W 40 rfl)) (Or.inr (W 31 rfl)) (by decide) (t := (.array .long)) (t' := .long) (by decide) (by decide)))).other W20 (Or.inr (slot_ne (Or.inr (W 40 rfl)) (Or.inr (W 38 rfl)) (by decide) (t := (.array .long)) (t' := .long) (by decide) (by decide)))).keep K21 nin0)
  have f23 := ((f19.keep K20).keep K21)
  refine own_put (pc' := 66) X21 (host := "") (Or.inl (W 39 rfl)) Via.refl f22 f23 (Or.inr ⟨(W 40 rfl), rfl, rfl⟩) (W 5 rfl) (ty := (.array .long)) (by decide) rfl rfl p_n dd_prog_7_method_1_63 rfl ?_
  intro T24 h24 X24 W24 K24
  have f24_ := f22.same W24
  refine own_aload_n (pc' := 67) X24 dd_prog_7_method_1_66 rfl rfl rfl ?_
  refine own_iload_n (pc' := 68) X24 dd_prog_7_method_1_67 rfl rfl ?_
  refine own_newarray (pc' := 70) (cells' := 2) (slots' := 32) (n := n) (cap := 16) (dv := (.long 0)) X24 (W 0 rfl) rfl rfl (own_i32 (by omega)) (by omega) dd_prog_7_method_1_68 rfl rfl (by omega) (by decide) rfl (by decide) (by decide) ?_
  intro T25 h25 a25 k25 g25 X25 K25 A25
  have n_a25 : n0 ≤ a25 := by rw [g25]; exact own_n0 X24
  have f26 := ((((((((p_proposed.other W2 (Or.inr (slot_ne (Or.inr (W 42 rfl)) (Or.inr (W 15 rfl)) (by decide) (t := (.array .long)) (t' := .int) (by decide) (by decide)))).other W6 (Or.inr (slot_ne (Or.inr (W 42 rfl)) (Or.inr (W 22 rfl)) (by decide) (t := (.array .long)) (t' := .int) (by decide) (by decide)))).other W10 (Or.inr (slot_ne (Or.inr (W 42 rfl)) (Or.inr (W 24 rfl)) (by decide) (t := (.array .long)) (t' := .long) (by decide) (by decide)))).other W16 (Or.inr (slot_ne (Or.inr (W 42 rfl)) (Or.inr (W 31 rfl)) (by decide) (t := (.array .long)) (t' := .long) (by decide) (by decide)))).other W20 (Or.inr (slot_ne (Or.inr (W 42 rfl)) (Or.inr (W 38 rfl)) (by decide) (t := (.array .long)) (t' := .long) (by decide) (by decide)))).keep K21 nin0).other W24 (Or.inr (slot_ne (Or.inr (W 42 rfl)) (Or.inr (W 40 rfl)) (by decide) (t := (.array .long)) (t' := (.array .long)) (by decide) (by decide)))).keep K25 nin0)
  have f27 := ((f23.keep K24).keep K25)
  refine own_put (pc' := 73) X25 (host := "") (Or.inl (W 41 rfl)) Via.refl f26 f27 (Or.inr ⟨(W 42 rfl), rfl, rfl⟩) (W 5 rfl) (ty := (.array .long)) (by decide) rfl rfl p_n dd_prog_7_method_1_70 rfl ?_
  intro T28 h28 X28 W28 K28
  have f28_ := f26.same W28
  refine own_aload_n (pc' := 74) X28 dd_prog_7_method_1_73 rfl rfl rfl ?_
  refine own_iload_n (pc' := 75) X28 dd_prog_7_method_1_74 rfl rfl ?_
  refine own_iconst (pc' := 76) X28 dd_prog_7_method_1_75 rfl (z := (1 : Int32)) (by decide) ?_
  refine own_iadd (pc' := 77) X28 dd_prog_7_method_1_76 rfl (r := (Int32.ofNat (n + 1))) (own_inc n) ?_
  refine own_newarray (pc' := 79) (cells' := 3) (slots' := 49) (n := (n + 1)) (cap := 17) (dv := (.int 0)) X28 (W 43 rfl) rfl rfl (own_i32 (by omega)) (by omega) dd_prog_7_method_1_77 rfl rfl (by omega) (by decide) rfl (by decide) (by decide) ?_
  intro T29 h29 a29 k29 g29 X29 K29 A29
  have n_a29 : n0 ≤ a29 := by rw [g29]; exact own_n0 X28
  have f30 := ((((((((((p_start.other W2 (Or.inr (slot_ne (Or.inr (W 45 rfl)) (Or.inr (W 15 rfl)) (by decide) (t := (.array .int)) (t' := .int) (by decide) (by decide)))).other W6 (Or.inr (slot_ne (Or.inr (W 45 rfl)) (Or.inr (W 22 rfl)) (by decide) (t := (.array .int)) (t' := .int) (by decide) (by decide)))).other W10 (Or.inr (slot_ne (Or.inr (W 45 rfl)) (Or.inr (W 24 rfl)) (by decide) (t := (.array .int)) (t' := .long) (by decide) (by decide)))).other W16 (Or.inr (slot_ne (Or.inr (W 45 rfl)) (Or.inr (W 31 rfl)) (by decide) (t := (.array .int)) (t' := .long) (by decide) (by decide)))).other W20 (Or.inr (slot_ne (Or.inr (W 45 rfl)) (Or.inr (W 38 rfl)) (by decide) (t := (.array .int)) (t' := .long) (by decide) (by decide)))).keep K21 nin0).other W24 (Or.inr (slot_ne (Or.inr (W 45 rfl)) (Or.inr (W 40 rfl)) (by decide) (t := (.array .int)) (t' := (.array .long)) (by decide) (by decide)))).keep K25 nin0).other W28 (Or.inr (slot_ne (Or.inr (W 45 rfl)) (Or.inr (W 42 rfl)) (by decide) (t := (.array .int)) (t' := (.array .long)) (by decide) (by decide)))).keep K29 nin0)
  have f31 := ((f27.keep K28).keep K29)
  refine own_put (pc' := 82) X29 (host := "") (Or.inl (W 44 rfl)) Via.refl f30 f31 (Or.inr ⟨(W 45 rfl), rfl, rfl⟩) (W 5 rfl) (ty := (.array .int)) (by decide) rfl rfl p_n dd_prog_7_method_1_79 rfl ?_
  intro T32 h32 X32 W32 K32
  have f32_ := f30.same W32
  refine own_aload_n (pc' := 83) X32 dd_prog_7_method_1_82 rfl rfl rfl ?_
  refine own_iload_n (pc' := 84) X32 dd_prog_7_method_1_83 rfl rfl ?_
  refine own_newarray (pc' := 86) (cells' := 4) (slots' := 65) (n := n) (cap := 16) (dv := (.int 0)) X32 (W 43 rfl) rfl rfl (own_i32 (by omega)) (by omega) dd_prog_7_method_1_84 rfl rfl (by omega) (by decide) rfl (by decide) (by decide) ?_
  intro T33 h33 a33 k33 g33 X33 K33 A33
  have n_a33 : n0 ≤ a33 := by rw [g33]; exact own_n0 X32
  have f34 := ((((((((((((p_count.other W2 (Or.inr (slot_ne (Or.inr (W 47 rfl)) (Or.inr (W 15 rfl)) (by decide) (t := (.array .int)) (t' := .int) (by decide) (by decide)))).other W6 (Or.inr (slot_ne (Or.inr (W 47 rfl)) (Or.inr (W 22 rfl)) (by decide) (t := (.array .int)) (t' := .int) (by decide) (by decide)))).other W10 (Or.inr (slot_ne (Or.inr (W 47 rfl)) (Or.inr (W 24 rfl)) (by decide) (t := (.array .int)) (t' := .long) (by decide) (by decide)))).other W16 (Or.inr (slot_ne (Or.inr (W 47 rfl)) (Or.inr (W 31 rfl)) (by decide) (t := (.array .int)) (t' := .long) (by decide) (by decide)))).other W20 (Or.inr (slot_ne (Or.inr (W 47 rfl)) (Or.inr (W 38 rfl)) (by decide) (t := (.array .int)) (t' := .long) (by decide) (by decide)))).keep K21 nin0).other W24 (Or.inr (slot_ne (Or.inr (W 47 rfl)) (Or.inr (W 40 rfl)) (by decide) (t := (.array .int)) (t' := (.array .long)) (by decide) (by decide)))).keep K25 nin0).other W28 (Or.inr (slot_ne (Or.inr (W 47 rfl)) (Or.inr (W 42 rfl)) (by decide) (t := (.array .int)) (t' := (.array .long)) (by decide) (by decide)))).keep K29 nin0).other W32 (Or.inr (slot_ne (Or.inr (W 47 rfl)) (Or.inr (W 45 rfl)) (by decide) (t := (.array .int)) (t' := (.array .int)) (by decide) (by decide)))).keep K33 nin0)
  have f35 := ((f31.keep K32).keep K33)
  refine own_put (pc' := 89) X33 (host := "") (Or.inl (W 46 rfl)) Via.refl f34 f35 (Or.inr ⟨(W 47 rfl), rfl, rfl⟩) (W 5 rfl) (ty := (.array .int)) (by decide) rfl rfl p_n dd_prog_7_method_1_86 rfl ?_
  intro T36 h36 X36 W36 K36
  have f36_ := f34.same W36
  have ne_a_a21 : a ≠ a21 := own_ne p_E.lt (Nat.le_trans K2.1 (Nat.le_trans K6.1 (Nat.le_trans K10.1 (Nat.le_trans K16.1 (Nat.le_trans K20.1 (Nat.le_refl _)))))) (Nat.le_of_eq (Eq.symm g21))
  have f37 := (((((((A21.keep K24 (ninS (Ne.symm ne_a_a21) nin0)).keep K25 nin0).keep K28 (ninS (Ne.symm ne_a_a21) nin0)).keep K29 nin0).keep K32 (ninS (Ne.symm ne_a_a21) nin0)).keep K33 nin0).keep K36 (ninS (Ne.symm ne_a_a21) nin0))
  have e_a21 : own_Arr Z h36 a21 k21 .long ((List.replicate n (0 : Int64)).map Value.long) := by rw [List.map_replicate]; exact f37
  have ne_a_a25 : a ≠ a25 := own_ne p_E.lt (Nat.le_trans K2.1 (Nat.le_trans K6.1 (Nat.le_trans K10.1 (Nat.le_trans K16.1 (Nat.le_trans K20.1 (Nat.le_trans K21.1 (Nat.le_trans K24.1 (Nat.le_refl _)))))))) (Nat.le_of_eq (Eq.symm g25))
  have f38 := (((((A25.keep K28 (ninS (Ne.symm ne_a_a25) nin0)).keep K29 nin0).keep K32 (ninS (Ne.symm ne_a_a25) nin0)).keep K33 nin0).keep K36 (ninS (Ne.symm ne_a_a25) nin0))
  have e_a25 : own_Arr Z h36 a25 k25 .long ((List.replicate n (0 : Int64)).map Value.long) := by rw [List.map_replicate]; exact f38
  have ne_a_a29 : a ≠ a29 := own_ne p_E.lt (Nat.le_trans K2.1 (Nat.le_trans K6.1 (Nat.le_trans K10.1 (Nat.le_trans K16.1 (Nat.le_trans K20.1 (Nat.le_trans K21.1 (Nat.le_trans K24.1 (Nat.le_trans K25.1 (Nat.le_trans K28.1 (Nat.le_refl _)))))))))) (Nat.le_of_eq (Eq.symm g29))
  have f39 := (((A29.keep K32 (ninS (Ne.symm ne_a_a29) nin0)).keep K33 nin0).keep K36 (ninS (Ne.symm ne_a_a29) nin0))
  have e_a29 : own_Arr Z h36 a29 k29 .int ((List.replicate (n + 1) (0 : Int32)).map Value.int) := by rw [List.map_replicate]; exact f39
  have ne_a_a33 : a ≠ a33 := own_ne p_E.lt (Nat.le_trans K2.1 (Nat.le_trans K6.1 (Nat.le_trans K10.1 (Nat.le_trans K16.1 (Nat.le_trans K20.1 (Nat.le_trans K21.1 (Nat.le_trans K24.1 (Nat.le_trans K25.1 (Nat.le_trans K28.1 (Nat.le_trans K29.1 (Nat.le_trans K32.1 (Nat.le_refl _)))))))))))) (Nat.le_of_eq (Eq.symm g33))
  have f40 := (A33.keep K36 (ninS (Ne.symm ne_a_a33) nin0))
  have e_a33 : own_Arr Z h36 a33 k33 .int ((List.replicate n (0 : Int32)).map Value.int) := by rw [List.map_replicate]; exact f40
  have f41 := (f35.keep K36)
  have f42 := ((((((((((((f2_.other W6 (Or.inr (slot_ne (Or.inr (W 15 rfl)) (Or.inr (W 22 rfl)) (by decide) (t := .int) (t' := .int) (by decide) (by decide)))).other W10 (Or.inr (slot_ne (Or.inr (W 15 rfl)) (Or.inr (W 24 rfl)) (by decide) (t := .int) (t' := .long) (by decide) (by decide)))).other W16 (Or.inr (slot_ne (Or.inr (W 15 rfl)) (Or.inr (W 31 rfl)) (by decide) (t := .int) (t' := .long) (by decide) (by decide)))).other W20 (Or.inr (slot_ne (Or.inr (W 15 rfl)) (Or.inr (W 38 rfl)) (by decide) (t := .int) (t' := .long) (by decide) (by decide)))).keep K21 nin0).other W24 (Or.inr (slot_ne (Or.inr (W 15 rfl)) (Or.inr (W 40 rfl)) (by decide) (t := .int) (t' := (.array .long)) (by decide) (by decide)))).keep K25 nin0).other W28 (Or.inr (slot_ne (Or.inr (W 15 rfl)) (Or.inr (W 42 rfl)) (by decide) (t := .int) (t' := (.array .long)) (by decide) (by decide)))).keep K29 nin0).other W32 (Or.inr (slot_ne (Or.inr (W 15 rfl)) (Or.inr (W 45 rfl)) (by decide) (t := .int) (t' := (.array .int)) (by decide) (by decide)))).keep K33 nin0).other W36 (Or.inr (slot_ne (Or.inr (W 15 rfl)) (Or.inr (W 47 rfl)) (by decide) (t := .int) (t' := (.array .int)) (by decide) (by decide))))
  have f43 := ((((((((((f11.other W16 (Or.inr (slot_ne (Or.inr (W 22 rfl)) (Or.inr (W 31 rfl)) (by decide) (t := .int) (t' := .long) (by decide) (by decide)))).other W20 (Or.inr (slot_ne (Or.inr (W 22 rfl)) (Or.inr (W 38 rfl)) (by decide) (t := .int) (t' := .long) (by decide) (by decide)))).keep K21 nin0).other W24 (Or.inr (slot_ne (Or.inr (W 22 rfl)) (Or.inr (W 40 rfl)) (by decide) (t := .int) (t' := (.array .long)) (by decide) (by decide)))).keep K25 nin0).other W28 (Or.inr (slot_ne (Or.inr (W 22 rfl)) (Or.inr (W 42 rfl)) (by decide) (t := .int) (t' := (.array .long)) (by decide) (by decide)))).keep K29 nin0).other W32 (Or.inr (slot_ne (Or.inr (W 22 rfl)) (Or.inr (W 45 rfl)) (by decide) (t := .int) (t' := (.array .int)) (by decide) (by decide)))).keep K33 nin0).other W36 (Or.inr (slot_ne (Or.inr (W 22 rfl)) (Or.inr (W 47 rfl)) (by decide) (t := .int) (t' := (.array .int)) (by decide) (by decide))))
  have f44 := (((((((((f16_.other W20 (Or.inr (slot_ne (Or.inr (W 31 rfl)) (Or.inr (W 38 rfl)) (by decide) (t := .long) (t' := .long) (by decide) (by decide)))).keep K21 nin0).other W24 (Or.inr (slot_ne (Or.inr (W 31 rfl)) (Or.inr (W 40 rfl)) (by decide) (t := .long) (t' := (.array .long)) (by decide) (by decide)))).keep K25 nin0).other W28 (Or.inr (slot_ne (Or.inr (W 31 rfl)) (Or.inr (W 42 rfl)) (by decide) (t := .long) (t' := (.array .long)) (by decide) (by decide)))).keep K29 nin0).other W32 (Or.inr (slot_ne (Or.inr (W 31 rfl)) (Or.inr (W 45 rfl)) (by decide) (t := .long) (t' := (.array .int)) (by decide) (by decide)))).keep K33 nin0).other W36 (Or.inr (slot_ne (Or.inr (W 31 rfl)) (Or.inr (W 47 rfl)) (by decide) (t := .long) (t' := (.array .int)) (by decide) (by decide))))
  have f45 := ((((((((f20_.keep K21 nin0).other W24 (Or.inr (slot_ne (Or.inr (W 38 rfl)) (Or.inr (W 40 rfl)) (by decide) (t := .long) (t' := (.array .long)) (by decide) (by decide)))).keep K25 nin0).other W28 (Or.inr (slot_ne (Or.inr (W 38 rfl)) (Or.inr (W 42 rfl)) (by decide) (t := .long) (t' := (.array .long)) (by decide) (by decide)))).keep K29 nin0).other W32 (Or.inr (slot_ne (Or.inr (W 38 rfl)) (Or.inr (W 45 rfl)) (by decide) (t := .long) (t' := (.array .int)) (by decide) (by decide)))).keep K33 nin0).other W36 (Or.inr (slot_ne (Or.inr (W 38 rfl)) (Or.inr (W 47 rfl)) (by decide) (t := .long) (t' := (.array .int)) (by decide) (by decide))))
  have f46 := ((((((f24_.keep K25 nin0).other W28 (Or.inr (slot_ne (Or.inr (W 40 rfl)) (Or.inr (W 42 rfl)) (by decide) (t := (.array .long)) (t' := (.array .long)) (by decide) (by decide)))).keep K29 nin0).other W32 (Or.inr (slot_ne (Or.inr (W 40 rfl)) (Or.inr (W 45 rfl)) (by decide) (t := (.array .long)) (t' := (.array .int)) (by decide) (by decide)))).keep K33 nin0).other W36 (Or.inr (slot_ne (Or.inr (W 40 rfl)) (Or.inr (W 47 rfl)) (by decide) (t := (.array .long)) (t' := (.array .int)) (by decide) (by decide))))
  have f47 := ((((f28_.keep K29 nin0).other W32 (Or.inr (slot_ne (Or.inr (W 42 rfl)) (Or.inr (W 45 rfl)) (by decide) (t := (.array .long)) (t' := (.array .int)) (by decide) (by decide)))).keep K33 nin0).other W36 (Or.inr (slot_ne (Or.inr (W 42 rfl)) (Or.inr (W 47 rfl)) (by decide) (t := (.array .long)) (t' := (.array .int)) (by decide) (by decide))))
  have f48 := ((f32_.keep K33 nin0).other W36 (Or.inr (slot_ne (Or.inr (W 45 rfl)) (Or.inr (W 47 rfl)) (by decide) (t := (.array .int)) (t' := (.array .int)) (by decide) (by decide))))
  have f49 := (((((((((((((p_tallied.other W2 (Or.inr (slot_ne (Or.inl (W 70 rfl)) (Or.inr (W 15 rfl)) (by decide) (t := .long) (t' := .int) (by decide) (by decide)))).other W6 (Or.inr (slot_ne (Or.inl (W 70 rfl)) (Or.inr (W 22 rfl)) (by decide) (t := .long) (t' := .int) (by decide) (by decide)))).other W10 (Or.inr (slot_ne (Or.inl (W 70 rfl)) (Or.inr (W 24 rfl)) (by decide) (t := .long) (t' := .long) (by decide) (by decide)))).other W16 (Or.inr (slot_ne (Or.inl (W 70 rfl)) (Or.inr (W 31 rfl)) (by decide) (t := .long) (t' := .long) (by decide) (by decide)))).other W20 (Or.inr (slot_ne (Or.inl (W 70 rfl)) (Or.inr (W 38 rfl)) (by decide) (t := .long) (t' := .long) (by decide) (by decide)))).keep K21 nin0).other W24 (Or.inr (slot_ne (Or.inl (W 70 rfl)) (Or.inr (W 40 rfl)) (by decide) (t := .long) (t' := (.array .long)) (by decide) (by decide)))).keep K25 nin0).other W28 (Or.inr (slot_ne (Or.inl (W 70 rfl)) (Or.inr (W 42 rfl)) (by decide) (t := .long) (t' := (.array .long)) (by decide) (by decide)))).keep K29 nin0).other W32 (Or.inr (slot_ne (Or.inl (W 70 rfl)) (Or.inr (W 45 rfl)) (by decide) (t := .long) (t' := (.array .int)) (by decide) (by decide)))).keep K33 nin0).other W36 (Or.inr (slot_ne (Or.inl (W 70 rfl)) (Or.inr (W 47 rfl)) (by decide) (t := .long) (t' := (.array .int)) (by decide) (by decide))))
  have f50 := (((((((((((((p_tallying.other W2 (Or.inr (slot_ne (Or.inl (W 54 rfl)) (Or.inr (W 15 rfl)) (by decide) (t := .boolean) (t' := .int) (by decide) (by decide)))).other W6 (Or.inr (slot_ne (Or.inl (W 54 rfl)) (Or.inr (W 22 rfl)) (by decide) (t := .boolean) (t' := .int) (by decide) (by decide)))).other W10 (Or.inr (slot_ne (Or.inl (W 54 rfl)) (Or.inr (W 24 rfl)) (by decide) (t := .boolean) (t' := .long) (by decide) (by decide)))).other W16 (Or.inr (slot_ne (Or.inl (W 54 rfl)) (Or.inr (W 31 rfl)) (by decide) (t := .boolean) (t' := .long) (by decide) (by decide)))).other W20 (Or.inr (slot_ne (Or.inl (W 54 rfl)) (Or.inr (W 38 rfl)) (by decide) (t := .boolean) (t' := .long) (by decide) (by decide)))).keep K21 nin0).other W24 (Or.inr (slot_ne (Or.inl (W 54 rfl)) (Or.inr (W 40 rfl)) (by decide) (t := .boolean) (t' := (.array .long)) (by decide) (by decide)))).keep K25 nin0).other W28 (Or.inr (slot_ne (Or.inl (W 54 rfl)) (Or.inr (W 42 rfl)) (by decide) (t := .boolean) (t' := (.array .long)) (by decide) (by decide)))).keep K29 nin0).other W32 (Or.inr (slot_ne (Or.inl (W 54 rfl)) (Or.inr (W 45 rfl)) (by decide) (t := .boolean) (t' := (.array .int)) (by decide) (by decide)))).keep K33 nin0).other W36 (Or.inr (slot_ne (Or.inl (W 54 rfl)) (Or.inr (W 47 rfl)) (by decide) (t := .boolean) (t' := (.array .int)) (by decide) (by decide))))
  have f51 := (((((((((((((p_built.other W2 (Or.inr (slot_ne (Or.inl (W 61 rfl)) (Or.inr (W 15 rfl)) (by decide) (t := .boolean) (t' := .int) (by decide) (by decide)))).other W6 (Or.inr (slot_ne (Or.inl (W 61 rfl)) (Or.inr (W 22 rfl)) (by decide) (t := .boolean) (t' := .int) (by decide) (by decide)))).other W10 (Or.inr (slot_ne (Or.inl (W 61 rfl)) (Or.inr (W 24 rfl)) (by decide) (t := .boolean) (t' := .long) (by decide) (by decide)))).other W16 (Or.inr (slot_ne (Or.inl (W 61 rfl)) (Or.inr (W 31 rfl)) (by decide) (t := .boolean) (t' := .long) (by decide) (by decide)))).other W20 (Or.inr (slot_ne (Or.inl (W 61 rfl)) (Or.inr (W 38 rfl)) (by decide) (t := .boolean) (t' := .long) (by decide) (by decide)))).keep K21 nin0).other W24 (Or.inr (slot_ne (Or.inl (W 61 rfl)) (Or.inr (W 40 rfl)) (by decide) (t := .boolean) (t' := (.array .long)) (by decide) (by decide)))).keep K25 nin0).other W28 (Or.inr (slot_ne (Or.inl (W 61 rfl)) (Or.inr (W 42 rfl)) (by decide) (t := .boolean) (t' := (.array .long)) (by decide) (by decide)))).keep K29 nin0).other W32 (Or.inr (slot_ne (Or.inl (W 61 rfl)) (Or.inr (W 45 rfl)) (by decide) (t := .boolean) (t' := (.array .int)) (by decide) (by decide)))).keep K33 nin0).other W36 (Or.inr (slot_ne (Or.inl (W 61 rfl)) (Or.inr (W 47 rfl)) (by decide) (t := .boolean) (t' := (.array .int)) (by decide) (by decide))))
  have f52 := (((((((((((((p_entry.other W2 (Or.inr (slot_ne (Or.inl (W 83 rfl)) (Or.inr (W 15 rfl)) (by decide) (t := (.array .long)) (t' := .int) (by decide) (by decide)))).other W6 (Or.inr (slot_ne (Or.inl (W 83 rfl)) (Or.inr (W 22 rfl)) (by decide) (t := (.array .long)) (t' := .int) (by decide) (by decide)))).other W10 (Or.inr (slot_ne (Or.inl (W 83 rfl)) (Or.inr (W 24 rfl)) (by decide) (t := (.array .long)) (t' := .long) (by decide) (by decide)))).other W16 (Or.inr (slot_ne (Or.inl (W 83 rfl)) (Or.inr (W 31 rfl)) (by decide) (t := (.array .long)) (t' := .long) (by decide) (by decide)))).other W20 (Or.inr (slot_ne (Or.inl (W 83 rfl)) (Or.inr (W 38 rfl)) (by decide) (t := (.array .long)) (t' := .long) (by decide) (by decide)))).keep K21 nin0).other W24 (Or.inr (slot_ne (Or.inl (W 83 rfl)) (Or.inr (W 40 rfl)) (by decide) (t := (.array .long)) (t' := (.array .long)) (by decide) (by decide)))).keep K25 nin0).other W28 (Or.inr (slot_ne (Or.inl (W 83 rfl)) (Or.inr (W 42 rfl)) (by decide) (t := (.array .long)) (t' := (.array .long)) (by decide) (by decide)))).keep K29 nin0).other W32 (Or.inr (slot_ne (Or.inl (W 83 rfl)) (Or.inr (W 45 rfl)) (by decide) (t := (.array .long)) (t' := (.array .int)) (by decide) (by decide)))).keep K33 nin0).other W36 (Or.inr (slot_ne (Or.inl (W 83 rfl)) (Or.inr (W 47 rfl)) (by decide) (t := (.array .long)) (t' := (.array .int)) (by decide) (by decide))))
  have age_a21 : h0.size ≤ a21 := Nat.le_trans (Nat.le_trans K2.1 (Nat.le_trans K6.1 (Nat.le_trans K10.1 (Nat.le_trans K16.1 (Nat.le_trans K20.1 (Nat.le_refl _)))))) (Nat.le_of_eq (Eq.symm g21))
  exact own_retV X36 hGe rfl dd_prog_7_method_1_89 (by decide) (by decide) ⟨rfl, ((((((((((((((Keep.refl h0 [a]).trans K2 (allS (Or.inl (List.mem_of_getElem? (i := 0) rfl)) all0)).trans K6 (allS (Or.inl (List.mem_of_getElem? (i := 0) rfl)) all0)).trans K10 (allS (Or.inl (List.mem_of_getElem? (i := 0) rfl)) all0)).trans K16 (allS (Or.inl (List.mem_of_getElem? (i := 0) rfl)) all0)).trans K20 (allS (Or.inl (List.mem_of_getElem? (i := 0) rfl)) all0)).trans K21 all0).trans K24 (allS (Or.inl (List.mem_of_getElem? (i := 0) rfl)) all0)).trans K25 all0).trans K28 (allS (Or.inl (List.mem_of_getElem? (i := 0) rfl)) all0)).trans K29 all0).trans K32 (allS (Or.inl (List.mem_of_getElem? (i := 0) rfl)) all0)).trans K33 all0).trans K36 (allS (Or.inl (List.mem_of_getElem? (i := 0) rfl)) all0)), a21, a25, a29, a33, k21, k25, k29, k33, age_a21, (Nat.lt_of_lt_of_le A21.lt (Nat.le_trans (Nat.le_trans K24.1 (Nat.le_refl _)) (Nat.le_of_eq (Eq.symm g25)))), (Nat.lt_of_lt_of_le A25.lt (Nat.le_trans (Nat.le_trans K28.1 (Nat.le_refl _)) (Nat.le_of_eq (Eq.symm g29)))), (Nat.lt_of_lt_of_le A29.lt (Nat.le_trans (Nat.le_trans K32.1 (Nat.le_refl _)) (Nat.le_of_eq (Eq.symm g33)))), ⟨f41, f42, f43, f44, f45, f46, f47, f48, f36_, f49, f50, f51, f52⟩, e_a21, e_a25, e_a29, e_a33⟩
theorem own_sub32 {f g : Nat} (h : f ≤ g) (hg : g < 2 ^ 31) : Int32.ofNat g - Int32.ofNat f = Int32.ofNat (g - f) := by
  apply Int32.toInt_inj.mp
  have q := c_isub (Int32.ofNat g) (Int32.ofNat f); have r := rng32 (Int32.ofNat g - Int32.ofNat f)
  rw [own_i32 hg, own_i32 (by omega)] at q; rw [own_i32 (by omega)]; omega
theorem own_dec32 (f : Nat) : Int32.ofNat (f + 1) + (-1) = Int32.ofNat f := by
  rw [← Int32.sub_eq_add_neg]; exact dec_ofNat f
theorem own_dd (f : Nat) (hf : f < 2 ^ 30) : Int32.ofNat f + (-1) < Int32.ofNat f ∧ Int32.ofNat f + (-1) + 1 = Int32.ofNat f := by
  have q := c_iadd (Int32.ofNat f) (-1); have r := rng32 (Int32.ofNat f + (-1)); rw [own_i32 (by omega), show ((-1 : Int32)).toInt = -1 from by decide] at q
  have e : (Int32.ofNat f + (-1)).toInt = (f : Int) - 1 := by omega
  constructor
  · rw [Int32.lt_iff_toInt_lt, e, own_i32 (by omega)]; omega
  · apply Int32.toInt_inj.mp
    have q2 := c_iadd (Int32.ofNat f + (-1)) 1; have r2 := rng32 (Int32.ofNat f + (-1) + 1); rw [e, show ((1 : Int32)).toInt = 1 from by decide] at q2
    rw [own_i32 (by omega)]; omega
theorem own_mix {α : Type} {xs ys : List α} {n i : Nat} {y : α} (hx : xs.length = n) (hy : ys.length = n) (hi : i < n) (e : ys[i]? = some y) : (ys.take i ++ xs.drop i).set i y = ys.take (i + 1) ++ xs.drop (i + 1) := by
  apply List.ext_getElem?
  intro j
  rw [List.getElem?_set]
  by_cases h : i = j
  · subst h
    simp only [List.getElem?_append, List.length_take, List.length_append, List.length_drop]
    rw [if_pos trivial, if_pos (by omega), if_pos (by omega), List.getElem?_take, if_pos (by omega), e]
  · rw [if_neg h]
    simp only [List.getElem?_append, List.length_take, List.getElem?_take, List.getElem?_drop]
    by_cases h2 : j < i
    · rw [if_pos (by omega), if_pos h2, if_pos (by omega), if_pos (by omega)]
    · rw [if_neg (by omega), if_neg (by omega), show i + (j - min i ys.length) = j by omega, show i + 1 + (j - min (i + 1) ys.length) = j by omega]
theorem own_getD {α : Type} {xs : List α} {i : Nat} {d : α} (h : i < xs.length) : xs[i]? = some (xs.getD i d) := by simp [List.getD, List.getElem?_eq_getElem h]
theorem dd_jdk_2529_method_15_0 : decode jdk_2529_method_15_code 0 = .ok (.iload_n 1, 1) := by decide +kernel
theorem dd_jdk_2529_method_15_1 : decode jdk_2529_method_15_code 1 = .ok (.istore 4, 2) := by decide +kernel
theorem dd_jdk_2529_method_15_3 : decode jdk_2529_method_15_code 3 = .ok (.iinc 4 1, 3) := by decide +kernel
theorem dd_jdk_2529_method_15_6 : decode jdk_2529_method_15_code 6 = .ok (.iload 4, 2) := by decide +kernel
theorem dd_jdk_2529_method_15_8 : decode jdk_2529_method_15_code 8 = .ok (.iload_n 2, 1) := by decide +kernel
theorem dd_jdk_2529_method_15_9 : decode jdk_2529_method_15_code 9 = .ok (.if_icmp .ge 60, 3) := by decide +kernel
theorem dd_jdk_2529_method_15_69 : decode jdk_2529_method_15_code 69 = .ok (.return_, 1) := by decide +kernel
theorem dd_jdk_2529_method_15_12 : decode jdk_2529_method_15_code 12 = .ok (.aload_n 0, 1) := by decide +kernel
theorem dd_jdk_2529_method_15_13 : decode jdk_2529_method_15_code 13 = .ok (.iload 4, 2) := by decide +kernel
theorem dd_jdk_2529_method_15_15 : decode jdk_2529_method_15_code 15 = .ok (.dup, 1) := by decide +kernel
theorem dd_jdk_2529_method_15_16 : decode jdk_2529_method_15_code 16 = .ok (.istore_n 3, 1) := by decide +kernel
theorem dd_jdk_2529_method_15_17 : decode jdk_2529_method_15_code 17 = .ok (.laload, 1) := by decide +kernel
theorem dd_jdk_2529_method_15_18 : decode jdk_2529_method_15_code 18 = .ok (.lstore 5, 2) := by decide +kernel
theorem dd_jdk_2529_method_15_20 : decode jdk_2529_method_15_code 20 = .ok (.lload 5, 2) := by decide +kernel
theorem dd_jdk_2529_method_15_22 : decode jdk_2529_method_15_code 22 = .ok (.aload_n 0, 1) := by decide +kernel
theorem dd_jdk_2529_method_15_23 : decode jdk_2529_method_15_code 23 = .ok (.iload_n 3, 1) := by decide +kernel
theorem dd_jdk_2529_method_15_24 : decode jdk_2529_method_15_code 24 = .ok (.iconst 1, 1) := by decide +kernel
theorem dd_jdk_2529_method_15_25 : decode jdk_2529_method_15_code 25 = .ok (.isub, 1) := by decide +kernel
theorem dd_jdk_2529_method_15_26 : decode jdk_2529_method_15_code 26 = .ok (.laload, 1) := by decide +kernel
theorem dd_jdk_2529_method_15_27 : decode jdk_2529_method_15_code 27 = .ok (.lcmp, 1) := by decide +kernel
theorem dd_jdk_2529_method_15_28 : decode jdk_2529_method_15_code 28 = .ok (.ifCond .ge 38, 3) := by decide +kernel
theorem dd_jdk_2529_method_15_31 : decode jdk_2529_method_15_code 31 = .ok (.iinc 3 (-1), 3) := by decide +kernel
theorem dd_jdk_2529_method_15_34 : decode jdk_2529_method_15_code 34 = .ok (.iload_n 3, 1) := by decide +kernel
theorem dd_jdk_2529_method_15_35 : decode jdk_2529_method_15_code 35 = .ok (.iload_n 1, 1) := by decide +kernel
theorem dd_jdk_2529_method_15_36 : decode jdk_2529_method_15_code 36 = .ok (.if_icmp .lt 23, 3) := by decide +kernel
theorem dd_jdk_2529_method_15_39 : decode jdk_2529_method_15_code 39 = .ok (.lload 5, 2) := by decide +kernel
theorem dd_jdk_2529_method_15_41 : decode jdk_2529_method_15_code 41 = .ok (.aload_n 0, 1) := by decide +kernel
theorem dd_jdk_2529_method_15_42 : decode jdk_2529_method_15_code 42 = .ok (.iload_n 3, 1) := by decide +kernel
theorem dd_jdk_2529_method_15_43 : decode jdk_2529_method_15_code 43 = .ok (.laload, 1) := by decide +kernel
theorem dd_jdk_2529_method_15_44 : decode jdk_2529_method_15_code 44 = .ok (.lcmp, 1) := by decide +kernel
theorem dd_jdk_2529_method_15_45 : decode jdk_2529_method_15_code 45 = .ok (.ifCond .ge 14, 3) := by decide +kernel
theorem dd_jdk_2529_method_15_48 : decode jdk_2529_method_15_code 48 = .ok (.aload_n 0, 1) := by decide +kernel
theorem dd_jdk_2529_method_15_49 : decode jdk_2529_method_15_code 49 = .ok (.iload_n 3, 1) := by decide +kernel
theorem dd_jdk_2529_method_15_50 : decode jdk_2529_method_15_code 50 = .ok (.iconst 1, 1) := by decide +kernel
theorem dd_jdk_2529_method_15_51 : decode jdk_2529_method_15_code 51 = .ok (.iadd, 1) := by decide +kernel
theorem dd_jdk_2529_method_15_52 : decode jdk_2529_method_15_code 52 = .ok (.aload_n 0, 1) := by decide +kernel
theorem dd_jdk_2529_method_15_53 : decode jdk_2529_method_15_code 53 = .ok (.iload_n 3, 1) := by decide +kernel
theorem dd_jdk_2529_method_15_54 : decode jdk_2529_method_15_code 54 = .ok (.laload, 1) := by decide +kernel
theorem dd_jdk_2529_method_15_55 : decode jdk_2529_method_15_code 55 = .ok (.lastore, 1) := by decide +kernel
theorem dd_jdk_2529_method_15_56 : decode jdk_2529_method_15_code 56 = .ok (.goto (-25), 3) := by decide +kernel
theorem dd_jdk_2529_method_15_59 : decode jdk_2529_method_15_code 59 = .ok (.aload_n 0, 1) := by decide +kernel
theorem dd_jdk_2529_method_15_60 : decode jdk_2529_method_15_code 60 = .ok (.iload_n 3, 1) := by decide +kernel
theorem dd_jdk_2529_method_15_61 : decode jdk_2529_method_15_code 61 = .ok (.iconst 1, 1) := by decide +kernel
theorem dd_jdk_2529_method_15_62 : decode jdk_2529_method_15_code 62 = .ok (.iadd, 1) := by decide +kernel
theorem dd_jdk_2529_method_15_63 : decode jdk_2529_method_15_code 63 = .ok (.lload 5, 2) := by decide +kernel
theorem dd_jdk_2529_method_15_65 : decode jdk_2529_method_15_code 65 = .ok (.lastore, 1) := by decide +kernel
theorem dd_jdk_2529_method_15_66 : decode jdk_2529_method_15_code 66 = .ok (.goto (-63), 3) := by decide +kernel
theorem pn_5 : plainName "java/util/DualPivotQuicksort" = true := by first | (simp [plainName, overriddenIn]; done) | decide +kernel
theorem ef_own_isort (m : MethodId) (x0 : Addr) (x1 : Int32) (x2 : Int32) : entryFrame m #[(.ref x0), (.int x1), (.int x2)] 7 = mkF m 0 #[.val (.ref x0), .val (.int x1), .val (.int x2), .unset, .unset, .unset, .unset] [] := by first | (simp [entryFrame, mkF, argsToLocals, Value.category]; done) | rfl
set_option maxRecDepth 65536 in
set_option maxHeartbeats 40000000 in
theorem own_isort (l : Launch) (Z : State) (a0 : Array Value) (hw : ∀ d ∈ tables_1, d.before a0 Z = true) (n0 : Nat) (e' : Addr) (ke : ClassId) (xs : List Int64) (f g : Nat) (h0 : Heap) (O0 : Old Z n0 h0) (p_n : n0 ≤ e') (p_A : own_Arr Z h0 e' ke .long (xs.map Value.long)) (p_f : f ≤ g) (p_g : g ≤ xs.length) (p_2 : g ≤ f + 2) (p_l : xs.length < 1000) :
    own_Met l Z n0 (⟨"java/util/DualPivotQuicksort", "insertionSort", "([JII)V"⟩ : MethodName) jdk_2529_method_15_code 7 none ({ frames := 0, cells := 0, slots := 0, locals := 0 } : Room) #[(.ref e'), (.int (Int32.ofNat f)), (.int (Int32.ofNat g))] h0 (fun v h => v = none ∧ Keep h0 h [e'] ∧ ∃ xs' : List Int64, xs'.length = xs.length ∧ own_Arr Z h e' ke .long (xs'.map Value.long)) := by
  refine own_enter (own := "java/util/DualPivotQuicksort") (nm := "insertionSort") (plainFor_of_name pn_5) rfl rfl O0 ?_
  have W : ∀ (k : Nat) {d : Jvm.Cond}, tables_1[k]? = some d → d.before a0 Z = true := fun k d q => hw d (List.mem_of_getElem? q)
  intro G p e s m below meth c T0 hGe X0
  rw [ef_own_isort m (e') ((Int32.ofNat f)) ((Int32.ofNat g))]
  refine own_iload_n (pc' := 1) X0 dd_jdk_2529_method_15_0 rfl rfl ?_
  refine own_istore (pc' := 3) X0 dd_jdk_2529_method_15_1 rfl (Ls' := #[.val (.ref e'), .val (.int (Int32.ofNat f)), .val (.int (Int32.ofNat g)), .unset, .val (.int (Int32.ofNat f)), .unset, .unset]) rfl ?_
  refine own_iinc (pc' := 6) X0 dd_jdk_2529_method_15_3 rfl rfl (z := (1 : Int32)) (by decide) (r := (Int32.ofNat (f + 1))) (own_inc f) (Ls' := #[.val (.ref e'), .val (.int (Int32.ofNat f)), .val (.int (Int32.ofNat g)), .unset, .val (.int (Int32.ofNat (f + 1))), .unset, .unset]) rfl ?_
  refine own_iload (pc' := 8) X0 dd_jdk_2529_method_15_6 rfl rfl ?_
  refine own_iload_n (pc' := 9) X0 dd_jdk_2529_method_15_8 rfl rfl ?_
  by_cases hc : g ≤ f + 1
  · refine own_icmpY (pc' := 69) X0 dd_jdk_2529_method_15_9 ((flt (own_i32le hc (by omega))).2.1) (by decide) (by decide) ?_
    exact own_retV X0 hGe rfl dd_jdk_2529_method_15_69 (by decide) (by decide) ⟨rfl, (Keep.refl h0 [e']), xs, by simp, p_A⟩
  · refine own_icmpN (pc' := 12) X0 dd_jdk_2529_method_15_9 rfl ((tlt (own_i32lt (show f + 1 < g by omega) (by omega))).2.1) ?_
    refine own_aload_n (pc' := 13) X0 dd_jdk_2529_method_15_12 rfl rfl rfl ?_
    refine own_iload (pc' := 15) X0 dd_jdk_2529_method_15_13 rfl rfl ?_
    refine own_dup (pc' := 16) X0 dd_jdk_2529_method_15_15 rfl rfl ?_
    refine own_istore_n (pc' := 17) X0 dd_jdk_2529_method_15_16 rfl (Ls' := #[.val (.ref e'), .val (.int (Int32.ofNat f)), .val (.int (Int32.ofNat g)), .val (.int (Int32.ofNat (f + 1))), .val (.int (Int32.ofNat (f + 1))), .unset, .unset]) rfl ?_
    refine own_laloadM (pc' := 18) (i := (f + 1)) (x := (xs.getD (f + 1) 0)) X0 p_A (own_i32 (by omega)) (by omega) rfl dd_jdk_2529_method_15_17 rfl ?_
    refine own_lstore (pc' := 20) X0 dd_jdk_2529_method_15_18 rfl (Ls' := #[.val (.ref e'), .val (.int (Int32.ofNat f)), .val (.int (Int32.ofNat g)), .val (.int (Int32.ofNat (f + 1))), .val (.int (Int32.ofNat (f + 1))), .val (.long (xs.getD (f + 1) 0)), .second]) rfl ?_
    refine own_lload (pc' := 22) X0 dd_jdk_2529_method_15_20 rfl rfl ?_
    refine own_aload_n (pc' := 23) X0 dd_jdk_2529_method_15_22 rfl rfl rfl ?_
    refine own_iload_n (pc' := 24) X0 dd_jdk_2529_method_15_23 rfl rfl ?_
    refine own_iconst (pc' := 25) X0 dd_jdk_2529_method_15_24 rfl (z := (1 : Int32)) (by decide) ?_
    refine own_isub (pc' := 26) X0 dd_jdk_2529_method_15_25 rfl (r := (Int32.ofNat f)) (dec_ofNat f) ?_
    refine own_laloadM (pc' := 27) (i := f) (x := (xs.getD f 0)) X0 p_A (own_i32 (by omega)) (by omega) rfl dd_jdk_2529_method_15_26 rfl ?_
    refine own_lcmp (pc' := 28) X0 dd_jdk_2529_method_15_27 rfl ?_
    by_cases hx : (xs.getD (f + 1) 0) < (xs.getD f 0)
    · refine own_ifN (pc' := 31) X0 dd_jdk_2529_method_15_28 rfl ((own_lc_lt hx).2) ?_
      refine own_iinc (pc' := 34) X0 dd_jdk_2529_method_15_31 rfl rfl (z := (-1 : Int32)) (by decide) (r := (Int32.ofNat f)) (own_dec32 f) (Ls' := #[.val (.ref e'), .val (.int (Int32.ofNat f)), .val (.int (Int32.ofNat g)), .val (.int (Int32.ofNat f)), .val (.int (Int32.ofNat (f + 1))), .val (.long (xs.getD (f + 1) 0)), .second]) rfl ?_
      refine own_iload_n (pc' := 35) X0 dd_jdk_2529_method_15_34 rfl rfl ?_
      refine own_iload_n (pc' := 36) X0 dd_jdk_2529_method_15_35 rfl rfl ?_
      refine own_icmpN (pc' := 39) X0 dd_jdk_2529_method_15_36 rfl ((flt (own_i32le (Nat.le_refl f) (by omega))).1) ?_
      refine own_lload (pc' := 41) X0 dd_jdk_2529_method_15_39 rfl rfl ?_
      refine own_aload_n (pc' := 42) X0 dd_jdk_2529_method_15_41 rfl rfl rfl ?_
      refine own_iload_n (pc' := 43) X0 dd_jdk_2529_method_15_42 rfl rfl ?_
      refine own_laloadM (pc' := 44) (i := f) (x := (xs.getD f 0)) X0 p_A (own_i32 (by omega)) (by omega) rfl dd_jdk_2529_method_15_43 rfl ?_
      refine own_lcmp (pc' := 45) X0 dd_jdk_2529_method_15_44 rfl ?_
      refine own_ifN (pc' := 48) X0 dd_jdk_2529_method_15_45 rfl ((own_lc_lt hx).2) ?_
      refine own_aload_n (pc' := 49) X0 dd_jdk_2529_method_15_48 rfl rfl rfl ?_
      refine own_iload_n (pc' := 50) X0 dd_jdk_2529_method_15_49 rfl rfl ?_
      refine own_iconst (pc' := 51) X0 dd_jdk_2529_method_15_50 rfl (z := (1 : Int32)) (by decide) ?_
      refine own_iadd (pc' := 52) X0 dd_jdk_2529_method_15_51 rfl (r := (Int32.ofNat (f + 1))) (own_inc f) ?_
      refine own_aload_n (pc' := 53) X0 dd_jdk_2529_method_15_52 rfl rfl rfl ?_
      refine own_iload_n (pc' := 54) X0 dd_jdk_2529_method_15_53 rfl rfl ?_
      refine own_laloadM (pc' := 55) (i := f) (x := (xs.getD f 0)) X0 p_A (own_i32 (by omega)) (by omega) rfl dd_jdk_2529_method_15_54 rfl ?_
      refine own_lastoreM (pc' := 56) (i := (f + 1)) X0 p_A (own_i32 (by omega)) (by omega) p_n dd_jdk_2529_method_15_55 rfl ?_
      intro T1 h1 X1 K1 A1
      refine own_goto (pc' := 31) X1 dd_jdk_2529_method_15_56 (by decide) (by decide) ?_
      refine own_iinc (pc' := 34) X1 dd_jdk_2529_method_15_31 rfl rfl (z := (-1 : Int32)) (by decide) (r := ((Int32.ofNat f) + (-1 : Int32))) rfl (Ls' := #[.val (.ref e'), .val (.int (Int32.ofNat f)), .val (.int (Int32.ofNat g)), .val (.int ((Int32.ofNat f) + (-1 : Int32))), .val (.int (Int32.ofNat (f + 1))), .val (.long (xs.getD (f + 1) 0)), .second]) rfl ?_
      refine own_iload_n (pc' := 35) X1 dd_jdk_2529_method_15_34 rfl rfl ?_
      refine own_iload_n (pc' := 36) X1 dd_jdk_2529_method_15_35 rfl rfl ?_
      refine own_icmpY (pc' := 59) X1 dd_jdk_2529_method_15_36 ((tlt (own_dd f (by omega)).1).1) (by decide) (by decide) ?_
      refine own_aload_n (pc' := 60) X1 dd_jdk_2529_method_15_59 rfl rfl rfl ?_
      refine own_iload_n (pc' := 61) X1 dd_jdk_2529_method_15_60 rfl rfl ?_
      refine own_iconst (pc' := 62) X1 dd_jdk_2529_method_15_61 rfl (z := (1 : Int32)) (by decide) ?_
      refine own_iadd (pc' := 63) X1 dd_jdk_2529_method_15_62 rfl (r := (Int32.ofNat f)) (own_dd f (by omega)).2 ?_
      refine own_lload (pc' := 65) X1 dd_jdk_2529_method_15_63 rfl rfl ?_
      refine own_lastoreM (pc' := 66) (i := f) X1 A1 (own_i32 (by omega)) (by simp; omega) p_n dd_jdk_2529_method_15_65 rfl ?_
      intro T2 h2 X2 K2 A2
      refine own_goto (pc' := 3) X2 dd_jdk_2529_method_15_66 (by decide) (by decide) ?_
      refine own_iinc (pc' := 6) X2 dd_jdk_2529_method_15_3 rfl rfl (z := (1 : Int32)) (by decide) (r := (Int32.ofNat (f + 2))) (own_inc (f + 1)) (Ls' := #[.val (.ref e'), .val (.int (Int32.ofNat f)), .val (.int (Int32.ofNat g)), .val (.int ((Int32.ofNat f) + (-1 : Int32))), .val (.int (Int32.ofNat (f + 2))), .val (.long (xs.getD (f + 1) 0)), .second]) rfl ?_
      refine own_iload (pc' := 8) X2 dd_jdk_2529_method_15_6 rfl rfl ?_
      refine own_iload_n (pc' := 9) X2 dd_jdk_2529_method_15_8 rfl rfl ?_
      refine own_icmpY (pc' := 69) X2 dd_jdk_2529_method_15_9 ((flt (own_i32le (show g ≤ f + 2 by omega) (by omega))).2.1) (by decide) (by decide) ?_
      exact own_retV X2 hGe rfl dd_jdk_2529_method_15_69 (by decide) (by decide) ⟨rfl, (((Keep.refl h0 [e']).trans K1 (allS (Or.inl (List.mem_of_getElem? (i := 0) rfl)) all0)).trans K2 (allS (Or.inl (List.mem_of_getElem? (i := 0) rfl)) all0)), ((xs.set (f + 1) (xs.getD f 0)).set f (xs.getD (f + 1) 0)), by simp, A2⟩
    · refine own_ifY (pc' := 66) X0 dd_jdk_2529_method_15_28 ((own_lc_nlt hx).2) (by decide) (by decide) ?_
      refine own_goto (pc' := 3) X0 dd_jdk_2529_method_15_66 (by decide) (by decide) ?_
      refine own_iinc (pc' := 6) X0 dd_jdk_2529_method_15_3 rfl rfl (z := (1 : Int32)) (by decide) (r := (Int32.ofNat (f + 2))) (own_inc (f + 1)) (Ls' := #[.val (.ref e'), .val (.int (Int32.ofNat f)), .val (.int (Int32.ofNat g)), .val (.int (Int32.ofNat (f + 1))), .val (.int (Int32.ofNat (f + 2))), .val (.long (xs.getD (f + 1) 0)), .second]) rfl ?_
      refine own_iload (pc' := 8) X0 dd_jdk_2529_method_15_6 rfl rfl ?_
      refine own_iload_n (pc' := 9) X0 dd_jdk_2529_method_15_8 rfl rfl ?_
      refine own_icmpY (pc' := 69) X0 dd_jdk_2529_method_15_9 ((flt (own_i32le (show g ≤ f + 2 by omega) (by omega))).2.1) (by decide) (by decide) ?_
      exact own_retV X0 hGe rfl dd_jdk_2529_method_15_69 (by decide) (by decide) ⟨rfl, (Keep.refl h0 [e']), xs, by simp, p_A⟩
theorem dd_jdk_2529_method_13_0 : decode jdk_2529_method_13_code 0 = .ok (.iload 4, 2) := by decide +kernel
theorem dd_jdk_2529_method_13_2 : decode jdk_2529_method_13_code 2 = .ok (.iconst 1, 1) := by decide +kernel
theorem dd_jdk_2529_method_13_3 : decode jdk_2529_method_13_code 3 = .ok (.isub, 1) := by decide +kernel
theorem dd_jdk_2529_method_13_4 : decode jdk_2529_method_13_code 4 = .ok (.istore 5, 2) := by decide +kernel
theorem dd_jdk_2529_method_13_6 : decode jdk_2529_method_13_code 6 = .ok (.iload 4, 2) := by decide +kernel
theorem dd_jdk_2529_method_13_8 : decode jdk_2529_method_13_code 8 = .ok (.iload_n 3, 1) := by decide +kernel
theorem dd_jdk_2529_method_13_9 : decode jdk_2529_method_13_code 9 = .ok (.isub, 1) := by decide +kernel
theorem dd_jdk_2529_method_13_10 : decode jdk_2529_method_13_code 10 = .ok (.istore 6, 2) := by decide +kernel
theorem dd_jdk_2529_method_13_12 : decode jdk_2529_method_13_code 12 = .ok (.iload 6, 2) := by decide +kernel
theorem dd_jdk_2529_method_13_14 : decode jdk_2529_method_13_code 14 = .ok (.bipush 65, 2) := by decide +kernel
theorem dd_jdk_2529_method_13_16 : decode jdk_2529_method_13_code 16 = .ok (.iload_n 2, 1) := by decide +kernel
theorem dd_jdk_2529_method_13_17 : decode jdk_2529_method_13_code 17 = .ok (.iadd, 1) := by decide +kernel
theorem dd_jdk_2529_method_13_18 : decode jdk_2529_method_13_code 18 = .ok (.if_icmp .ge 28, 3) := by decide +kernel
theorem dd_jdk_2529_method_13_21 : decode jdk_2529_method_13_code 21 = .ok (.iload_n 2, 1) := by decide +kernel
theorem dd_jdk_2529_method_13_22 : decode jdk_2529_method_13_code 22 = .ok (.iconst 1, 1) := by decide +kernel
theorem dd_jdk_2529_method_13_23 : decode jdk_2529_method_13_code 23 = .ok (.iand, 1) := by decide +kernel
theorem dd_jdk_2529_method_13_24 : decode jdk_2529_method_13_code 24 = .ok (.ifCond .le 22, 3) := by decide +kernel
theorem dd_jdk_2529_method_13_46 : decode jdk_2529_method_13_code 46 = .ok (.iload 6, 2) := by decide +kernel
theorem dd_jdk_2529_method_13_48 : decode jdk_2529_method_13_code 48 = .ok (.bipush 44, 2) := by decide +kernel
theorem dd_jdk_2529_method_13_50 : decode jdk_2529_method_13_code 50 = .ok (.if_icmp .ge 11, 3) := by decide +kernel
theorem dd_jdk_2529_method_13_53 : decode jdk_2529_method_13_code 53 = .ok (.aload_n 1, 1) := by decide +kernel
theorem dd_jdk_2529_method_13_54 : decode jdk_2529_method_13_code 54 = .ok (.iload_n 3, 1) := by decide +kernel
theorem dd_jdk_2529_method_13_55 : decode jdk_2529_method_13_code 55 = .ok (.iload 4, 2) := by decide +kernel
theorem dd_jdk_2529_method_13_57 : decode jdk_2529_method_13_code 57 = .ok (.invokestatic 105, 3) := by decide +kernel
theorem pd_3 : parseMethodDescriptor "([JII)V" = some ⟨[(.array .long), .int, .int], none⟩ := by decide +kernel
theorem dd_jdk_2529_method_13_60 : decode jdk_2529_method_13_code 60 = .ok (.return_, 1) := by decide +kernel
theorem ef_own_dsort (m : MethodId) (x1 : Addr) (x2 : Int32) (x3 : Int32) (x4 : Int32) : entryFrame m #[.null, (.ref x1), (.int x2), (.int x3), (.int x4)] 25 = mkF m 0 #[.val .null, .val (.ref x1), .val (.int x2), .val (.int x3), .val (.int x4), .unset, .unset, .unset, .unset, .unset, .unset, .unset, .unset, .unset, .unset, .unset, .unset, .unset, .unset, .unset, .unset, .unset, .unset, .unset, .unset] [] := by first | (simp [entryFrame, mkF, argsToLocals, Value.category]; done) | rfl
set_option maxRecDepth 65536 in
set_option maxHeartbeats 40000000 in
theorem own_dsort (l : Launch) (Z : State) (a0 : Array Value) (hw : ∀ d ∈ tables_1, d.before a0 Z = true) (n0 : Nat) (e' : Addr) (ke : ClassId) (xs : List Int64) (f g : Nat) (h0 : Heap) (O0 : Old Z n0 h0) (p_n : n0 ≤ e') (p_A : own_Arr Z h0 e' ke .long (xs.map Value.long)) (p_f : f ≤ g) (p_g : g ≤ xs.length) (p_2 : g ≤ f + 2) (p_l : xs.length < 1000) :
    own_Met l Z n0 (⟨"java/util/DualPivotQuicksort", "sort", "(Ljava/util/DualPivotQuicksort$Sorter;[JIII)V"⟩ : MethodName) jdk_2529_method_13_code 25 none ({ frames := 1, cells := 0, slots := 0, locals := 18 } : Room) #[.null, (.ref e'), (.int (0 : Int32)), (.int (Int32.ofNat f)), (.int (Int32.ofNat g))] h0 (fun v h => v = none ∧ Keep h0 h [e'] ∧ ∃ xs' : List Int64, xs'.length = xs.length ∧ own_Arr Z h e' ke .long (xs'.map Value.long)) := by
  refine own_enter (own := "java/util/DualPivotQuicksort") (nm := "sort") (plainFor_of_name pn_5) rfl rfl O0 ?_
  have W : ∀ (k : Nat) {d : Jvm.Cond}, tables_1[k]? = some d → d.before a0 Z = true := fun k d q => hw d (List.mem_of_getElem? q)
  intro G p e s m below meth c T0 hGe X0
  rw [ef_own_dsort m (e') ((0 : Int32)) ((Int32.ofNat f)) ((Int32.ofNat g))]
  refine own_iload (pc' := 2) X0 dd_jdk_2529_method_13_0 rfl rfl ?_
  refine own_iconst (pc' := 3) X0 dd_jdk_2529_method_13_2 rfl (z := (1 : Int32)) (by decide) ?_
  refine own_isub (pc' := 4) X0 dd_jdk_2529_method_13_3 rfl (r := ((Int32.ofNat g) - (1 : Int32))) rfl ?_
  refine own_istore (pc' := 6) X0 dd_jdk_2529_method_13_4 rfl (Ls' := #[.val .null, .val (.ref e'), .val (.int (0 : Int32)), .val (.int (Int32.ofNat f)), .val (.int (Int32.ofNat g)), .val (.int ((Int32.ofNat g) - (1 : Int32))), .unset, .unset, .unset, .unset, .unset, .unset, .unset, .unset, .unset, .unset, .unset, .unset, .unset, .unset, .unset, .unset, .unset, .unset, .unset]) rfl ?_
  refine own_iload (pc' := 8) X0 dd_jdk_2529_method_13_6 rfl rfl ?_
  refine own_iload_n (pc' := 9) X0 dd_jdk_2529_method_13_8 rfl rfl ?_
  refine own_isub (pc' := 10) X0 dd_jdk_2529_method_13_9 rfl (r := (Int32.ofNat (g - f))) (own_sub32 p_f (by omega)) ?_
  refine own_istore (pc' := 12) X0 dd_jdk_2529_method_13_10 rfl (Ls' := #[.val .null, .val (.ref e'), .val (.int (0 : Int32)), .val (.int (Int32.ofNat f)), .val (.int (Int32.ofNat g)), .val (.int ((Int32.ofNat g) - (1 : Int32))), .val (.int (Int32.ofNat (g - f))), .unset, .unset, .unset, .unset, .unset, .unset, .unset, .unset, .unset, .unset, .unset, .unset, .unset, .unset, .unset, .unset, .unset, .unset]) rfl ?_
  refine own_iload (pc' := 14) X0 dd_jdk_2529_method_13_12 rfl rfl ?_
  refine own_bipush (pc' := 16) X0 dd_jdk_2529_method_13_14 rfl (z := (65 : Int32)) (by decide) ?_
  refine own_iload_n (pc' := 17) X0 dd_jdk_2529_method_13_16 rfl rfl ?_
  refine own_iadd (pc' := 18) X0 dd_jdk_2529_method_13_17 rfl (r := (65 : Int32)) (by decide) ?_
  refine own_icmpN (pc' := 21) X0 dd_jdk_2529_method_13_18 rfl ((tlt (by rw [Int32.lt_iff_toInt_lt, own_i32 (by omega)]; rw [show (65 : Int32).toInt = 65 from by decide]; omega)).2.1) ?_
  refine own_iload_n (pc' := 22) X0 dd_jdk_2529_method_13_21 rfl rfl ?_
  refine own_iconst (pc' := 23) X0 dd_jdk_2529_method_13_22 rfl (z := (1 : Int32)) (by decide) ?_
  refine own_iand (pc' := 24) X0 dd_jdk_2529_method_13_23 rfl (r := (0 : Int32)) (by decide) ?_
  refine own_ifY (pc' := 46) X0 dd_jdk_2529_method_13_24 ((flt (by decide)).2.2.2) (by decide) (by decide) ?_
  refine own_iload (pc' := 48) X0 dd_jdk_2529_method_13_46 rfl rfl ?_
  refine own_bipush (pc' := 50) X0 dd_jdk_2529_method_13_48 rfl (z := (44 : Int32)) (by decide) ?_
  refine own_icmpN (pc' := 53) X0 dd_jdk_2529_method_13_50 rfl ((tlt (by rw [Int32.lt_iff_toInt_lt, own_i32 (by omega)]; rw [show (44 : Int32).toInt = 44 from by decide]; omega)).2.1) ?_
  refine own_aload_n (pc' := 54) X0 dd_jdk_2529_method_13_53 rfl rfl rfl ?_
  refine own_iload_n (pc' := 55) X0 dd_jdk_2529_method_13_54 rfl rfl ?_
  refine own_iload (pc' := 57) X0 dd_jdk_2529_method_13_55 rfl rfl ?_
  refine own_callSM (pc' := 60) (cells' := 0) (slots' := 0) (argsL := [(.ref e'), (.int (Int32.ofNat f)), (.int (Int32.ofNat g))]) (rest := []) (W := 0) (y := (⟨"java/util/DualPivotQuicksort", "insertionSort", "([JII)V"⟩ : MethodName)) X0 (W 97 rfl) (W 98 rfl) (by decide) (own_isort l Z a0 hw n0 e' ke xs f g h0 (own_old X0) p_n p_A p_f p_g p_2 p_l) (W 99 rfl) (W 92 rfl) (by decide) (by decide) rfl (lenOf pd_3 rfl) rfl rfl dd_jdk_2529_method_13_57 rfl rfl rfl rfl (by decide) (by decide) ?_
  intro v1 T1 h1 X1 q1
  obtain ⟨rfl, K1, xs', hxl, A1⟩ := q1
  show G T1 (mkF m 60 #[.val .null, .val (.ref e'), .val (.int (0 : Int32)), .val (.int (Int32.ofNat f)), .val (.int (Int32.ofNat g)), .val (.int ((Int32.ofNat g) - (1 : Int32))), .val (.int (Int32.ofNat (g - f))), .unset, .unset, .unset, .unset, .unset, .unset, .unset, .unset, .unset, .unset, .unset, .unset, .unset, .unset, .unset, .unset, .unset, .unset] [])
  exact own_retV X1 hGe rfl dd_jdk_2529_method_13_60 (by decide) (by decide) ⟨rfl, ((Keep.refl h0 [e']).trans K1 (allS (Or.inl (List.mem_of_getElem? (i := 0) rfl)) all0)), xs', hxl, A1⟩
theorem dd_jdk_2529_method_12_0 : decode jdk_2529_method_12_code 0 = .ok (.iload_n 3, 1) := by decide +kernel
theorem dd_jdk_2529_method_12_1 : decode jdk_2529_method_12_code 1 = .ok (.iload_n 2, 1) := by decide +kernel
theorem dd_jdk_2529_method_12_2 : decode jdk_2529_method_12_code 2 = .ok (.isub, 1) := by decide +kernel
theorem dd_jdk_2529_method_12_3 : decode jdk_2529_method_12_code 3 = .ok (.istore 4, 2) := by decide +kernel
theorem dd_jdk_2529_method_12_5 : decode jdk_2529_method_12_code 5 = .ok (.iload_n 1, 1) := by decide +kernel
theorem dd_jdk_2529_method_12_6 : decode jdk_2529_method_12_code 6 = .ok (.iconst 1, 1) := by decide +kernel
theorem dd_jdk_2529_method_12_7 : decode jdk_2529_method_12_code 7 = .ok (.if_icmp .le 61, 3) := by decide +kernel
theorem dd_jdk_2529_method_12_68 : decode jdk_2529_method_12_code 68 = .ok (.aconst_null, 1) := by decide +kernel
theorem dd_jdk_2529_method_12_69 : decode jdk_2529_method_12_code 69 = .ok (.aload_n 0, 1) := by decide +kernel
theorem dd_jdk_2529_method_12_70 : decode jdk_2529_method_12_code 70 = .ok (.iconst 0, 1) := by decide +kernel
theorem dd_jdk_2529_method_12_71 : decode jdk_2529_method_12_code 71 = .ok (.iload_n 2, 1) := by decide +kernel
theorem dd_jdk_2529_method_12_72 : decode jdk_2529_method_12_code 72 = .ok (.iload_n 3, 1) := by decide +kernel
theorem dd_jdk_2529_method_12_73 : decode jdk_2529_method_12_code 73 = .ok (.invokestatic 99, 3) := by decide +kernel
theorem pd_4 : parseMethodDescriptor "(Ljava/util/DualPivotQuicksort$Sorter;[JIII)V" = some ⟨[(.object "java/util/DualPivotQuicksort$Sorter"), (.array .long), .int, .int, .int], none⟩ := by decide +kernel
theorem dd_jdk_2529_method_12_76 : decode jdk_2529_method_12_code 76 = .ok (.return_, 1) := by decide +kernel
theorem ef_own_psort (m : MethodId) (x0 : Addr) (x1 : Int32) (x2 : Int32) (x3 : Int32) : entryFrame m #[(.ref x0), (.int x1), (.int x2), (.int x3)] 7 = mkF m 0 #[.val (.ref x0), .val (.int x1), .val (.int x2), .val (.int x3), .unset, .unset, .unset] [] := by first | (simp [entryFrame, mkF, argsToLocals, Value.category]; done) | rfl
set_option maxRecDepth 65536 in
set_option maxHeartbeats 40000000 in
theorem own_psort (l : Launch) (Z : State) (a0 : Array Value) (hw : ∀ d ∈ tables_1, d.before a0 Z = true) (n0 : Nat) (e' : Addr) (ke : ClassId) (xs : List Int64) (f g : Nat) (h0 : Heap) (O0 : Old Z n0 h0) (p_n : n0 ≤ e') (p_A : own_Arr Z h0 e' ke .long (xs.map Value.long)) (p_f : f ≤ g) (p_g : g ≤ xs.length) (p_2 : g ≤ f + 2) (p_l : xs.length < 1000) :
    own_Met l Z n0 (⟨"java/util/DualPivotQuicksort", "sort", "([JIII)V"⟩ : MethodName) jdk_2529_method_12_code 7 none ({ frames := 2, cells := 0, slots := 0, locals := 54 } : Room) #[(.ref e'), (.int (0 : Int32)), (.int (Int32.ofNat f)), (.int (Int32.ofNat g))] h0 (fun v h => v = none ∧ Keep h0 h [e'] ∧ ∃ xs' : List Int64, xs'.length = xs.length ∧ own_Arr Z h e' ke .long (xs'.map Value.long)) := by
  refine own_enter (own := "java/util/DualPivotQuicksort") (nm := "sort") (plainFor_of_name pn_5) rfl rfl O0 ?_
  have W : ∀ (k : Nat) {d : Jvm.Cond}, tables_1[k]? = some d → d.before a0 Z = true := fun k d q => hw d (List.mem_of_getElem? q)
  intro G p e s m below meth c T0 hGe X0
  rw [ef_own_psort m (e') ((0 : Int32)) ((Int32.ofNat f)) ((Int32.ofNat g))]
  refine own_iload_n (pc' := 1) X0 dd_jdk_2529_method_12_0 rfl rfl ?_
  refine own_iload_n (pc' := 2) X0 dd_jdk_2529_method_12_1 rfl rfl ?_
  refine own_isub (pc' := 3) X0 dd_jdk_2529_method_12_2 rfl (r := ((Int32.ofNat g) - (Int32.ofNat f))) rfl ?_
  refine own_istore (pc' := 5) X0 dd_jdk_2529_method_12_3 rfl (Ls' := #[.val (.ref e'), .val (.int (0 : Int32)), .val (.int (Int32.ofNat f)), .val (.int (Int32.ofNat g)), .val (.int ((Int32.ofNat g) - (Int32.ofNat f))), .unset, .unset]) rfl ?_
  refine own_iload_n (pc' := 6) X0 dd_jdk_2529_method_12_5 rfl rfl ?_
  refine own_iconst (pc' := 7) X0 dd_jdk_2529_method_12_6 rfl (z := (1 : Int32)) (by decide) ?_
  refine own_icmpY (pc' := 68) X0 dd_jdk_2529_method_12_7 ((flt (by decide)).2.2.2) (by decide) (by decide) ?_
  refine own_aconst_null (pc' := 69) X0 dd_jdk_2529_method_12_68 rfl ?_
  refine own_aload_n (pc' := 70) X0 dd_jdk_2529_method_12_69 rfl rfl rfl ?_
  refine own_iconst (pc' := 71) X0 dd_jdk_2529_method_12_70 rfl (z := (0 : Int32)) (by decide) ?_
  refine own_iload_n (pc' := 72) X0 dd_jdk_2529_method_12_71 rfl rfl ?_
  refine own_iload_n (pc' := 73) X0 dd_jdk_2529_method_12_72 rfl rfl ?_
  refine own_callSM (pc' := 76) (cells' := 0) (slots' := 0) (argsL := [.null, (.ref e'), (.int (0 : Int32)), (.int (Int32.ofNat f)), (.int (Int32.ofNat g))]) (rest := []) (W := 0) (y := (⟨"java/util/DualPivotQuicksort", "sort", "(Ljava/util/DualPivotQuicksort$Sorter;[JIII)V"⟩ : MethodName)) X0 (W 94 rfl) (W 95 rfl) (by decide) (own_dsort l Z a0 hw n0 e' ke xs f g h0 (own_old X0) p_n p_A p_f p_g p_2 p_l) (W 96 rfl) (W 92 rfl) (by decide) (by decide) rfl (lenOf pd_4 rfl) rfl rfl dd_jdk_2529_method_12_73 rfl rfl rfl rfl (by decide) (by decide) ?_
  intro v1 T1 h1 X1 q1
  obtain ⟨rfl, K1, xs', hxl, A1⟩ := q1
  show G T1 (mkF m 76 #[.val (.ref e'), .val (.int (0 : Int32)), .val (.int (Int32.ofNat f)), .val (.int (Int32.ofNat g)), .val (.int ((Int32.ofNat g) - (Int32.ofNat f))), .unset, .unset] [])
  exact own_retV X1 hGe rfl dd_jdk_2529_method_12_76 (by decide) (by decide) ⟨rfl, ((Keep.refl h0 [e']).trans K1 (allS (Or.inl (List.mem_of_getElem? (i := 0) rfl)) all0)), xs', hxl, A1⟩
theorem dd_jdk_65_method_30_0 : decode jdk_65_method_30_code 0 = .ok (.iload_n 1, 1) := by decide +kernel
theorem dd_jdk_65_method_30_1 : decode jdk_65_method_30_code 1 = .ok (.iload_n 2, 1) := by decide +kernel
theorem dd_jdk_65_method_30_2 : decode jdk_65_method_30_code 2 = .ok (.if_icmp .le 44, 3) := by decide +kernel
theorem dd_jdk_65_method_30_46 : decode jdk_65_method_30_code 46 = .ok (.iload_n 1, 1) := by decide +kernel
theorem dd_jdk_65_method_30_47 : decode jdk_65_method_30_code 47 = .ok (.ifCond .ge 12, 3) := by decide +kernel
theorem dd_jdk_65_method_30_59 : decode jdk_65_method_30_code 59 = .ok (.iload_n 2, 1) := by decide +kernel
theorem dd_jdk_65_method_30_60 : decode jdk_65_method_30_code 60 = .ok (.iload_n 0, 1) := by decide +kernel
theorem dd_jdk_65_method_30_61 : decode jdk_65_method_30_code 61 = .ok (.if_icmp .le 12, 3) := by decide +kernel
theorem dd_jdk_65_method_30_73 : decode jdk_65_method_30_code 73 = .ok (.return_, 1) := by decide +kernel
theorem ef_own_rc (m : MethodId) (x0 : Int32) (x1 : Int32) (x2 : Int32) : entryFrame m #[(.int x0), (.int x1), (.int x2)] 3 = mkF m 0 #[.val (.int x0), .val (.int x1), .val (.int x2)] [] := by first | (simp [entryFrame, mkF, argsToLocals, Value.category]; done) | rfl
set_option maxRecDepth 65536 in
set_option maxHeartbeats 40000000 in
theorem own_rc (l : Launch) (Z : State) (a0 : Array Value) (hw : ∀ d ∈ tables_1, d.before a0 Z = true) (n0 : Nat) (len f g : Nat) (h0 : Heap) (O0 : Old Z n0 h0) (p_f : f ≤ g) (p_g : g ≤ len) (p_l : len < 1000) :
    own_Met l Z n0 (⟨"java/util/Arrays", "rangeCheck", "(III)V"⟩ : MethodName) jdk_65_method_30_code 3 none ({ frames := 0, cells := 0, slots := 0, locals := 0 } : Room) #[(.int (Int32.ofNat len)), (.int (Int32.ofNat f)), (.int (Int32.ofNat g))] h0 (fun v h => v = none ∧ h0 = h) := by
  refine own_enter (own := "java/util/Arrays") (nm := "rangeCheck") (plainFor_of_name pn_2) rfl rfl O0 ?_
  have W : ∀ (k : Nat) {d : Jvm.Cond}, tables_1[k]? = some d → d.before a0 Z = true := fun k d q => hw d (List.mem_of_getElem? q)
  intro G p e s m below meth c T0 hGe X0
  rw [ef_own_rc m ((Int32.ofNat len)) ((Int32.ofNat f)) ((Int32.ofNat g))]
  refine own_iload_n (pc' := 1) X0 dd_jdk_65_method_30_0 rfl rfl ?_
  refine own_iload_n (pc' := 2) X0 dd_jdk_65_method_30_1 rfl rfl ?_
  refine own_icmpY (pc' := 46) X0 dd_jdk_65_method_30_2 ((flt (own_i32le p_f (by omega))).2.2.2) (by decide) (by decide) ?_
  refine own_iload_n (pc' := 47) X0 dd_jdk_65_method_30_46 rfl rfl ?_
  refine own_ifY (pc' := 59) X0 dd_jdk_65_method_30_47 ((flt (by rw [Int32.lt_iff_toInt_lt, own_i32 (by omega)]; rw [show (0 : Int32).toInt = 0 from by decide]; omega)).2.1) (by decide) (by decide) ?_
  refine own_iload_n (pc' := 60) X0 dd_jdk_65_method_30_59 rfl rfl ?_
  refine own_iload_n (pc' := 61) X0 dd_jdk_65_method_30_60 rfl rfl ?_
  refine own_icmpY (pc' := 73) X0 dd_jdk_65_method_30_61 ((flt (own_i32le p_g (by omega))).2.2.2) (by decide) (by decide) ?_
  exact own_retV X0 hGe rfl dd_jdk_65_method_30_73 (by decide) (by decide) ⟨rfl, rfl⟩
theorem dd_jdk_65_method_5_0 : decode jdk_65_method_5_code 0 = .ok (.aload_n 0, 1) := by decide +kernel
theorem dd_jdk_65_method_5_1 : decode jdk_65_method_5_code 1 = .ok (.arraylength, 1) := by decide +kernel
theorem dd_jdk_65_method_5_2 : decode jdk_65_method_5_code 2 = .ok (.iload_n 1, 1) := by decide +kernel
theorem dd_jdk_65_method_5_3 : decode jdk_65_method_5_code 3 = .ok (.iload_n 2, 1) := by decide +kernel
theorem dd_jdk_65_method_5_4 : decode jdk_65_method_5_code 4 = .ok (.invokestatic 13, 3) := by decide +kernel
theorem pd_5 : parseMethodDescriptor "(III)V" = some ⟨[.int, .int, .int], none⟩ := by decide +kernel
theorem dd_jdk_65_method_5_7 : decode jdk_65_method_5_code 7 = .ok (.aload_n 0, 1) := by decide +kernel
theorem dd_jdk_65_method_5_8 : decode jdk_65_method_5_code 8 = .ok (.iconst 0, 1) := by decide +kernel
theorem dd_jdk_65_method_5_9 : decode jdk_65_method_5_code 9 = .ok (.iload_n 1, 1) := by decide +kernel
theorem dd_jdk_65_method_5_10 : decode jdk_65_method_5_code 10 = .ok (.iload_n 2, 1) := by decide +kernel
theorem dd_jdk_65_method_5_11 : decode jdk_65_method_5_code 11 = .ok (.invokestatic 19, 3) := by decide +kernel
theorem pd_6 : parseMethodDescriptor "([JIII)V" = some ⟨[(.array .long), .int, .int, .int], none⟩ := by decide +kernel
theorem dd_jdk_65_method_5_14 : decode jdk_65_method_5_code 14 = .ok (.return_, 1) := by decide +kernel
theorem ef_own_sort (m : MethodId) (x0 : Addr) (x1 : Int32) (x2 : Int32) : entryFrame m #[(.ref x0), (.int x1), (.int x2)] 3 = mkF m 0 #[.val (.ref x0), .val (.int x1), .val (.int x2)] [] := by first | (simp [entryFrame, mkF, argsToLocals, Value.category]; done) | rfl
set_option maxRecDepth 65536 in
set_option maxHeartbeats 40000000 in
theorem own_sort (l : Launch) (Z : State) (a0 : Array Value) (hw : ∀ d ∈ tables_1, d.before a0 Z = true) (n0 : Nat) (e' : Addr) (ke : ClassId) (xs : List Int64) (f g : Nat) (h0 : Heap) (O0 : Old Z n0 h0) (p_n : n0 ≤ e') (p_A : own_Arr Z h0 e' ke .long (xs.map Value.long)) (p_f : f ≤ g) (p_g : g ≤ xs.length) (p_2 : g ≤ f + 2) (p_l : xs.length < 1000) :
    own_Met l Z n0 (⟨"java/util/Arrays", "sort", "([JII)V"⟩ : MethodName) jdk_65_method_5_code 3 none ({ frames := 3, cells := 0, slots := 0, locals := 72 } : Room) #[(.ref e'), (.int (Int32.ofNat f)), (.int (Int32.ofNat g))] h0 (fun v h => v = none ∧ Keep h0 h [e'] ∧ ∃ xs' : List Int64, xs'.length = xs.length ∧ own_Arr Z h e' ke .long (xs'.map Value.long)) := by
  refine own_enter (own := "java/util/Arrays") (nm := "sort") (plainFor_of_name pn_2) rfl rfl O0 ?_
  have W : ∀ (k : Nat) {d : Jvm.Cond}, tables_1[k]? = some d → d.before a0 Z = true := fun k d q => hw d (List.mem_of_getElem? q)
  intro G p e s m below meth c T0 hGe X0
  rw [ef_own_sort m (e') ((Int32.ofNat f)) ((Int32.ofNat g))]
  refine own_aload_n (pc' := 1) X0 dd_jdk_65_method_5_0 rfl rfl rfl ?_
  refine own_arraylength (pc' := 2) (z := (Int32.ofNat xs.length)) X0 p_A (by rw [List.length_map]) dd_jdk_65_method_5_1 rfl ?_
  refine own_iload_n (pc' := 3) X0 dd_jdk_65_method_5_2 rfl rfl ?_
  refine own_iload_n (pc' := 4) X0 dd_jdk_65_method_5_3 rfl rfl ?_
  refine own_callSM (pc' := 7) (cells' := 0) (slots' := 0) (argsL := [(.int (Int32.ofNat xs.length)), (.int (Int32.ofNat f)), (.int (Int32.ofNat g))]) (rest := []) (W := 0) (y := (⟨"java/util/Arrays", "rangeCheck", "(III)V"⟩ : MethodName)) X0 (W 87 rfl) (W 88 rfl) (by decide) (own_rc l Z a0 hw n0 xs.length f g h0 (own_old X0) p_f p_g p_l) (W 89 rfl) (W 67 rfl) (by decide) (by decide) rfl (lenOf pd_5 rfl) rfl rfl dd_jdk_65_method_5_4 rfl rfl rfl rfl (by decide) (by decide) ?_
  intro v1 T1 h1 X1 q1
  obtain ⟨rfl, rfl⟩ := q1
  show G T1 (mkF m 7 #[.val (.ref e'), .val (.int (Int32.ofNat f)), .val (.int (Int32.ofNat g))] [])
  refine own_aload_n (pc' := 8) X1 dd_jdk_65_method_5_7 rfl rfl rfl ?_
  refine own_iconst (pc' := 9) X1 dd_jdk_65_method_5_8 rfl (z := (0 : Int32)) (by decide) ?_
  refine own_iload_n (pc' := 10) X1 dd_jdk_65_method_5_9 rfl rfl ?_
  refine own_iload_n (pc' := 11) X1 dd_jdk_65_method_5_10 rfl rfl ?_
  refine own_callSM (pc' := 14) (cells' := 0) (slots' := 0) (argsL := [(.ref e'), (.int (0 : Int32)), (.int (Int32.ofNat f)), (.int (Int32.ofNat g))]) (rest := []) (W := 0) (y := (⟨"java/util/DualPivotQuicksort", "sort", "([JIII)V"⟩ : MethodName)) X1 (W 90 rfl) (W 91 rfl) (by decide) (own_psort l Z a0 hw n0 e' ke xs f g h0 (own_old X1) p_n p_A p_f p_g p_2 p_l) (W 93 rfl) (W 92 rfl) (by decide) (by decide) rfl (lenOf pd_6 rfl) rfl rfl dd_jdk_65_method_5_11 rfl rfl rfl rfl (by decide) (by decide) ?_
  intro v2 T2 h2 X2 q2
  obtain ⟨rfl, K2, xs', hxl, A2⟩ := q2
  show G T2 (mkF m 14 #[.val (.ref e'), .val (.int (Int32.ofNat f)), .val (.int (Int32.ofNat g))] [])
  exact own_retV X2 hGe rfl dd_jdk_65_method_5_14 (by decide) (by decide) ⟨rfl, ((Keep.refl h0 [e']).trans K2 (allS (Or.inl (List.mem_of_getElem? (i := 0) rfl)) all0)), xs', hxl, A2⟩
def own_pv (ceil r : Int64) : Int64 := if 0 < ceil - (if r < 0 then 0 else r) then (if r < 0 then 0 else r) + 0 else ceil
theorem own_pvl {rs : List Int64} {n : Nat} {ceil : Int64} (h : n ≤ rs.length) : ((rs.take n).map (own_pv ceil)).length = n := by simp; omega
theorem own_pvi {rs : List Int64} {n i : Nat} {ceil : Int64} (h : n ≤ rs.length) (hi : i < n) : ((rs.take n).map (own_pv ceil))[i]? = some (own_pv ceil (rs.getD i 0)) := by
  rw [List.getElem?_map, List.getElem?_take, if_pos hi, own_getD (d := 0) (show i < rs.length by omega)]; rfl
theorem dd_prog_7_method_5_8 : decode prog_7_method_5_code 8 = .ok (.iload 4, 2) := by decide +kernel
theorem dd_prog_7_method_5_10 : decode prog_7_method_5_code 10 = .ok (.aload_n 0, 1) := by decide +kernel
theorem dd_prog_7_method_5_11 : decode prog_7_method_5_code 11 = .ok (.getfield 45, 3) := by decide +kernel
theorem dd_prog_7_method_5_14 : decode prog_7_method_5_code 14 = .ok (.arraylength, 1) := by decide +kernel
theorem dd_prog_7_method_5_15 : decode prog_7_method_5_code 15 = .ok (.if_icmp .ge 49, 3) := by decide +kernel
theorem dd_prog_7_method_5_18 : decode prog_7_method_5_code 18 = .ok (.aload_n 1, 1) := by decide +kernel
theorem dd_prog_7_method_5_19 : decode prog_7_method_5_code 19 = .ok (.iload 4, 2) := by decide +kernel
theorem dd_prog_7_method_5_21 : decode prog_7_method_5_code 21 = .ok (.laload, 1) := by decide +kernel
theorem dd_prog_7_method_5_22 : decode prog_7_method_5_code 22 = .ok (.lconst 0, 1) := by decide +kernel
theorem dd_prog_7_method_5_23 : decode prog_7_method_5_code 23 = .ok (.invokestatic 69, 3) := by decide +kernel
theorem dd_prog_7_method_5_26 : decode prog_7_method_5_code 26 = .ok (.lstore 5, 2) := by decide +kernel
theorem dd_prog_7_method_5_28 : decode prog_7_method_5_code 28 = .ok (.aload_n 0, 1) := by decide +kernel
theorem dd_prog_7_method_5_29 : decode prog_7_method_5_code 29 = .ok (.getfield 49, 3) := by decide +kernel
theorem dd_prog_7_method_5_32 : decode prog_7_method_5_code 32 = .ok (.iload 4, 2) := by decide +kernel
theorem dd_prog_7_method_5_34 : decode prog_7_method_5_code 34 = .ok (.lload_n 2, 1) := by decide +kernel
theorem dd_prog_7_method_5_35 : decode prog_7_method_5_code 35 = .ok (.aload_n 0, 1) := by decide +kernel
theorem dd_prog_7_method_5_36 : decode prog_7_method_5_code 36 = .ok (.getfield 36, 3) := by decide +kernel
theorem dd_prog_7_method_5_39 : decode prog_7_method_5_code 39 = .ok (.lload 5, 2) := by decide +kernel
theorem dd_prog_7_method_5_41 : decode prog_7_method_5_code 41 = .ok (.lsub, 1) := by decide +kernel
theorem dd_prog_7_method_5_42 : decode prog_7_method_5_code 42 = .ok (.lcmp, 1) := by decide +kernel
theorem dd_prog_7_method_5_43 : decode prog_7_method_5_code 43 = .ok (.ifCond .lt 10, 3) := by decide +kernel
theorem dd_prog_7_method_5_53 : decode prog_7_method_5_code 53 = .ok (.lload 5, 2) := by decide +kernel
theorem dd_prog_7_method_5_55 : decode prog_7_method_5_code 55 = .ok (.lload_n 2, 1) := by decide +kernel
theorem dd_prog_7_method_5_56 : decode prog_7_method_5_code 56 = .ok (.ladd, 1) := by decide +kernel
theorem dd_prog_7_method_5_57 : decode prog_7_method_5_code 57 = .ok (.lastore, 1) := by decide +kernel
theorem dd_prog_7_method_5_58 : decode prog_7_method_5_code 58 = .ok (.iinc 4 1, 3) := by decide +kernel
theorem dd_prog_7_method_5_61 : decode prog_7_method_5_code 61 = .ok (.goto (-53), 3) := by decide +kernel
theorem dd_prog_7_method_5_46 : decode prog_7_method_5_code 46 = .ok (.aload_n 0, 1) := by decide +kernel
theorem dd_prog_7_method_5_47 : decode prog_7_method_5_code 47 = .ok (.getfield 36, 3) := by decide +kernel
theorem dd_prog_7_method_5_50 : decode prog_7_method_5_code 50 = .ok (.goto 7, 3) := by decide +kernel
set_option maxRecDepth 65536 in
set_option maxHeartbeats 40000000 in
theorem own_prop_l {G : State → JFrame → Prop} {p : Program} {l : Launch} {e : Env} {s : State} {m : MethodId} {args : Array Value} {below : List Frame} {meth : Method} {c : Code} {Z : State} {a0 : Array Value} {n0 : Nat} {hS : Heap} (hw : ∀ d ∈ tables_1, d.before a0 Z = true) (a rc : Addr) (kr kp krc : ClassId) (xr xp rs : List Int64) (n : Nat) (cc bits : Int32) (ceil cap : Int64) (ar ap as_ ac : Addr) (tl : Int64) (tg bt : Int32) (en : Value) (p_N : own_NC Z hS a cc bits ceil cap ar ap as_ ac tl tg bt en) (p_ar : own_Arr Z hS ar kr .long (xr.map Value.long)) (p_rc : own_Arr Z hS rc krc .long (rs.map Value.long)) (p_ne1 : ar ≠ ap) (p_ne2 : rc ≠ ap) (p_ne3 : a ≠ ap) (p_nap : n0 ≤ ap) (p_lr : xr.length = n) (p_lp : xp.length = n) (p_lc : n ≤ rs.length) (p_b : n < 1000)
    (kont : ∀ {T0 : State} {h0 : Heap} (s5 s6 : Slot), own_At G p l e ({ frames := 1, cells := 0, slots := 0, locals := 20 } : Room) s m args below meth c Z n0 "com/example/kentro/kentro/bound/NearestCandidates" "propose" prog_7_method_5_code 7 none T0 h0 0 0 → Keep hS h0 [ap] → (own_Arr Z h0 ap kp .long ((((rs.take n).map (own_pv ceil)).take n ++ xp.drop n).map Value.long)) → ((s5 = .unset ∧ s6 = .unset) ∨ ∃ q : Int64, s5 = .val (.long q) ∧ s6 = .second) → G T0 (mkF m 64 #[.val (.ref a), .val (.ref rc), .val (.long (0 : Int64)), .second, .val (.int (Int32.ofNat n)), s5, s6] [])) :
    ∀ (r i : Nat), i + r = n → ∀ {T0 : State} {h0 : Heap} (s5 s6 : Slot) (X0 : own_At G p l e ({ frames := 1, cells := 0, slots := 0, locals := 20 } : Room) s m args below meth c Z n0 "com/example/kentro/kentro/bound/NearestCandidates" "propose" prog_7_method_5_code 7 none T0 h0 0 0) (KK : Keep hS h0 [ap]) (p_ap : own_Arr Z h0 ap kp .long ((((rs.take n).map (own_pv ceil)).take i ++ xp.drop i).map Value.long)) (p_s : (s5 = .unset ∧ s6 = .unset) ∨ ∃ q : Int64, s5 = .val (.long q) ∧ s6 = .second), G T0 (mkF m 8 #[.val (.ref a), .val (.ref rc), .val (.long (0 : Int64)), .second, .val (.int (Int32.ofNat i)), s5, s6] []) := by
  have W : ∀ (k : Nat) {d : Jvm.Cond}, tables_1[k]? = some d → d.before a0 Z = true := fun k d q => hw d (List.mem_of_getElem? q)
  intro r
  induction r with
  | zero =>
    intro i hi T0 h0 s5 s6 X0 KK p_ap p_s
    obtain rfl : n = i := by omega
    obtain ⟨p_N_E, p_N_candidateCount, p_N_bits, p_N_ceiling, p_N_capacity, p_N_radius, p_N_proposed, p_N_start, p_N_count, p_N_tallied, p_N_tallying, p_N_built, p_N_entry⟩ := p_N
    refine own_iload (pc' := 10) X0 dd_prog_7_method_5_8 rfl rfl ?_
    refine own_aload_n (pc' := 11) X0 dd_prog_7_method_5_10 rfl rfl rfl ?_
    have f1 := (p_N_radius.keep KK (ninS p_ne3 nin0))
    refine own_get (pc' := 14) X0 (host := "") (Or.inl (W 39 rfl)) Via.refl f1 dd_prog_7_method_5_11 rfl ?_
    intro T2 X2
    have f3 := (p_ar.keep KK (ninS p_ne1 nin0))
    refine own_arraylength (pc' := 15) (z := (Int32.ofNat n)) X2 f3 (by rw [List.length_map, p_lr]) dd_prog_7_method_5_14 rfl ?_
    refine own_icmpY (pc' := 64) X2 dd_prog_7_method_5_15 ((flt (own_i32le (Nat.le_refl _) (by omega))).2.1) (by decide) (by decide) ?_
    exact kont s5 s6 X2 KK p_ap p_s
  | succ r ih =>
    intro i hi T0 h0 s5 s6 X0 KK p_ap p_s
    obtain ⟨p_N_E, p_N_candidateCount, p_N_bits, p_N_ceiling, p_N_capacity, p_N_radius, p_N_proposed, p_N_start, p_N_count, p_N_tallied, p_N_tallying, p_N_built, p_N_entry⟩ := p_N
    rcases p_s with ⟨rfl, rfl⟩ | ⟨q, rfl, rfl⟩
    · refine own_iload (pc' := 10) X0 dd_prog_7_method_5_8 rfl rfl ?_
      refine own_aload_n (pc' := 11) X0 dd_prog_7_method_5_10 rfl rfl rfl ?_
      have f1 := (p_N_radius.keep KK (ninS p_ne3 nin0))
      refine own_get (pc' := 14) X0 (host := "") (Or.inl (W 39 rfl)) Via.refl f1 dd_prog_7_method_5_11 rfl ?_
      intro T2 X2
      have f3 := (p_ar.keep KK (ninS p_ne1 nin0))
      refine own_arraylength (pc' := 15) (z := (Int32.ofNat n)) X2 f3 (by rw [List.length_map, p_lr]) dd_prog_7_method_5_14 rfl ?_
      refine own_icmpN (pc' := 18) X2 dd_prog_7_method_5_15 rfl ((tlt (own_i32lt (show i < n by omega) (by omega))).2.1) ?_
      refine own_aload_n (pc' := 19) X2 dd_prog_7_method_5_18 rfl rfl rfl ?_
      refine own_iload (pc' := 21) X2 dd_prog_7_method_5_19 rfl rfl ?_
      have f4 := (p_rc.keep KK (ninS p_ne2 nin0))
      refine own_laloadM (pc' := 22) (i := i) (x := (rs.getD i 0)) X2 f4 (own_i32 (by omega)) (by omega) rfl dd_prog_7_method_5_21 rfl ?_
      refine own_lconst (pc' := 23) X2 dd_prog_7_method_5_22 rfl (z := (0 : Int64)) (by decide) ?_
      refine own_callSM (pc' := 26) (cells' := 0) (slots' := 0) (argsL := [(.long (rs.getD i 0)), (.long (0 : Int64))]) (rest := []) (W := 0) (y := (⟨"java/lang/Math", "max", "(JJ)J"⟩ : MethodName)) X2 (W 62 rfl) (W 63 rfl) (by decide) (own_max l Z a0 hw n0 (rs.getD i 0) (0 : Int64) h0 (own_old X2)) (W 64 rfl) (W 28 rfl) (by decide) (by decide) rfl (lenOf pd_0 rfl) rfl rfl dd_prog_7_method_5_23 rfl rfl rfl rfl (by decide) (by decide) ?_
      intro v5 T5 h5 X5 q5
      obtain ⟨rfl, rfl⟩ := q5
      show G T5 (mkF m 26 #[.val (.ref a), .val (.ref rc), .val (.long (0 : Int64)), .second, .val (.int (Int32.ofNat i)), .unset, .unset] [(.long (if (rs.getD i 0) < (0 : Int64) then (0 : Int64) else (rs.getD i 0)))])
      refine own_lstore (pc' := 28) X5 dd_prog_7_method_5_26 rfl (Ls' := #[.val (.ref a), .val (.ref rc), .val (.long (0 : Int64)), .second, .val (.int (Int32.ofNat i)), .val (.long (if (rs.getD i 0) < (0 : Int64) then (0 : Int64) else (rs.getD i 0))), .second]) rfl ?_
      refine own_aload_n (pc' := 29) X5 dd_prog_7_method_5_28 rfl rfl rfl ?_
      have f6 := (p_N_proposed.keep KK (ninS p_ne3 nin0))
      refine own_get (pc' := 32) X5 (host := "") (Or.inl (W 41 rfl)) Via.refl f6 dd_prog_7_method_5_29 rfl ?_
      intro T7 X7
      refine own_iload (pc' := 34) X7 dd_prog_7_method_5_32 rfl rfl ?_
      refine own_lload_n (pc' := 35) X7 dd_prog_7_method_5_34 rfl rfl ?_
      refine own_aload_n (pc' := 36) X7 dd_prog_7_method_5_35 rfl rfl rfl ?_
      have f8 := (p_N_ceiling.keep KK (ninS p_ne3 nin0))
      refine own_get (pc' := 39) X7 (host := "") (Or.inl (W 30 rfl)) Via.refl f8 dd_prog_7_method_5_36 rfl ?_
      intro T9 X9
      refine own_lload (pc' := 41) X9 dd_prog_7_method_5_39 rfl rfl ?_
      refine own_lsub (pc' := 42) X9 dd_prog_7_method_5_41 rfl (r := (ceil - (if (rs.getD i 0) < (0 : Int64) then (0 : Int64) else (rs.getD i 0)))) rfl ?_
      refine own_lcmp (pc' := 43) X9 dd_prog_7_method_5_42 rfl ?_
      by_cases hq : (0 : Int64) < (ceil - (if (rs.getD i 0) < (0 : Int64) then (0 : Int64) else (rs.getD i 0)))
      · refine own_ifY (pc' := 53) X9 dd_prog_7_method_5_43 ((own_lc_lt hq).1) (by decide) (by decide) ?_
        refine own_lload (pc' := 55) X9 dd_prog_7_method_5_53 rfl rfl ?_
        refine own_lload_n (pc' := 56) X9 dd_prog_7_method_5_55 rfl rfl ?_
        refine own_ladd (pc' := 57) X9 dd_prog_7_method_5_56 rfl (r := ((if (rs.getD i 0) < (0 : Int64) then (0 : Int64) else (rs.getD i 0)) + (0 : Int64))) rfl ?_
        rw [show ((if (rs.getD i 0) < (0 : Int64) then (0 : Int64) else (rs.getD i 0)) + (0 : Int64)) = own_pv ceil (rs.getD i 0) from by unfold own_pv; rw [if_pos hq]]
        refine own_lastoreM (pc' := 58) (i := i) X9 p_ap (own_i32 (by omega)) (by simp; omega) p_nap dd_prog_7_method_5_57 rfl ?_
        intro T10 h10 X10 K10 A10
        refine own_iinc (pc' := 61) X10 dd_prog_7_method_5_58 rfl rfl (z := (1 : Int32)) (by decide) (r := (Int32.ofNat (i + 1))) (own_inc i) (Ls' := #[.val (.ref a), .val (.ref rc), .val (.long (0 : Int64)), .second, .val (.int (Int32.ofNat (i + 1))), .val (.long (if (rs.getD i 0) < (0 : Int64) then (0 : Int64) else (rs.getD i 0))), .second]) rfl ?_
        refine own_goto (pc' := 8) X10 dd_prog_7_method_5_61 (by decide) (by decide) ?_
        exact ih (i + 1) (by omega) _ _ X10 (((Keep.refl hS [ap]).trans KK (allS (Or.inl (List.mem_of_getElem? (i := 0) rfl)) all0)).trans K10 (allS (Or.inl (List.mem_of_getElem? (i := 0) rfl)) all0)) (own_mix p_lp (own_pvl p_lc) (show i < n by omega) (own_pvi p_lc (by omega)) ▸ A10) (Or.inr ⟨_, rfl, rfl⟩)
      · refine own_ifN (pc' := 46) X9 dd_prog_7_method_5_43 rfl ((own_lc_nlt hq).1) ?_
        refine own_aload_n (pc' := 47) X9 dd_prog_7_method_5_46 rfl rfl rfl ?_
        refine own_get (pc' := 50) X9 (host := "") (Or.inl (W 30 rfl)) Via.refl f8 dd_prog_7_method_5_47 rfl ?_
        intro T11 X11
        refine own_goto (pc' := 57) X11 dd_prog_7_method_5_50 (by decide) (by decide) ?_
        rw [show ceil = own_pv ceil (rs.getD i 0) from by unfold own_pv; rw [if_neg hq]]
        refine own_lastoreM (pc' := 58) (i := i) X11 p_ap (own_i32 (by omega)) (by simp; omega) p_nap dd_prog_7_method_5_57 rfl ?_
        intro T12 h12 X12 K12 A12
        refine own_iinc (pc' := 61) X12 dd_prog_7_method_5_58 rfl rfl (z := (1 : Int32)) (by decide) (r := (Int32.ofNat (i + 1))) (own_inc i) (Ls' := #[.val (.ref a), .val (.ref rc), .val (.long (0 : Int64)), .second, .val (.int (Int32.ofNat (i + 1))), .val (.long (if (rs.getD i 0) < (0 : Int64) then (0 : Int64) else (rs.getD i 0))), .second]) rfl ?_
        refine own_goto (pc' := 8) X12 dd_prog_7_method_5_61 (by decide) (by decide) ?_
        exact ih (i + 1) (by omega) _ _ X12 (((Keep.refl hS [ap]).trans KK (allS (Or.inl (List.mem_of_getElem? (i := 0) rfl)) all0)).trans K12 (allS (Or.inl (List.mem_of_getElem? (i := 0) rfl)) all0)) (own_mix p_lp (own_pvl p_lc) (show i < n by omega) (own_pvi p_lc (by omega)) ▸ A12) (Or.inr ⟨_, rfl, rfl⟩)
    · refine own_iload (pc' := 10) X0 dd_prog_7_method_5_8 rfl rfl ?_
      refine own_aload_n (pc' := 11) X0 dd_prog_7_method_5_10 rfl rfl rfl ?_
      have f13 := (p_N_radius.keep KK (ninS p_ne3 nin0))
      refine own_get (pc' := 14) X0 (host := "") (Or.inl (W 39 rfl)) Via.refl f13 dd_prog_7_method_5_11 rfl ?_
      intro T14 X14
      have f15 := (p_ar.keep KK (ninS p_ne1 nin0))
      refine own_arraylength (pc' := 15) (z := (Int32.ofNat n)) X14 f15 (by rw [List.length_map, p_lr]) dd_prog_7_method_5_14 rfl ?_
      refine own_icmpN (pc' := 18) X14 dd_prog_7_method_5_15 rfl ((tlt (own_i32lt (show i < n by omega) (by omega))).2.1) ?_
      refine own_aload_n (pc' := 19) X14 dd_prog_7_method_5_18 rfl rfl rfl ?_
      refine own_iload (pc' := 21) X14 dd_prog_7_method_5_19 rfl rfl ?_
      have f16 := (p_rc.keep KK (ninS p_ne2 nin0))
      refine own_laloadM (pc' := 22) (i := i) (x := (rs.getD i 0)) X14 f16 (own_i32 (by omega)) (by omega) rfl dd_prog_7_method_5_21 rfl ?_
      refine own_lconst (pc' := 23) X14 dd_prog_7_method_5_22 rfl (z := (0 : Int64)) (by decide) ?_
      refine own_callSM (pc' := 26) (cells' := 0) (slots' := 0) (argsL := [(.long (rs.getD i 0)), (.long (0 : Int64))]) (rest := []) (W := 0) (y := (⟨"java/lang/Math", "max", "(JJ)J"⟩ : MethodName)) X14 (W 62 rfl) (W 63 rfl) (by decide) (own_max l Z a0 hw n0 (rs.getD i 0) (0 : Int64) h0 (own_old X14)) (W 64 rfl) (W 28 rfl) (by decide) (by decide) rfl (lenOf pd_0 rfl) rfl rfl dd_prog_7_method_5_23 rfl rfl rfl rfl (by decide) (by decide) ?_
      intro v17 T17 h17 X17 q17
      obtain ⟨rfl, rfl⟩ := q17
      show G T17 (mkF m 26 #[.val (.ref a), .val (.ref rc), .val (.long (0 : Int64)), .second, .val (.int (Int32.ofNat i)), .val (.long q), .second] [(.long (if (rs.getD i 0) < (0 : Int64) then (0 : Int64) else (rs.getD i 0)))])
      refine own_lstore (pc' := 28) X17 dd_prog_7_method_5_26 rfl (Ls' := #[.val (.ref a), .val (.ref rc), .val (.long (0 : Int64)), .second, .val (.int (Int32.ofNat i)), .val (.long (if (rs.getD i 0) < (0 : Int64) then (0 : Int64) else (rs.getD i 0))), .second]) rfl ?_
      refine own_aload_n (pc' := 29) X17 dd_prog_7_method_5_28 rfl rfl rfl ?_
      have f18 := (p_N_proposed.keep KK (ninS p_ne3 nin0))
      refine own_get (pc' := 32) X17 (host := "") (Or.inl (W 41 rfl)) Via.refl f18 dd_prog_7_method_5_29 rfl ?_
      intro T19 X19
      refine own_iload (pc' := 34) X19 dd_prog_7_method_5_32 rfl rfl ?_
      refine own_lload_n (pc' := 35) X19 dd_prog_7_method_5_34 rfl rfl ?_
      refine own_aload_n (pc' := 36) X19 dd_prog_7_method_5_35 rfl rfl rfl ?_
      have f20 := (p_N_ceiling.keep KK (ninS p_ne3 nin0))
      refine own_get (pc' := 39) X19 (host := "") (Or.inl (W 30 rfl)) Via.refl f20 dd_prog_7_method_5_36 rfl ?_
      intro T21 X21
      refine own_lload (pc' := 41) X21 dd_prog_7_method_5_39 rfl rfl ?_
      refine own_lsub (pc' := 42) X21 dd_prog_7_method_5_41 rfl (r := (ceil - (if (rs.getD i 0) < (0 : Int64) then (0 : Int64) else (rs.getD i 0)))) rfl ?_
      refine own_lcmp (pc' := 43) X21 dd_prog_7_method_5_42 rfl ?_
      by_cases hq : (0 : Int64) < (ceil - (if (rs.getD i 0) < (0 : Int64) then (0 : Int64) else (rs.getD i 0)))
      · refine own_ifY (pc' := 53) X21 dd_prog_7_method_5_43 ((own_lc_lt hq).1) (by decide) (by decide) ?_
        refine own_lload (pc' := 55) X21 dd_prog_7_method_5_53 rfl rfl ?_
        refine own_lload_n (pc' := 56) X21 dd_prog_7_method_5_55 rfl rfl ?_
        refine own_ladd (pc' := 57) X21 dd_prog_7_method_5_56 rfl (r := ((if (rs.getD i 0) < (0 : Int64) then (0 : Int64) else (rs.getD i 0)) + (0 : Int64))) rfl ?_
        rw [show ((if (rs.getD i 0) < (0 : Int64) then (0 : Int64) else (rs.getD i 0)) + (0 : Int64)) = own_pv ceil (rs.getD i 0) from by unfold own_pv; rw [if_pos hq]]
        refine own_lastoreM (pc' := 58) (i := i) X21 p_ap (own_i32 (by omega)) (by simp; omega) p_nap dd_prog_7_method_5_57 rfl ?_
        intro T22 h22 X22 K22 A22
        refine own_iinc (pc' := 61) X22 dd_prog_7_method_5_58 rfl rfl (z := (1 : Int32)) (by decide) (r := (Int32.ofNat (i + 1))) (own_inc i) (Ls' := #[.val (.ref a), .val (.ref rc), .val (.long (0 : Int64)), .second, .val (.int (Int32.ofNat (i + 1))), .val (.long (if (rs.getD i 0) < (0 : Int64) then (0 : Int64) else (rs.getD i 0))), .second]) rfl ?_
        refine own_goto (pc' := 8) X22 dd_prog_7_method_5_61 (by decide) (by decide) ?_
        exact ih (i + 1) (by omega) _ _ X22 (((Keep.refl hS [ap]).trans KK (allS (Or.inl (List.mem_of_getElem? (i := 0) rfl)) all0)).trans K22 (allS (Or.inl (List.mem_of_getElem? (i := 0) rfl)) all0)) (own_mix p_lp (own_pvl p_lc) (show i < n by omega) (own_pvi p_lc (by omega)) ▸ A22) (Or.inr ⟨_, rfl, rfl⟩)
      · refine own_ifN (pc' := 46) X21 dd_prog_7_method_5_43 rfl ((own_lc_nlt hq).1) ?_
        refine own_aload_n (pc' := 47) X21 dd_prog_7_method_5_46 rfl rfl rfl ?_
        refine own_get (pc' := 50) X21 (host := "") (Or.inl (W 30 rfl)) Via.refl f20 dd_prog_7_method_5_47 rfl ?_
        intro T23 X23
        refine own_goto (pc' := 57) X23 dd_prog_7_method_5_50 (by decide) (by decide) ?_
        rw [show ceil = own_pv ceil (rs.getD i 0) from by unfold own_pv; rw [if_neg hq]]
        refine own_lastoreM (pc' := 58) (i := i) X23 p_ap (own_i32 (by omega)) (by simp; omega) p_nap dd_prog_7_method_5_57 rfl ?_
        intro T24 h24 X24 K24 A24
        refine own_iinc (pc' := 61) X24 dd_prog_7_method_5_58 rfl rfl (z := (1 : Int32)) (by decide) (r := (Int32.ofNat (i + 1))) (own_inc i) (Ls' := #[.val (.ref a), .val (.ref rc), .val (.long (0 : Int64)), .second, .val (.int (Int32.ofNat (i + 1))), .val (.long (if (rs.getD i 0) < (0 : Int64) then (0 : Int64) else (rs.getD i 0))), .second]) rfl ?_
        refine own_goto (pc' := 8) X24 dd_prog_7_method_5_61 (by decide) (by decide) ?_
        exact ih (i + 1) (by omega) _ _ X24 (((Keep.refl hS [ap]).trans KK (allS (Or.inl (List.mem_of_getElem? (i := 0) rfl)) all0)).trans K24 (allS (Or.inl (List.mem_of_getElem? (i := 0) rfl)) all0)) (own_mix p_lp (own_pvl p_lc) (show i < n by omega) (own_pvi p_lc (by omega)) ▸ A24) (Or.inr ⟨_, rfl, rfl⟩)
theorem dd_prog_7_method_5_0 : decode prog_7_method_5_code 0 = .ok (.aload_n 0, 1) := by decide +kernel
theorem dd_prog_7_method_5_1 : decode prog_7_method_5_code 1 = .ok (.iconst 0, 1) := by decide +kernel
theorem dd_prog_7_method_5_2 : decode prog_7_method_5_code 2 = .ok (.putfield 65, 3) := by decide +kernel
theorem dd_prog_7_method_5_5 : decode prog_7_method_5_code 5 = .ok (.iconst 0, 1) := by decide +kernel
theorem dd_prog_7_method_5_6 : decode prog_7_method_5_code 6 = .ok (.istore 4, 2) := by decide +kernel
theorem dd_prog_7_method_5_64 : decode prog_7_method_5_code 64 = .ok (.aload_n 0, 1) := by decide +kernel
theorem dd_prog_7_method_5_65 : decode prog_7_method_5_code 65 = .ok (.getfield 56, 3) := by decide +kernel
theorem dd_prog_7_method_5_68 : decode prog_7_method_5_code 68 = .ok (.iconst 0, 1) := by decide +kernel
theorem dd_prog_7_method_5_69 : decode prog_7_method_5_code 69 = .ok (.invokestatic 72, 3) := by decide +kernel
theorem pd_7 : parseMethodDescriptor "([II)V" = some ⟨[(.array .int), .int], none⟩ := by decide +kernel
theorem dd_prog_7_method_5_72 : decode prog_7_method_5_code 72 = .ok (.aload_n 0, 1) := by decide +kernel
theorem dd_prog_7_method_5_73 : decode prog_7_method_5_code 73 = .ok (.lconst 0, 1) := by decide +kernel
theorem dd_prog_7_method_5_74 : decode prog_7_method_5_code 74 = .ok (.putfield 78, 3) := by decide +kernel
theorem dd_prog_7_method_5_77 : decode prog_7_method_5_code 77 = .ok (.aload_n 0, 1) := by decide +kernel
theorem dd_prog_7_method_5_78 : decode prog_7_method_5_code 78 = .ok (.iconst 1, 1) := by decide +kernel
theorem dd_prog_7_method_5_79 : decode prog_7_method_5_code 79 = .ok (.putfield 81, 3) := by decide +kernel
theorem dd_prog_7_method_5_82 : decode prog_7_method_5_code 82 = .ok (.return_, 1) := by decide +kernel
theorem ef_own_prop (m : MethodId) (x0 : Addr) (x1 : Addr) (x2 : Int64) : entryFrame m #[(.ref x0), (.ref x1), (.long x2)] 7 = mkF m 0 #[.val (.ref x0), .val (.ref x1), .val (.long x2), .second, .unset, .unset, .unset] [] := by first | (simp [entryFrame, mkF, argsToLocals, Value.category]; done) | rfl
set_option maxRecDepth 65536 in
set_option maxHeartbeats 40000000 in
theorem own_prop (l : Launch) (Z : State) (a0 : Array Value) (hw : ∀ d ∈ tables_1, d.before a0 Z = true) (n0 : Nat) (a rc : Addr) (kr kp kc krc : ClassId) (xr xp rs : List Int64) (xc : List Int32) (n : Nat) (cc bits : Int32) (ceil cap : Int64) (ar ap as_ ac : Addr) (tl : Int64) (tg bt : Int32) (en : Value) (h0 : Heap) (O0 : Old Z n0 h0) (p_N : own_NC Z h0 a cc bits ceil cap ar ap as_ ac tl tg bt en) (p_ar : own_Arr Z h0 ar kr .long (xr.map Value.long)) (p_ap : own_Arr Z h0 ap kp .long (xp.map Value.long)) (p_ac : own_Arr Z h0 ac kc .int (xc.map Value.int)) (p_rc : own_Arr Z h0 rc krc .long (rs.map Value.long)) (p_ne1 : ar ≠ ap) (p_ne2 : rc ≠ ap) (p_na : n0 ≤ a) (p_nap : n0 ≤ ap) (p_nac : n0 ≤ ac) (p_lr : xr.length = n) (p_lp : xp.length = n) (p_lcn : xc.length = n) (p_lc : n ≤ rs.length) (p_b : n < 1000) :
    own_Met l Z n0 (⟨"com/example/kentro/kentro/bound/NearestCandidates", "propose", "([JJ)V"⟩ : MethodName) prog_7_method_5_code 7 none ({ frames := 1, cells := 0, slots := 0, locals := 20 } : Room) #[(.ref a), (.ref rc), (.long (0 : Int64))] h0 (fun v h => v = none ∧ Keep h0 h [a, ap, ac] ∧ own_NC Z h a cc bits ceil cap ar ap as_ ac (0 : Int64) (1 : Int32) (0 : Int32) en ∧ own_Arr Z h ap kp .long (((rs.take n).map (own_pv ceil)).map Value.long) ∧ own_Arr Z h ac kc .int ((List.replicate n (0 : Int32)).map Value.int)) := by
  refine own_enter (own := "com/example/kentro/kentro/bound/NearestCandidates") (nm := "propose") (plainFor_of_name pn_4) rfl rfl O0 ?_
  have W : ∀ (k : Nat) {d : Jvm.Cond}, tables_1[k]? = some d → d.before a0 Z = true := fun k d q => hw d (List.mem_of_getElem? q)
  intro G p e s m below meth c T0 hGe X0
  rw [ef_own_prop m a rc ((0 : Int64))]
  obtain ⟨p_N_E, p_N_candidateCount, p_N_bits, p_N_ceiling, p_N_capacity, p_N_radius, p_N_proposed, p_N_start, p_N_count, p_N_tallied, p_N_tallying, p_N_built, p_N_entry⟩ := p_N
  refine own_aload_n (pc' := 1) X0 dd_prog_7_method_5_0 rfl rfl rfl ?_
  refine own_iconst (pc' := 2) X0 dd_prog_7_method_5_1 rfl (z := (0 : Int32)) (by decide) ?_
  refine own_put (pc' := 5) X0 (host := "") (Or.inl (W 60 rfl)) Via.refl p_N_built p_N_E (Or.inl (W 61 rfl)) (W 5 rfl) (ty := .boolean) (by decide) rfl rfl p_na dd_prog_7_method_5_2 rfl ?_
  intro T1 h1 X1 W1 K1
  have f1_ := p_N_built.same W1
  refine own_iconst (pc' := 6) X1 dd_prog_7_method_5_5 rfl (z := (0 : Int32)) (by decide) ?_
  refine own_istore (pc' := 8) X1 dd_prog_7_method_5_6 rfl (Ls' := #[.val (.ref a), .val (.ref rc), .val (.long (0 : Int64)), .second, .val (.int (0 : Int32)), .unset, .unset]) rfl ?_
  have ne_a_ap : a ≠ ap := own_neA p_N_E (W 5 rfl) p_ap
  have f2 := (p_N_E.keep K1)
  have f3 := (p_N_candidateCount.other W1 (Or.inr (slot_ne (Or.inr (W 15 rfl)) (Or.inl (W 61 rfl)) (by decide) (t := .int) (t' := .boolean) (by decide) (by decide))))
  have f4 := (p_N_bits.other W1 (Or.inr (slot_ne (Or.inr (W 22 rfl)) (Or.inl (W 61 rfl)) (by decide) (t := .int) (t' := .boolean) (by decide) (by decide))))
  have f5 := (p_N_ceiling.other W1 (Or.inr (slot_ne (Or.inr (W 31 rfl)) (Or.inl (W 61 rfl)) (by decide) (t := .long) (t' := .boolean) (by decide) (by decide))))
  have f6 := (p_N_capacity.other W1 (Or.inr (slot_ne (Or.inr (W 38 rfl)) (Or.inl (W 61 rfl)) (by decide) (t := .long) (t' := .boolean) (by decide) (by decide))))
  have f7 := (p_N_radius.other W1 (Or.inr (slot_ne (Or.inr (W 40 rfl)) (Or.inl (W 61 rfl)) (by decide) (t := (.array .long)) (t' := .boolean) (by decide) (by decide))))
  have f8 := (p_N_proposed.other W1 (Or.inr (slot_ne (Or.inr (W 42 rfl)) (Or.inl (W 61 rfl)) (by decide) (t := (.array .long)) (t' := .boolean) (by decide) (by decide))))
  have f9 := (p_N_start.other W1 (Or.inr (slot_ne (Or.inr (W 45 rfl)) (Or.inl (W 61 rfl)) (by decide) (t := (.array .int)) (t' := .boolean) (by decide) (by decide))))
  have f10 := (p_N_count.other W1 (Or.inr (slot_ne (Or.inr (W 47 rfl)) (Or.inl (W 61 rfl)) (by decide) (t := (.array .int)) (t' := .boolean) (by decide) (by decide))))
  have f11 := (p_N_tallied.other W1 (Or.inr (slot_ne (Or.inl (W 70 rfl)) (Or.inl (W 61 rfl)) (by decide) (t := .long) (t' := .boolean) (by decide) (by decide))))
  have f12 := (p_N_tallying.other W1 (Or.inr (slot_ne (Or.inl (W 54 rfl)) (Or.inl (W 61 rfl)) (by decide) (t := .boolean) (t' := .boolean) (by decide) (by decide))))
  have f13 := (p_N_entry.other W1 (Or.inr (slot_ne (Or.inl (W 83 rfl)) (Or.inl (W 61 rfl)) (by decide) (t := (.array .long)) (t' := .boolean) (by decide) (by decide))))
  have ne_a_ar : a ≠ ar := own_neA p_N_E (W 5 rfl) p_ar
  have f14 := (p_ar.keep K1 (ninS (Ne.symm ne_a_ar) nin0))
  have ne_a_rc : a ≠ rc := own_neA p_N_E (W 5 rfl) p_rc
  have f15 := (p_rc.keep K1 (ninS (Ne.symm ne_a_rc) nin0))
  have f16 := (p_ap.keep K1 (ninS (Ne.symm ne_a_ap) nin0))
  refine own_prop_l hw a rc kr kp krc xr xp rs n cc bits ceil cap ar ap as_ ac tl tg (0 : Int32) en ⟨f2, f3, f4, f5, f6, f7, f8, f9, f10, f11, f12, f1_, f13⟩ f14 f15 p_ne1 p_ne2 ne_a_ap p_nap p_lr p_lp p_lc p_b (fun {T8} {h8} s5 s6 X8 K8 A8 p_s => ?_) n 0 (by omega) _ _ X1 (Keep.refl _ _) (by simpa using f16) (Or.inl ⟨rfl, rfl⟩)
  rw [List.take_of_length_le (by rw [own_pvl p_lc]; omega), List.drop_eq_nil_of_le (by omega), List.append_nil] at A8
  refine own_aload_n (pc' := 65) X8 dd_prog_7_method_5_64 rfl rfl rfl ?_
  have f21 := (f10.keep K8 (ninS ne_a_ap nin0))
  refine own_get (pc' := 68) X8 (host := "") (Or.inl (W 46 rfl)) Via.refl f21 dd_prog_7_method_5_65 rfl ?_
  intro T22 X22
  refine own_iconst (pc' := 69) X22 dd_prog_7_method_5_68 rfl (z := (0 : Int32)) (by decide) ?_
  have ne_a_ac : a ≠ ac := own_neA p_N_E (W 5 rfl) p_ac
  have ne_ac_ap : ac ≠ ap := own_neT p_ac p_ap (by decide)
  have f23 := ((p_ac.keep K1 (ninS (Ne.symm ne_a_ac) nin0)).keep K8 (ninS ne_ac_ap nin0))
  refine own_callSM (pc' := 72) (cells' := 0) (slots' := 0) (argsL := [(.ref ac), (.int (0 : Int32))]) (rest := []) (W := 0) (y := (⟨"java/util/Arrays", "fill", "([II)V"⟩ : MethodName)) X22 (W 65 rfl) (W 66 rfl) (by decide) (own_fill l Z a0 hw n0 ac kc (0 : Int32) xc n h8 (own_old X22) p_nac p_lcn (by omega) f23) (W 68 rfl) (W 67 rfl) (by decide) (by decide) rfl (lenOf pd_7 rfl) rfl rfl dd_prog_7_method_5_69 rfl rfl rfl rfl (by decide) (by decide) ?_
  intro v24 T24 h24 X24 q24
  obtain ⟨rfl, K24, A24⟩ := q24
  show G T24 (mkF m 72 #[.val (.ref a), .val (.ref rc), .val (.long (0 : Int64)), .second, .val (.int (Int32.ofNat n)), s5, s6] [])
  refine own_aload_n (pc' := 73) X24 dd_prog_7_method_5_72 rfl rfl rfl ?_
  refine own_lconst (pc' := 74) X24 dd_prog_7_method_5_73 rfl (z := (0 : Int64)) (by decide) ?_
  have f25 := ((f11.keep K8 (ninS ne_a_ap nin0)).keep K24 (ninS ne_a_ac nin0))
  have f26 := ((f2.keep K8).keep K24)
  refine own_put (pc' := 77) X24 (host := "") (Or.inl (W 69 rfl)) Via.refl f25 f26 (Or.inl (W 70 rfl)) (W 5 rfl) (ty := .long) (by decide) rfl rfl p_na dd_prog_7_method_5_74 rfl ?_
  intro T27 h27 X27 W27 K27
  have f27_ := f25.same W27
  refine own_aload_n (pc' := 78) X27 dd_prog_7_method_5_77 rfl rfl rfl ?_
  refine own_iconst (pc' := 79) X27 dd_prog_7_method_5_78 rfl (z := (1 : Int32)) (by decide) ?_
  have f28 := (((f12.keep K8 (ninS ne_a_ap nin0)).keep K24 (ninS ne_a_ac nin0)).other W27 (Or.inr (slot_ne (Or.inl (W 54 rfl)) (Or.inl (W 70 rfl)) (by decide) (t := .boolean) (t' := .long) (by decide) (by decide))))
  have f29 := (f26.keep K27)
  refine own_put (pc' := 82) X27 (host := "") (Or.inl (W 53 rfl)) Via.refl f28 f29 (Or.inl (W 54 rfl)) (W 5 rfl) (ty := .boolean) (by decide) rfl rfl p_na dd_prog_7_method_5_79 rfl ?_
  intro T30 h30 X30 W30 K30
  have f30_ := f28.same W30
  have f31 := (f29.keep K30)
  have f32 := ((((f3.keep K8 (ninS ne_a_ap nin0)).keep K24 (ninS ne_a_ac nin0)).other W27 (Or.inr (slot_ne (Or.inr (W 15 rfl)) (Or.inl (W 70 rfl)) (by decide) (t := .int) (t' := .long) (by decide) (by decide)))).other W30 (Or.inr (slot_ne (Or.inr (W 15 rfl)) (Or.inl (W 54 rfl)) (by decide) (t := .int) (t' := .boolean) (by decide) (by decide))))
  have f33 := ((((f4.keep K8 (ninS ne_a_ap nin0)).keep K24 (ninS ne_a_ac nin0)).other W27 (Or.inr (slot_ne (Or.inr (W 22 rfl)) (Or.inl (W 70 rfl)) (by decide) (t := .int) (t' := .long) (by decide) (by decide)))).other W30 (Or.inr (slot_ne (Or.inr (W 22 rfl)) (Or.inl (W 54 rfl)) (by decide) (t := .int) (t' := .boolean) (by decide) (by decide))))
  have f34 := ((((f5.keep K8 (ninS ne_a_ap nin0)).keep K24 (ninS ne_a_ac nin0)).other W27 (Or.inr (slot_ne (Or.inr (W 31 rfl)) (Or.inl (W 70 rfl)) (by decide) (t := .long) (t' := .long) (by decide) (by decide)))).other W30 (Or.inr (slot_ne (Or.inr (W 31 rfl)) (Or.inl (W 54 rfl)) (by decide) (t := .long) (t' := .boolean) (by decide) (by decide))))
  have f35 := ((((f6.keep K8 (ninS ne_a_ap nin0)).keep K24 (ninS ne_a_ac nin0)).other W27 (Or.inr (slot_ne (Or.inr (W 38 rfl)) (Or.inl (W 70 rfl)) (by decide) (t := .long) (t' := .long) (by decide) (by decide)))).other W30 (Or.inr (slot_ne (Or.inr (W 38 rfl)) (Or.inl (W 54 rfl)) (by decide) (t := .long) (t' := .boolean) (by decide) (by decide))))
  have f36 := ((((f7.keep K8 (ninS ne_a_ap nin0)).keep K24 (ninS ne_a_ac nin0)).other W27 (Or.inr (slot_ne (Or.inr (W 40 rfl)) (Or.inl (W 70 rfl)) (by decide) (t := (.array .long)) (t' := .long) (by decide) (by decide)))).other W30 (Or.inr (slot_ne (Or.inr (W 40 rfl)) (Or.inl (W 54 rfl)) (by decide) (t := (.array .long)) (t' := .boolean) (by decide) (by decide))))
  have f37 := ((((f8.keep K8 (ninS ne_a_ap nin0)).keep K24 (ninS ne_a_ac nin0)).other W27 (Or.inr (slot_ne (Or.inr (W 42 rfl)) (Or.inl (W 70 rfl)) (by decide) (t := (.array .long)) (t' := .long) (by decide) (by decide)))).other W30 (Or.inr (slot_ne (Or.inr (W 42 rfl)) (Or.inl (W 54 rfl)) (by decide) (t := (.array .long)) (t' := .boolean) (by decide) (by decide))))
  have f38 := ((((f9.keep K8 (ninS ne_a_ap nin0)).keep K24 (ninS ne_a_ac nin0)).other W27 (Or.inr (slot_ne (Or.inr (W 45 rfl)) (Or.inl (W 70 rfl)) (by decide) (t := (.array .int)) (t' := .long) (by decide) (by decide)))).other W30 (Or.inr (slot_ne (Or.inr (W 45 rfl)) (Or.inl (W 54 rfl)) (by decide) (t := (.array .int)) (t' := .boolean) (by decide) (by decide))))
  have f39 := (((f21.keep K24 (ninS ne_a_ac nin0)).other W27 (Or.inr (slot_ne (Or.inr (W 47 rfl)) (Or.inl (W 70 rfl)) (by decide) (t := (.array .int)) (t' := .long) (by decide) (by decide)))).other W30 (Or.inr (slot_ne (Or.inr (W 47 rfl)) (Or.inl (W 54 rfl)) (by decide) (t := (.array .int)) (t' := .boolean) (by decide) (by decide))))
  have f40 := (f27_.other W30 (Or.inr (slot_ne (Or.inl (W 70 rfl)) (Or.inl (W 54 rfl)) (by decide) (t := .long) (t' := .boolean) (by decide) (by decide))))
  have f41 := ((((f1_.keep K8 (ninS ne_a_ap nin0)).keep K24 (ninS ne_a_ac nin0)).other W27 (Or.inr (slot_ne (Or.inl (W 61 rfl)) (Or.inl (W 70 rfl)) (by decide) (t := .boolean) (t' := .long) (by decide) (by decide)))).other W30 (Or.inr (slot_ne (Or.inl (W 61 rfl)) (Or.inl (W 54 rfl)) (by decide) (t := .boolean) (t' := .boolean) (by decide) (by decide))))
  have f42 := ((((f13.keep K8 (ninS ne_a_ap nin0)).keep K24 (ninS ne_a_ac nin0)).other W27 (Or.inr (slot_ne (Or.inl (W 83 rfl)) (Or.inl (W 70 rfl)) (by decide) (t := (.array .long)) (t' := .long) (by decide) (by decide)))).other W30 (Or.inr (slot_ne (Or.inl (W 83 rfl)) (Or.inl (W 54 rfl)) (by decide) (t := (.array .long)) (t' := .boolean) (by decide) (by decide))))
  have f43 := (((A8.keep K24 (ninS (Ne.symm ne_ac_ap) nin0)).keep K27 (ninS (Ne.symm ne_a_ap) nin0)).keep K30 (ninS (Ne.symm ne_a_ap) nin0))
  have f44 := ((A24.keep K27 (ninS (Ne.symm ne_a_ac) nin0)).keep K30 (ninS (Ne.symm ne_a_ac) nin0))
  exact own_retV X30 hGe rfl dd_prog_7_method_5_82 (by decide) (by decide) ⟨rfl, ((((((Keep.refl h0 [a, ap, ac]).trans K1 (allS (Or.inl (List.mem_of_getElem? (i := 0) rfl)) all0)).trans K8 (allS (Or.inl (List.mem_of_getElem? (i := 1) rfl)) all0)).trans K24 (allS (Or.inl (List.mem_of_getElem? (i := 2) rfl)) all0)).trans K27 (allS (Or.inl (List.mem_of_getElem? (i := 0) rfl)) all0)).trans K30 (allS (Or.inl (List.mem_of_getElem? (i := 0) rfl)) all0)), ⟨f31, f32, f33, f34, f35, f36, f37, f38, f39, f40, f30_, f41, f42⟩, f43, f44⟩
def own_S (xc : List Int32) : Nat → Int32
  | 0 => 0
  | k + 1 => own_S xc k + xc.getD k 0
theorem own_YSl (xc : List Int32) (n : Nat) : ((List.range n).map (own_S xc)).length = n := by simp
theorem own_YSi {xc : List Int32} {n i : Nat} (h : i < n) : ((List.range n).map (own_S xc))[i]? = some (own_S xc i) := by simp [h]
theorem own_rdt {α : Type} {xs ys : List α} {i j : Nat} {d y : α} (hj : i < j) (e : ys[i]? = some y) : (ys.take j ++ xs.drop j).getD i d = y := by
  have hl := (List.getElem?_eq_some_iff.mp e).1
  simp only [List.getD, List.getElem?_append, List.length_take]
  rw [if_pos (by omega), List.getElem?_take, if_pos hj, e]; rfl
theorem own_rdd {α : Type} {xs ys : List α} {i n : Nat} {d : α} (hy : ys.length = n) (hi : i ≤ n) : (ys.take i ++ xs.drop i).getD i d = xs.getD i d := by
  simp only [List.getD, List.getElem?_append, List.length_take]
  rw [if_neg (by omega), List.getElem?_drop, show i + (i - min i ys.length) = i by omega]
theorem own_mixl {α : Type} {xs ys : List α} {n i : Nat} (hx : xs.length = n) (hy : ys.length = n) : (ys.take i ++ xs.drop i).length = n := by simp; omega
theorem dd_prog_7_method_7_53 : decode prog_7_method_7_code 53 = .ok (.iload_n 2, 1) := by decide +kernel
theorem dd_prog_7_method_7_54 : decode prog_7_method_7_code 54 = .ok (.aload_n 0, 1) := by decide +kernel
theorem dd_prog_7_method_7_55 : decode prog_7_method_7_code 55 = .ok (.getfield 45, 3) := by decide +kernel
theorem dd_prog_7_method_7_58 : decode prog_7_method_7_code 58 = .ok (.arraylength, 1) := by decide +kernel
theorem dd_prog_7_method_7_59 : decode prog_7_method_7_code 59 = .ok (.if_icmp .ge 42, 3) := by decide +kernel
theorem dd_prog_7_method_7_62 : decode prog_7_method_7_code 62 = .ok (.aload_n 0, 1) := by decide +kernel
theorem dd_prog_7_method_7_63 : decode prog_7_method_7_code 63 = .ok (.getfield 52, 3) := by decide +kernel
theorem dd_prog_7_method_7_66 : decode prog_7_method_7_code 66 = .ok (.iload_n 2, 1) := by decide +kernel
theorem dd_prog_7_method_7_67 : decode prog_7_method_7_code 67 = .ok (.iconst 1, 1) := by decide +kernel
theorem dd_prog_7_method_7_68 : decode prog_7_method_7_code 68 = .ok (.iadd, 1) := by decide +kernel
theorem dd_prog_7_method_7_69 : decode prog_7_method_7_code 69 = .ok (.aload_n 0, 1) := by decide +kernel
theorem dd_prog_7_method_7_70 : decode prog_7_method_7_code 70 = .ok (.getfield 52, 3) := by decide +kernel
theorem dd_prog_7_method_7_73 : decode prog_7_method_7_code 73 = .ok (.iload_n 2, 1) := by decide +kernel
theorem dd_prog_7_method_7_74 : decode prog_7_method_7_code 74 = .ok (.iaload, 1) := by decide +kernel
theorem dd_prog_7_method_7_75 : decode prog_7_method_7_code 75 = .ok (.aload_n 0, 1) := by decide +kernel
theorem dd_prog_7_method_7_76 : decode prog_7_method_7_code 76 = .ok (.getfield 56, 3) := by decide +kernel
theorem dd_prog_7_method_7_79 : decode prog_7_method_7_code 79 = .ok (.iload_n 2, 1) := by decide +kernel
theorem dd_prog_7_method_7_80 : decode prog_7_method_7_code 80 = .ok (.iaload, 1) := by decide +kernel
theorem dd_prog_7_method_7_81 : decode prog_7_method_7_code 81 = .ok (.iadd, 1) := by decide +kernel
theorem dd_prog_7_method_7_82 : decode prog_7_method_7_code 82 = .ok (.iastore, 1) := by decide +kernel
theorem dd_prog_7_method_7_83 : decode prog_7_method_7_code 83 = .ok (.aload_n 0, 1) := by decide +kernel
theorem dd_prog_7_method_7_84 : decode prog_7_method_7_code 84 = .ok (.getfield 56, 3) := by decide +kernel
theorem dd_prog_7_method_7_87 : decode prog_7_method_7_code 87 = .ok (.iload_n 2, 1) := by decide +kernel
theorem dd_prog_7_method_7_88 : decode prog_7_method_7_code 88 = .ok (.aload_n 0, 1) := by decide +kernel
theorem dd_prog_7_method_7_89 : decode prog_7_method_7_code 89 = .ok (.getfield 52, 3) := by decide +kernel
theorem dd_prog_7_method_7_92 : decode prog_7_method_7_code 92 = .ok (.iload_n 2, 1) := by decide +kernel
theorem dd_prog_7_method_7_93 : decode prog_7_method_7_code 93 = .ok (.iaload, 1) := by decide +kernel
theorem dd_prog_7_method_7_94 : decode prog_7_method_7_code 94 = .ok (.iastore, 1) := by decide +kernel
theorem dd_prog_7_method_7_95 : decode prog_7_method_7_code 95 = .ok (.iinc 2 1, 3) := by decide +kernel
theorem dd_prog_7_method_7_98 : decode prog_7_method_7_code 98 = .ok (.goto (-45), 3) := by decide +kernel
set_option maxRecDepth 65536 in
set_option maxHeartbeats 40000000 in
theorem own_b1_l {G : State → JFrame → Prop} {p : Program} {l : Launch} {e : Env} {s : State} {m : MethodId} {args : Array Value} {below : List Frame} {meth : Method} {c : Code} {Z : State} {a0 : Array Value} {n0 : Nat} {hS : Heap} (hw : ∀ d ∈ tables_1, d.before a0 Z = true) (a dist : Addr) (kr ks kc : ClassId) (xr : List Int64) (xt xc : List Int32) (n : Nat) (cc bits : Int32) (ceil cap : Int64) (ar ap as_ ac : Addr) (tl : Int64) (tg bt : Int32) (en : Value) (p_N : own_NC Z hS a cc bits ceil cap ar ap as_ ac tl tg bt en) (p_ar : own_Arr Z hS ar kr .long (xr.map Value.long)) (p_ne1 : as_ ≠ ac) (p_ne2 : a ≠ as_) (p_ne3 : a ≠ ac) (p_ne4 : ar ≠ as_) (p_ne5 : ar ≠ ac) (p_nas : n0 ≤ as_) (p_nac : n0 ≤ ac) (p_lr : xr.length = n) (p_lt : xt.length = n + 1) (p_lc : xc.length = n) (p_b : n < 1000)
    (kont : ∀ {T0 : State} {h0 : Heap} , own_At G p l e ({ frames := 5, cells := 1, slots := 8, locals := 200 } : Room) s m args below meth c Z n0 "com/example/kentro/kentro/bound/NearestCandidates" "build" prog_7_method_7_code 5 (some .long) T0 h0 1 8 → Keep hS h0 [as_, ac] → (own_Arr Z h0 as_ ks .int ((((List.range (n + 1)).map (own_S xc)).take (n + 1) ++ xt.drop (n + 1)).map Value.int)) → (own_Arr Z h0 ac kc .int ((((List.range n).map (own_S xc)).take n ++ xc.drop n).map Value.int)) → G T0 (mkF m 101 #[.val (.ref a), .val (.ref dist), .val (.int (Int32.ofNat n)), .unset, .unset] [])) :
    ∀ (r i : Nat), i + r = n → ∀ {T0 : State} {h0 : Heap}  (X0 : own_At G p l e ({ frames := 5, cells := 1, slots := 8, locals := 200 } : Room) s m args below meth c Z n0 "com/example/kentro/kentro/bound/NearestCandidates" "build" prog_7_method_7_code 5 (some .long) T0 h0 1 8) (KK : Keep hS h0 [as_, ac]) (p_as : own_Arr Z h0 as_ ks .int ((((List.range (n + 1)).map (own_S xc)).take (i + 1) ++ xt.drop (i + 1)).map Value.int)) (p_ac : own_Arr Z h0 ac kc .int ((((List.range n).map (own_S xc)).take i ++ xc.drop i).map Value.int)), G T0 (mkF m 53 #[.val (.ref a), .val (.ref dist), .val (.int (Int32.ofNat i)), .unset, .unset] []) := by
  have W : ∀ (k : Nat) {d : Jvm.Cond}, tables_1[k]? = some d → d.before a0 Z = true := fun k d q => hw d (List.mem_of_getElem? q)
  intro r
  induction r with
  | zero =>
    intro i hi T0 h0  X0 KK p_as p_ac
    obtain rfl : n = i := by omega
    obtain ⟨p_N_E, p_N_candidateCount, p_N_bits, p_N_ceiling, p_N_capacity, p_N_radius, p_N_proposed, p_N_start, p_N_count, p_N_tallied, p_N_tallying, p_N_built, p_N_entry⟩ := p_N
    refine own_iload_n (pc' := 54) X0 dd_prog_7_method_7_53 rfl rfl ?_
    refine own_aload_n (pc' := 55) X0 dd_prog_7_method_7_54 rfl rfl rfl ?_
    have f1 := (p_N_radius.keep KK (ninS p_ne2 (ninS p_ne3 nin0)))
    refine own_get (pc' := 58) X0 (host := "") (Or.inl (W 39 rfl)) Via.refl f1 dd_prog_7_method_7_55 rfl ?_
    intro T2 X2
    have f3 := (p_ar.keep KK (ninS p_ne4 (ninS p_ne5 nin0)))
    refine own_arraylength (pc' := 59) (z := (Int32.ofNat n)) X2 f3 (by rw [List.length_map, p_lr]) dd_prog_7_method_7_58 rfl ?_
    refine own_icmpY (pc' := 101) X2 dd_prog_7_method_7_59 ((flt (own_i32le (Nat.le_refl _) (by omega))).2.1) (by decide) (by decide) ?_
    exact kont X2 KK p_as p_ac
  | succ r ih =>
    intro i hi T0 h0  X0 KK p_as p_ac
    obtain ⟨p_N_E, p_N_candidateCount, p_N_bits, p_N_ceiling, p_N_capacity, p_N_radius, p_N_proposed, p_N_start, p_N_count, p_N_tallied, p_N_tallying, p_N_built, p_N_entry⟩ := p_N
    refine own_iload_n (pc' := 54) X0 dd_prog_7_method_7_53 rfl rfl ?_
    refine own_aload_n (pc' := 55) X0 dd_prog_7_method_7_54 rfl rfl rfl ?_
    have f1 := (p_N_radius.keep KK (ninS p_ne2 (ninS p_ne3 nin0)))
    refine own_get (pc' := 58) X0 (host := "") (Or.inl (W 39 rfl)) Via.refl f1 dd_prog_7_method_7_55 rfl ?_
    intro T2 X2
    have f3 := (p_ar.keep KK (ninS p_ne4 (ninS p_ne5 nin0)))
    refine own_arraylength (pc' := 59) (z := (Int32.ofNat n)) X2 f3 (by rw [List.length_map, p_lr]) dd_prog_7_method_7_58 rfl ?_
    refine own_icmpN (pc' := 62) X2 dd_prog_7_method_7_59 rfl ((tlt (own_i32lt (show i < n by omega) (by omega))).2.1) ?_
    refine own_aload_n (pc' := 63) X2 dd_prog_7_method_7_62 rfl rfl rfl ?_
    have f4 := (p_N_start.keep KK (ninS p_ne2 (ninS p_ne3 nin0)))
    refine own_get (pc' := 66) X2 (host := "") (Or.inl (W 44 rfl)) Via.refl f4 dd_prog_7_method_7_63 rfl ?_
    intro T5 X5
    refine own_iload_n (pc' := 67) X5 dd_prog_7_method_7_66 rfl rfl ?_
    refine own_iconst (pc' := 68) X5 dd_prog_7_method_7_67 rfl (z := (1 : Int32)) (by decide) ?_
    refine own_iadd (pc' := 69) X5 dd_prog_7_method_7_68 rfl (r := (Int32.ofNat (i + 1))) (own_inc i) ?_
    refine own_aload_n (pc' := 70) X5 dd_prog_7_method_7_69 rfl rfl rfl ?_
    refine own_get (pc' := 73) X5 (host := "") (Or.inl (W 44 rfl)) Via.refl f4 dd_prog_7_method_7_70 rfl ?_
    intro T6 X6
    refine own_iload_n (pc' := 74) X6 dd_prog_7_method_7_73 rfl rfl ?_
    refine own_ialoadM (pc' := 75) (i := i) (x := (own_S xc i)) X6 p_as (own_i32 (by omega)) (by rw [own_mixl p_lt (own_YSl xc (n + 1))]; omega) (own_rdt (Nat.lt_succ_self i) (own_YSi (by omega))) dd_prog_7_method_7_74 rfl ?_
    refine own_aload_n (pc' := 76) X6 dd_prog_7_method_7_75 rfl rfl rfl ?_
    have f7 := (p_N_count.keep KK (ninS p_ne2 (ninS p_ne3 nin0)))
    refine own_get (pc' := 79) X6 (host := "") (Or.inl (W 46 rfl)) Via.refl f7 dd_prog_7_method_7_76 rfl ?_
    intro T8 X8
    refine own_iload_n (pc' := 80) X8 dd_prog_7_method_7_79 rfl rfl ?_
    refine own_ialoadM (pc' := 81) (i := i) (x := (xc.getD i 0)) X8 p_ac (own_i32 (by omega)) (by rw [own_mixl p_lc (own_YSl xc n)]; omega) (own_rdd (own_YSl xc n) (by omega)) dd_prog_7_method_7_80 rfl ?_
    refine own_iadd (pc' := 82) X8 dd_prog_7_method_7_81 rfl (r := (own_S xc (i + 1))) rfl ?_
    refine own_iastoreM (pc' := 83) (i := (i + 1)) X8 p_as (own_i32 (by omega)) (by rw [own_mixl p_lt (own_YSl xc (n + 1))]; omega) p_nas dd_prog_7_method_7_82 rfl ?_
    intro T9 h9 X9 K9 A9
    rw [own_mix p_lt (own_YSl xc (n + 1)) (show i + 1 < n + 1 by omega) (own_YSi (by omega))] at A9
    refine own_aload_n (pc' := 84) X9 dd_prog_7_method_7_83 rfl rfl rfl ?_
    have f10 := (f7.keep K9 (ninS p_ne2 nin0))
    refine own_get (pc' := 87) X9 (host := "") (Or.inl (W 46 rfl)) Via.refl f10 dd_prog_7_method_7_84 rfl ?_
    intro T11 X11
    refine own_iload_n (pc' := 88) X11 dd_prog_7_method_7_87 rfl rfl ?_
    refine own_aload_n (pc' := 89) X11 dd_prog_7_method_7_88 rfl rfl rfl ?_
    have f12 := (f4.keep K9 (ninS p_ne2 nin0))
    refine own_get (pc' := 92) X11 (host := "") (Or.inl (W 44 rfl)) Via.refl f12 dd_prog_7_method_7_89 rfl ?_
    intro T13 X13
    refine own_iload_n (pc' := 93) X13 dd_prog_7_method_7_92 rfl rfl ?_
    refine own_ialoadM (pc' := 94) (i := i) (x := (own_S xc i)) X13 A9 (own_i32 (by omega)) (by rw [own_mixl p_lt (own_YSl xc (n + 1))]; omega) (own_rdt (show i < i + 1 + 1 by omega) (own_YSi (by omega))) dd_prog_7_method_7_93 rfl ?_
    have f14 := (p_ac.keep K9 (ninS (Ne.symm p_ne1) nin0))
    refine own_iastoreM (pc' := 95) (i := i) X13 f14 (own_i32 (by omega)) (by rw [own_mixl p_lc (own_YSl xc n)]; omega) p_nac dd_prog_7_method_7_94 rfl ?_
    intro T15 h15 X15 K15 A15
    refine own_iinc (pc' := 98) X15 dd_prog_7_method_7_95 rfl rfl (z := (1 : Int32)) (by decide) (r := (Int32.ofNat (i + 1))) (own_inc i) (Ls' := #[.val (.ref a), .val (.ref dist), .val (.int (Int32.ofNat (i + 1))), .unset, .unset]) rfl ?_
    refine own_goto (pc' := 53) X15 dd_prog_7_method_7_98 (by decide) (by decide) ?_
    have f16 := (A9.keep K15 (ninS p_ne1 nin0))
    exact ih (i + 1) (by omega) X15 ((((Keep.refl hS [as_, ac]).trans KK (allS (Or.inl (List.mem_of_getElem? (i := 0) rfl)) (allS (Or.inl (List.mem_of_getElem? (i := 1) rfl)) all0))).trans K9 (allS (Or.inl (List.mem_of_getElem? (i := 0) rfl)) all0)).trans K15 (allS (Or.inl (List.mem_of_getElem? (i := 1) rfl)) all0)) f16 (own_mix p_lc (own_YSl xc n) (show i < n by omega) (own_YSi (by omega)) ▸ A15)
theorem dd_prog_7_method_7_183 : decode prog_7_method_7_code 183 = .ok (.iload_n 2, 1) := by decide +kernel
theorem dd_prog_7_method_7_184 : decode prog_7_method_7_code 184 = .ok (.aload_n 0, 1) := by decide +kernel
theorem dd_prog_7_method_7_185 : decode prog_7_method_7_code 185 = .ok (.getfield 45, 3) := by decide +kernel
theorem dd_prog_7_method_7_188 : decode prog_7_method_7_code 188 = .ok (.arraylength, 1) := by decide +kernel
theorem dd_prog_7_method_7_189 : decode prog_7_method_7_code 189 = .ok (.if_icmp .ge 30, 3) := by decide +kernel
theorem dd_prog_7_method_7_192 : decode prog_7_method_7_code 192 = .ok (.aload_n 0, 1) := by decide +kernel
theorem dd_prog_7_method_7_193 : decode prog_7_method_7_code 193 = .ok (.getfield 84, 3) := by decide +kernel
theorem dd_prog_7_method_7_196 : decode prog_7_method_7_code 196 = .ok (.aload_n 0, 1) := by decide +kernel
theorem dd_prog_7_method_7_197 : decode prog_7_method_7_code 197 = .ok (.getfield 52, 3) := by decide +kernel
theorem dd_prog_7_method_7_200 : decode prog_7_method_7_code 200 = .ok (.iload_n 2, 1) := by decide +kernel
theorem dd_prog_7_method_7_201 : decode prog_7_method_7_code 201 = .ok (.iaload, 1) := by decide +kernel
theorem dd_prog_7_method_7_202 : decode prog_7_method_7_code 202 = .ok (.aload_n 0, 1) := by decide +kernel
theorem dd_prog_7_method_7_203 : decode prog_7_method_7_code 203 = .ok (.getfield 52, 3) := by decide +kernel
theorem dd_prog_7_method_7_206 : decode prog_7_method_7_code 206 = .ok (.iload_n 2, 1) := by decide +kernel
theorem dd_prog_7_method_7_207 : decode prog_7_method_7_code 207 = .ok (.iconst 1, 1) := by decide +kernel
theorem dd_prog_7_method_7_208 : decode prog_7_method_7_code 208 = .ok (.iadd, 1) := by decide +kernel
theorem dd_prog_7_method_7_209 : decode prog_7_method_7_code 209 = .ok (.iaload, 1) := by decide +kernel
theorem dd_prog_7_method_7_210 : decode prog_7_method_7_code 210 = .ok (.invokestatic 87, 3) := by decide +kernel
theorem dd_prog_7_method_7_213 : decode prog_7_method_7_code 213 = .ok (.iinc 2 1, 3) := by decide +kernel
theorem dd_prog_7_method_7_216 : decode prog_7_method_7_code 216 = .ok (.goto (-33), 3) := by decide +kernel
set_option maxRecDepth 65536 in
set_option maxHeartbeats 40000000 in
theorem own_b3_l {G : State → JFrame → Prop} {p : Program} {l : Launch} {e : Env} {s : State} {m : MethodId} {args : Array Value} {below : List Frame} {meth : Method} {c : Code} {Z : State} {a0 : Array Value} {n0 : Nat} {hS : Heap} (hw : ∀ d ∈ tables_1, d.before a0 Z = true) (a dist rw : Addr) (cl : Int32) (kr ks ke : ClassId) (xr : List Int64) (xc : List Int32) (n Ln : Nat) (cc bits : Int32) (ceil cap : Int64) (ar ap as_ ac : Addr) (tl : Int64) (tg bt : Int32) (ae : Addr) (p_N : own_NC Z hS a cc bits ceil cap ar ap as_ ac tl tg bt (.ref ae)) (p_ar : own_Arr Z hS ar kr .long (xr.map Value.long)) (p_as : own_Arr Z hS as_ ks .int (((List.range (n + 1)).map (own_S xc)).map Value.int)) (p_ne1 : a ≠ ae) (p_ne2 : ar ≠ ae) (p_ne3 : as_ ≠ ae) (p_nae : n0 ≤ ae) (p_lr : xr.length = n) (p_b : n < 1000) (p_L : Ln < 1000) (p_S : ∀ i, i < n → ∃ f g : Nat, own_S xc i = Int32.ofNat f ∧ own_S xc (i + 1) = Int32.ofNat g ∧ f ≤ g ∧ g ≤ Ln ∧ g ≤ f + 2)
    (kont : ∀ {T0 : State} {h0 : Heap} (es : List Int64), own_At G p l e ({ frames := 5, cells := 1, slots := 8, locals := 200 } : Room) s m args below meth c Z n0 "com/example/kentro/kentro/bound/NearestCandidates" "build" prog_7_method_7_code 5 (some .long) T0 h0 1 8 → Keep hS h0 [ae] → (es.length = Ln) → (own_Arr Z h0 ae ke .long (es.map Value.long)) → G T0 (mkF m 219 #[.val (.ref a), .val (.ref dist), .val (.int (Int32.ofNat n)), .val (.ref rw), .val (.int cl)] [])) :
    ∀ (r i : Nat), i + r = n → ∀ {T0 : State} {h0 : Heap} (es : List Int64) (X0 : own_At G p l e ({ frames := 5, cells := 1, slots := 8, locals := 200 } : Room) s m args below meth c Z n0 "com/example/kentro/kentro/bound/NearestCandidates" "build" prog_7_method_7_code 5 (some .long) T0 h0 1 8) (KK : Keep hS h0 [ae]) (p_le : es.length = Ln) (p_ae : own_Arr Z h0 ae ke .long (es.map Value.long)), G T0 (mkF m 183 #[.val (.ref a), .val (.ref dist), .val (.int (Int32.ofNat i)), .val (.ref rw), .val (.int cl)] []) := by
  have W : ∀ (k : Nat) {d : Jvm.Cond}, tables_1[k]? = some d → d.before a0 Z = true := fun k d q => hw d (List.mem_of_getElem? q)
  intro r
  induction r with
  | zero =>
    intro i hi T0 h0 es X0 KK p_le p_ae
    obtain rfl : n = i := by omega
    obtain ⟨p_N_E, p_N_candidateCount, p_N_bits, p_N_ceiling, p_N_capacity, p_N_radius, p_N_proposed, p_N_start, p_N_count, p_N_tallied, p_N_tallying, p_N_built, p_N_entry⟩ := p_N
    refine own_iload_n (pc' := 184) X0 dd_prog_7_method_7_183 rfl rfl ?_
    refine own_aload_n (pc' := 185) X0 dd_prog_7_method_7_184 rfl rfl rfl ?_
    have f1 := (p_N_radius.keep KK (ninS p_ne1 nin0))
    refine own_get (pc' := 188) X0 (host := "") (Or.inl (W 39 rfl)) Via.refl f1 dd_prog_7_method_7_185 rfl ?_
    intro T2 X2
    have f3 := (p_ar.keep KK (ninS p_ne2 nin0))
    refine own_arraylength (pc' := 189) (z := (Int32.ofNat n)) X2 f3 (by rw [List.length_map, p_lr]) dd_prog_7_method_7_188 rfl ?_
    refine own_icmpY (pc' := 219) X2 dd_prog_7_method_7_189 ((flt (own_i32le (Nat.le_refl _) (by omega))).2.1) (by decide) (by decide) ?_
    exact kont es X2 KK p_le p_ae
  | succ r ih =>
    intro i hi T0 h0 es X0 KK p_le p_ae
    obtain ⟨p_N_E, p_N_candidateCount, p_N_bits, p_N_ceiling, p_N_capacity, p_N_radius, p_N_proposed, p_N_start, p_N_count, p_N_tallied, p_N_tallying, p_N_built, p_N_entry⟩ := p_N
    obtain ⟨f, g, hf, hg, h1, h2, h3⟩ := p_S i (by omega)
    refine own_iload_n (pc' := 184) X0 dd_prog_7_method_7_183 rfl rfl ?_
    refine own_aload_n (pc' := 185) X0 dd_prog_7_method_7_184 rfl rfl rfl ?_
    have f1 := (p_N_radius.keep KK (ninS p_ne1 nin0))
    refine own_get (pc' := 188) X0 (host := "") (Or.inl (W 39 rfl)) Via.refl f1 dd_prog_7_method_7_185 rfl ?_
    intro T2 X2
    have f3 := (p_ar.keep KK (ninS p_ne2 nin0))
    refine own_arraylength (pc' := 189) (z := (Int32.ofNat n)) X2 f3 (by rw [List.length_map, p_lr]) dd_prog_7_method_7_188 rfl ?_
    refine own_icmpN (pc' := 192) X2 dd_prog_7_method_7_189 rfl ((tlt (own_i32lt (show i < n by omega) (by omega))).2.1) ?_
    refine own_aload_n (pc' := 193) X2 dd_prog_7_method_7_192 rfl rfl rfl ?_
    have f4 := (p_N_entry.keep KK (ninS p_ne1 nin0))
    refine own_get (pc' := 196) X2 (host := "") (Or.inl (W 82 rfl)) Via.refl f4 dd_prog_7_method_7_193 rfl ?_
    intro T5 X5
    refine own_aload_n (pc' := 197) X5 dd_prog_7_method_7_196 rfl rfl rfl ?_
    have f6 := (p_N_start.keep KK (ninS p_ne1 nin0))
    refine own_get (pc' := 200) X5 (host := "") (Or.inl (W 44 rfl)) Via.refl f6 dd_prog_7_method_7_197 rfl ?_
    intro T7 X7
    refine own_iload_n (pc' := 201) X7 dd_prog_7_method_7_200 rfl rfl ?_
    have f8 := (p_as.keep KK (ninS p_ne3 nin0))
    refine own_ialoadM (pc' := 202) (i := i) (x := (Int32.ofNat f)) X7 f8 (own_i32 (by omega)) (by rw [own_YSl]; omega) (by rw [← hf]; simp [List.getD, show i < n + 1 by omega]) dd_prog_7_method_7_201 rfl ?_
    refine own_aload_n (pc' := 203) X7 dd_prog_7_method_7_202 rfl rfl rfl ?_
    refine own_get (pc' := 206) X7 (host := "") (Or.inl (W 44 rfl)) Via.refl f6 dd_prog_7_method_7_203 rfl ?_
    intro T9 X9
    refine own_iload_n (pc' := 207) X9 dd_prog_7_method_7_206 rfl rfl ?_
    refine own_iconst (pc' := 208) X9 dd_prog_7_method_7_207 rfl (z := (1 : Int32)) (by decide) ?_
    refine own_iadd (pc' := 209) X9 dd_prog_7_method_7_208 rfl (r := (Int32.ofNat (i + 1))) (own_inc i) ?_
    refine own_ialoadM (pc' := 210) (i := (i + 1)) (x := (Int32.ofNat g)) X9 f8 (own_i32 (by omega)) (by rw [own_YSl]; omega) (by rw [← hg]; simp [List.getD, show i + 1 < n + 1 by omega]) dd_prog_7_method_7_209 rfl ?_
    refine own_callSM (pc' := 213) (cells' := 1) (slots' := 8) (argsL := [(.ref ae), (.int (Int32.ofNat f)), (.int (Int32.ofNat g))]) (rest := []) (W := 0) (y := (⟨"java/util/Arrays", "sort", "([JII)V"⟩ : MethodName)) X9 (W 84 rfl) (W 85 rfl) (by decide) (own_sort l Z a0 hw n0 ae ke es f g h0 (own_old X9) p_nae p_ae h1 (by omega) h3 (by omega)) (W 86 rfl) (W 67 rfl) (by decide) (by decide) rfl (lenOf pd_3 rfl) rfl rfl dd_prog_7_method_7_210 rfl rfl rfl rfl (by decide) (by decide) ?_
    intro v10 T10 h10 X10 q10
    obtain ⟨rfl, K10, es', hxl, A10⟩ := q10
    show G T10 (mkF m 213 #[.val (.ref a), .val (.ref dist), .val (.int (Int32.ofNat i)), .val (.ref rw), .val (.int cl)] [])
    refine own_iinc (pc' := 216) X10 dd_prog_7_method_7_213 rfl rfl (z := (1 : Int32)) (by decide) (r := (Int32.ofNat (i + 1))) (own_inc i) (Ls' := #[.val (.ref a), .val (.ref dist), .val (.int (Int32.ofNat (i + 1))), .val (.ref rw), .val (.int cl)]) rfl ?_
    refine own_goto (pc' := 183) X10 dd_prog_7_method_7_216 (by decide) (by decide) ?_
    exact ih (i + 1) (by omega) es' X10 (((Keep.refl hS [ae]).trans KK (allS (Or.inl (List.mem_of_getElem? (i := 0) rfl)) all0)).trans K10 (allS (Or.inl (List.mem_of_getElem? (i := 0) rfl)) all0)) (by omega) A10
theorem dd_prog_7_method_7_181 : decode prog_7_method_7_code 181 = .ok (.iconst 0, 1) := by decide +kernel
theorem dd_prog_7_method_7_182 : decode prog_7_method_7_code 182 = .ok (.istore_n 2, 1) := by decide +kernel
theorem dd_prog_7_method_7_219 : decode prog_7_method_7_code 219 = .ok (.aload_n 0, 1) := by decide +kernel
theorem dd_prog_7_method_7_220 : decode prog_7_method_7_code 220 = .ok (.getfield 49, 3) := by decide +kernel
theorem dd_prog_7_method_7_223 : decode prog_7_method_7_code 223 = .ok (.iconst 0, 1) := by decide +kernel
theorem dd_prog_7_method_7_224 : decode prog_7_method_7_code 224 = .ok (.aload_n 0, 1) := by decide +kernel
theorem dd_prog_7_method_7_225 : decode prog_7_method_7_code 225 = .ok (.getfield 45, 3) := by decide +kernel
theorem dd_prog_7_method_7_228 : decode prog_7_method_7_code 228 = .ok (.iconst 0, 1) := by decide +kernel
theorem dd_prog_7_method_7_229 : decode prog_7_method_7_code 229 = .ok (.aload_n 0, 1) := by decide +kernel
theorem dd_prog_7_method_7_230 : decode prog_7_method_7_code 230 = .ok (.getfield 45, 3) := by decide +kernel
theorem dd_prog_7_method_7_233 : decode prog_7_method_7_code 233 = .ok (.arraylength, 1) := by decide +kernel
theorem dd_prog_7_method_7_234 : decode prog_7_method_7_code 234 = .ok (.invokestatic 91, 3) := by decide +kernel
theorem dd_prog_7_method_7_237 : decode prog_7_method_7_code 237 = .ok (.aload_n 0, 1) := by decide +kernel
theorem dd_prog_7_method_7_238 : decode prog_7_method_7_code 238 = .ok (.iconst 1, 1) := by decide +kernel
theorem dd_prog_7_method_7_239 : decode prog_7_method_7_code 239 = .ok (.putfield 65, 3) := by decide +kernel
theorem dd_prog_7_method_7_242 : decode prog_7_method_7_code 242 = .ok (.aload_n 0, 1) := by decide +kernel
theorem dd_prog_7_method_7_243 : decode prog_7_method_7_code 243 = .ok (.getfield 7, 3) := by decide +kernel
theorem dd_prog_7_method_7_246 : decode prog_7_method_7_code 246 = .ok (.i2l, 1) := by decide +kernel
theorem dd_prog_7_method_7_247 : decode prog_7_method_7_code 247 = .ok (.aload_n 0, 1) := by decide +kernel
theorem dd_prog_7_method_7_248 : decode prog_7_method_7_code 248 = .ok (.getfield 45, 3) := by decide +kernel
theorem dd_prog_7_method_7_251 : decode prog_7_method_7_code 251 = .ok (.arraylength, 1) := by decide +kernel
theorem dd_prog_7_method_7_252 : decode prog_7_method_7_code 252 = .ok (.i2l, 1) := by decide +kernel
theorem dd_prog_7_method_7_253 : decode prog_7_method_7_code 253 = .ok (.lmul, 1) := by decide +kernel
theorem dd_prog_7_method_7_254 : decode prog_7_method_7_code 254 = .ok (.lreturn, 1) := by decide +kernel
set_option maxRecDepth 65536 in
set_option maxHeartbeats 40000000 in
theorem own_b181 {G : State → JFrame → Prop} {p : Program} {l : Launch} {e : Env} {s : State} {m : MethodId} {args : Array Value} {below : List Frame} {meth : Method} {c : Code} {Z : State} {a0 : Array Value} {n0 : Nat} {T0 : State} {hB : Heap} {h0 : Heap} (hw : ∀ d ∈ tables_1, d.before a0 Z = true) (a dist rw : Addr) (cl : Int32) (kr kp ks ke : ClassId) (xr xp es : List Int64) (xc : List Int32) (n Ln : Nat) (cc bits : Int32) (ceil cap : Int64) (ar ap as_ ac : Addr) (tl : Int64) (ae : Addr)
    (X0 : own_At G p l e ({ frames := 5, cells := 1, slots := 8, locals := 200 } : Room) s m args below meth c Z n0 "com/example/kentro/kentro/bound/NearestCandidates" "build" prog_7_method_7_code 5 (some .long) T0 h0 1 8) (hGe : G = own_Fin p e below s Z n0 (fun v h => v = some (.long (cc.toInt64 * (Int32.ofNat n).toInt64)) ∧ Keep hB h [a, as_, ac, ar] ∧ ∃ (ae : Addr), own_NC Z h a cc bits ceil cap ar ap as_ ac tl 0 1 (.ref ae) ∧ own_Arr Z h ar kr .long (xp.map Value.long) ∧ own_Arr Z h as_ ks .int (((List.range (n + 1)).map (own_S xc)).map Value.int)) ({ frames := 5, cells := 1, slots := 8, locals := 200 } : Room).cells ({ frames := 5, cells := 1, slots := 8, locals := 200 } : Room).slots) (KK : Keep hB h0 [a, as_, ac]) (p_N : own_NC Z h0 a cc bits ceil cap ar ap as_ ac tl (0 : Int32) (0 : Int32) (.ref ae)) (p_ar : own_Arr Z h0 ar kr .long (xr.map Value.long)) (p_ap : own_Arr Z h0 ap kp .long (xp.map Value.long)) (p_as : own_Arr Z h0 as_ ks .int (((List.range (n + 1)).map (own_S xc)).map Value.int)) (p_ae : own_Arr Z h0 ae ke .long (es.map Value.long)) (p_nae : n0 ≤ ae) (p_nar : n0 ≤ ar) (p_na : n0 ≤ a) (p_age : hB.size ≤ ae) (q_ar_ap : ar ≠ ap) (q_ar_ae : ar ≠ ae) (q_ap_ae : ap ≠ ae) (p_lr : xr.length = n) (p_lp : xp.length = n) (p_le : es.length = Ln) (p_b : n < 1000) (p_L : Ln < 1000) (p_S : ∀ i, i < n → ∃ f g : Nat, own_S xc i = Int32.ofNat f ∧ own_S xc (i + 1) = Int32.ofNat g ∧ f ≤ g ∧ g ≤ Ln ∧ g ≤ f + 2) :
    G T0 (mkF m 181 #[.val (.ref a), .val (.ref dist), .val (.int (2 : Int32)), .val (.ref rw), .val (.int cl)] []) := by
  have W : ∀ (k : Nat) {d : Jvm.Cond}, tables_1[k]? = some d → d.before a0 Z = true := fun k d q => hw d (List.mem_of_getElem? q)
  obtain ⟨p_N_E, p_N_candidateCount, p_N_bits, p_N_ceiling, p_N_capacity, p_N_radius, p_N_proposed, p_N_start, p_N_count, p_N_tallied, p_N_tallying, p_N_built, p_N_entry⟩ := p_N
  refine own_iconst (pc' := 182) X0 dd_prog_7_method_7_181 rfl (z := (0 : Int32)) (by decide) ?_
  refine own_istore_n (pc' := 183) X0 dd_prog_7_method_7_182 rfl (Ls' := #[.val (.ref a), .val (.ref dist), .val (.int (0 : Int32)), .val (.ref rw), .val (.int cl)]) rfl ?_
  have ne_a_ae : a ≠ ae := own_neA p_N_E (W 5 rfl) p_ae
  have ne_as__ae : as_ ≠ ae := own_neT p_as p_ae (by decide)
  refine own_b3_l hw a dist rw cl kr ks ke xr xc n Ln cc bits ceil cap ar ap as_ ac tl 0 0 ae ⟨p_N_E, p_N_candidateCount, p_N_bits, p_N_ceiling, p_N_capacity, p_N_radius, p_N_proposed, p_N_start, p_N_count, p_N_tallied, p_N_tallying, p_N_built, p_N_entry⟩ p_ar p_as ne_a_ae q_ar_ae ne_as__ae p_nae p_lr p_b p_L p_S (fun {T1} {h1} es' X1 K1 p_le' A1 => ?_) n 0 (by omega) es X0 (Keep.refl _ _) p_le p_ae
  refine own_aload_n (pc' := 220) X1 dd_prog_7_method_7_219 rfl rfl rfl ?_
  have f21 := (p_N_proposed.keep K1 (ninS ne_a_ae nin0))
  refine own_get (pc' := 223) X1 (host := "") (Or.inl (W 41 rfl)) Via.refl f21 dd_prog_7_method_7_220 rfl ?_
  intro T22 X22
  refine own_iconst (pc' := 224) X22 dd_prog_7_method_7_223 rfl (z := (0 : Int32)) (by decide) ?_
  refine own_aload_n (pc' := 225) X22 dd_prog_7_method_7_224 rfl rfl rfl ?_
  have f23 := (p_N_radius.keep K1 (ninS ne_a_ae nin0))
  refine own_get (pc' := 228) X22 (host := "") (Or.inl (W 39 rfl)) Via.refl f23 dd_prog_7_method_7_225 rfl ?_
  intro T24 X24
  refine own_iconst (pc' := 229) X24 dd_prog_7_method_7_228 rfl (z := (0 : Int32)) (by decide) ?_
  refine own_aload_n (pc' := 230) X24 dd_prog_7_method_7_229 rfl rfl rfl ?_
  refine own_get (pc' := 233) X24 (host := "") (Or.inl (W 39 rfl)) Via.refl f23 dd_prog_7_method_7_230 rfl ?_
  intro T25 X25
  have f26 := (p_ar.keep K1 (ninS q_ar_ae nin0))
  refine own_arraylength (pc' := 234) (z := (Int32.ofNat n)) X25 f26 (by rw [List.length_map, p_lr]) dd_prog_7_method_7_233 rfl ?_
  have f27 := (p_ap.keep K1 (ninS q_ap_ae nin0))
  refine own_arraycopy (pc' := 237) (W := 0) (sp := 0) (dp := 0) (n := n) X25 (W 100 rfl) (W 103 rfl) (W 101 rfl) (W 102 rfl) f27 f26 (Or.inl ⟨rfl, rfl⟩) (by decide) (by decide) (own_i32 (by omega)) (by simp [p_lp]) (by simp [p_lr]) p_nar rfl rfl dd_prog_7_method_7_234 rfl (by decide) (by decide) ?_
  intro T28 h28 X28 K28 A28
  have A28' : own_Arr Z h28 ar kr .long (xp.map Value.long) := by have e := A28; rw [List.take_zero, List.nil_append, List.drop_zero, List.take_of_length_le (by simp [p_lp]), List.drop_eq_nil_of_le (by simp [p_lr]), List.append_nil] at e; exact e
  refine own_aload_n (pc' := 238) X28 dd_prog_7_method_7_237 rfl rfl rfl ?_
  refine own_iconst (pc' := 239) X28 dd_prog_7_method_7_238 rfl (z := (1 : Int32)) (by decide) ?_
  have ne_a_ar : a ≠ ar := own_neA p_N_E (W 5 rfl) p_ar
  have f29 := ((p_N_built.keep K1 (ninS ne_a_ae nin0)).keep K28 (ninS ne_a_ar nin0))
  have f30 := ((p_N_E.keep K1).keep K28)
  refine own_put (pc' := 242) X28 (host := "") (Or.inl (W 60 rfl)) Via.refl f29 f30 (Or.inl (W 61 rfl)) (W 5 rfl) (ty := .boolean) (by decide) rfl rfl p_na dd_prog_7_method_7_239 rfl ?_
  intro T31 h31 X31 W31 K31
  have f31_ := f29.same W31
  refine own_aload_n (pc' := 243) X31 dd_prog_7_method_7_242 rfl rfl rfl ?_
  have f32 := (((p_N_candidateCount.keep K1 (ninS ne_a_ae nin0)).keep K28 (ninS ne_a_ar nin0)).other W31 (Or.inr (slot_ne (Or.inr (W 15 rfl)) (Or.inl (W 61 rfl)) (by decide) (t := .int) (t' := .boolean) (by decide) (by decide))))
  refine own_get (pc' := 246) X31 (host := "") (Or.inl (W 14 rfl)) Via.refl f32 dd_prog_7_method_7_243 rfl ?_
  intro T33 X33
  refine own_i2l (pc' := 247) X33 dd_prog_7_method_7_246 rfl (r := cc.toInt64) rfl ?_
  refine own_aload_n (pc' := 248) X33 dd_prog_7_method_7_247 rfl rfl rfl ?_
  have f34 := ((f23.keep K28 (ninS ne_a_ar nin0)).other W31 (Or.inr (slot_ne (Or.inr (W 40 rfl)) (Or.inl (W 61 rfl)) (by decide) (t := (.array .long)) (t' := .boolean) (by decide) (by decide))))
  refine own_get (pc' := 251) X33 (host := "") (Or.inl (W 39 rfl)) Via.refl f34 dd_prog_7_method_7_248 rfl ?_
  intro T35 X35
  have f36 := (A28'.keep K31 (ninS (Ne.symm ne_a_ar) nin0))
  refine own_arraylength (pc' := 252) (z := (Int32.ofNat n)) X35 f36 (by rw [List.length_map, p_lp]) dd_prog_7_method_7_251 rfl ?_
  refine own_i2l (pc' := 253) X35 dd_prog_7_method_7_252 rfl (r := (Int32.ofNat n).toInt64) rfl ?_
  refine own_lmul (pc' := 254) X35 dd_prog_7_method_7_253 rfl (r := (cc.toInt64 * (Int32.ofNat n).toInt64)) rfl ?_
  have age_ae : hB.size ≤ ae := Nat.le_trans (Nat.le_refl _) p_age
  have f37 := (f30.keep K31)
  have f38 := (((p_N_bits.keep K1 (ninS ne_a_ae nin0)).keep K28 (ninS ne_a_ar nin0)).other W31 (Or.inr (slot_ne (Or.inr (W 22 rfl)) (Or.inl (W 61 rfl)) (by decide) (t := .int) (t' := .boolean) (by decide) (by decide))))
  have f39 := (((p_N_ceiling.keep K1 (ninS ne_a_ae nin0)).keep K28 (ninS ne_a_ar nin0)).other W31 (Or.inr (slot_ne (Or.inr (W 31 rfl)) (Or.inl (W 61 rfl)) (by decide) (t := .long) (t' := .boolean) (by decide) (by decide))))
  have f40 := (((p_N_capacity.keep K1 (ninS ne_a_ae nin0)).keep K28 (ninS ne_a_ar nin0)).other W31 (Or.inr (slot_ne (Or.inr (W 38 rfl)) (Or.inl (W 61 rfl)) (by decide) (t := .long) (t' := .boolean) (by decide) (by decide))))
  have f41 := ((f21.keep K28 (ninS ne_a_ar nin0)).other W31 (Or.inr (slot_ne (Or.inr (W 42 rfl)) (Or.inl (W 61 rfl)) (by decide) (t := (.array .long)) (t' := .boolean) (by decide) (by decide))))
  have f42 := (((p_N_start.keep K1 (ninS ne_a_ae nin0)).keep K28 (ninS ne_a_ar nin0)).other W31 (Or.inr (slot_ne (Or.inr (W 45 rfl)) (Or.inl (W 61 rfl)) (by decide) (t := (.array .int)) (t' := .boolean) (by decide) (by decide))))
  have f43 := (((p_N_count.keep K1 (ninS ne_a_ae nin0)).keep K28 (ninS ne_a_ar nin0)).other W31 (Or.inr (slot_ne (Or.inr (W 47 rfl)) (Or.inl (W 61 rfl)) (by decide) (t := (.array .int)) (t' := .boolean) (by decide) (by decide))))
  have f44 := (((p_N_tallied.keep K1 (ninS ne_a_ae nin0)).keep K28 (ninS ne_a_ar nin0)).other W31 (Or.inr (slot_ne (Or.inl (W 70 rfl)) (Or.inl (W 61 rfl)) (by decide) (t := .long) (t' := .boolean) (by decide) (by decide))))
  have f45 := (((p_N_tallying.keep K1 (ninS ne_a_ae nin0)).keep K28 (ninS ne_a_ar nin0)).other W31 (Or.inr (slot_ne (Or.inl (W 54 rfl)) (Or.inl (W 61 rfl)) (by decide) (t := .boolean) (t' := .boolean) (by decide) (by decide))))
  have f46 := (((p_N_entry.keep K1 (ninS ne_a_ae nin0)).keep K28 (ninS ne_a_ar nin0)).other W31 (Or.inr (slot_ne (Or.inl (W 83 rfl)) (Or.inl (W 61 rfl)) (by decide) (t := (.array .long)) (t' := .boolean) (by decide) (by decide))))
  have ne_as__ar : as_ ≠ ar := own_neT p_as p_ar (by decide)
  have ne_a_as_ : a ≠ as_ := own_neA p_N_E (W 5 rfl) p_as
  have f47 := (((p_as.keep K1 (ninS ne_as__ae nin0)).keep K28 (ninS ne_as__ar nin0)).keep K31 (ninS (Ne.symm ne_a_as_) nin0))
  exact own_ret X35 hGe (t := .long) rfl rfl (Or.inr (Or.inl ⟨rfl, rfl, _, rfl⟩)) dd_prog_7_method_7_254 (by decide) (by decide) ⟨rfl, (((((Keep.refl hB [a, as_, ac, ar]).trans KK (allS (Or.inl (List.mem_of_getElem? (i := 0) rfl)) (allS (Or.inl (List.mem_of_getElem? (i := 1) rfl)) (allS (Or.inl (List.mem_of_getElem? (i := 2) rfl)) all0)))).trans K1 (allS (Or.inr age_ae) all0)).trans K28 (allS (Or.inl (List.mem_of_getElem? (i := 3) rfl)) all0)).trans K31 (allS (Or.inl (List.mem_of_getElem? (i := 0) rfl)) all0)), ae, ⟨f37, f32, f38, f39, f40, f34, f41, f42, f43, f44, f45, f31_, f46⟩, f36, f47⟩
theorem own_t0 {xt xc : List Int32} {n : Nat} (hl : xt.length = n + 1) (h0 : xt.getD 0 0 = 0) : ((List.range (n + 1)).map (own_S xc)).take (0 + 1) ++ xt.drop (0 + 1) = xt := by
  match xt, hl with
  | x :: r, _ =>
    have : x = 0 := by simpa using h0
    subst this
    rw [List.range_succ_eq_map]; simp [own_S]
def own_in (p x : Int64) : Nat := if p < x then 0 else 1
abbrev own_cl (n x y : Nat) : List Int32 := Int32.ofNat x :: Int32.ofNat y :: List.replicate (n - 2) 0
theorem own_cll {n x y : Nat} (h : 2 ≤ n) : (own_cl n x y).length = n := by simp [own_cl]; omega
theorem own_in1 (p x : Int64) : own_in p x ≤ 1 := by unfold own_in; split <;> omega
theorem own_J {tn w : Nat} (h : tn < 1000) (h2 : w < 1000) : Int64.ofNat tn + (Int32.ofNat w).toInt64 = Int64.ofNat (tn + w) := by
  apply Int64.toInt_inj.mp
  have q := c_ladd (Int64.ofNat tn) (Int32.ofNat w).toInt64; have r := rng64 (Int64.ofNat tn + (Int32.ofNat w).toInt64)
  rw [c_i2l, own_i32 (by omega), Int64.toInt_ofNat_of_lt (by omega)] at q; rw [Int64.toInt_ofNat_of_lt (by omega)]; omega
theorem own_Jlt {x y : Nat} (hx : x < 1000) (hy : y < 1000) : Int64.ofNat x < Int64.ofNat y ↔ x < y := by
  rw [Int64.lt_iff_toInt_lt, Int64.toInt_ofNat_of_lt (by omega), Int64.toInt_ofNat_of_lt (by omega)]; omega
theorem own_Ji {x : Nat} (hx : x < 1000) : (Int64.ofNat x).toInt32 = Int32.ofNat x := by
  apply Int32.toInt_inj.mp
  have q := c_l2i (Int64.ofNat x); have r := rng32 (Int64.ofNat x).toInt32
  rw [Int64.toInt_ofNat_of_lt (by omega)] at q; rw [own_i32 (by omega)]; omega
theorem own_S2 (n c0 c1 : Nat) : ∀ k, own_S (own_cl n c0 c1) (k + 2) = Int32.ofNat c0 + Int32.ofNat c1
  | 0 => by simp [own_S, own_cl]
  | k + 1 => by
    show own_S (own_cl n c0 c1) (k + 2) + (own_cl n c0 c1).getD (k + 2) 0 = _
    rw [own_S2 n c0 c1 k]
    have : (own_cl n c0 c1).getD (k + 2) 0 = 0 := by
      simp only [own_cl, List.getD, List.getElem?_cons_succ, List.getElem?_replicate]; split <;> rfl
    rw [this]; simp
theorem own_add32 {x y : Nat} (hx : x < 1000) (hy : y < 1000) : Int32.ofNat x + Int32.ofNat y = Int32.ofNat (x + y) := by
  apply Int32.toInt_inj.mp
  have q := c_iadd (Int32.ofNat x) (Int32.ofNat y); have r := rng32 (Int32.ofNat x + Int32.ofNat y)
  rw [own_i32 (by omega), own_i32 (by omega)] at q; rw [own_i32 (by omega)]; omega
theorem own_Sok {n c0 c1 : Nat} (h0 : c0 ≤ 2) (h1 : c1 ≤ 2) : ∀ i, i < n → ∃ f g : Nat, own_S (own_cl n c0 c1) i = Int32.ofNat f ∧ own_S (own_cl n c0 c1) (i + 1) = Int32.ofNat g ∧ f ≤ g ∧ g ≤ c0 + c1 ∧ g ≤ f + 2 := by
  have e1 : own_S (own_cl n c0 c1) 1 = Int32.ofNat c0 := by simp [own_S, own_cl]
  have e2 : ∀ k, own_S (own_cl n c0 c1) (k + 2) = Int32.ofNat (c0 + c1) := fun k => by rw [own_S2, own_add32 (by omega) (by omega)]
  intro i hi
  match i with
  | 0 => exact ⟨0, c0, rfl, e1, by omega, by omega, by omega⟩
  | 1 => exact ⟨c0, c0 + c1, e1, e2 0, by omega, by omega, by omega⟩
  | k + 2 => exact ⟨c0 + c1, c0 + c1, e2 k, e2 (k + 1), by omega, by omega, by omega⟩
theorem dd_prog_7_method_6_0 : decode prog_7_method_6_code 0 = .ok (.aload_n 0, 1) := by decide +kernel
theorem dd_prog_7_method_6_1 : decode prog_7_method_6_code 1 = .ok (.getfield 81, 3) := by decide +kernel
theorem dd_prog_7_method_6_4 : decode prog_7_method_6_code 4 = .ok (.istore_n 2, 1) := by decide +kernel
theorem dd_prog_7_method_6_5 : decode prog_7_method_6_code 5 = .ok (.aload_n 0, 1) := by decide +kernel
theorem dd_prog_7_method_6_6 : decode prog_7_method_6_code 6 = .ok (.getfield 81, 3) := by decide +kernel
theorem dd_prog_7_method_6_9 : decode prog_7_method_6_code 9 = .ok (.ifCond .eq 82, 3) := by decide +kernel
theorem dd_prog_7_method_6_91 : decode prog_7_method_6_code 91 = .ok (.iload_n 2, 1) := by decide +kernel
theorem dd_prog_7_method_6_92 : decode prog_7_method_6_code 92 = .ok (.ireturn, 1) := by decide +kernel
theorem ef_own_tal0 (m : MethodId) (x0 : Addr) (x1 : Addr) : entryFrame m #[(.ref x0), (.ref x1)] 5 = mkF m 0 #[.val (.ref x0), .val (.ref x1), .unset, .unset, .unset] [] := by first | (simp [entryFrame, mkF, argsToLocals, Value.category]; done) | rfl
set_option maxRecDepth 65536 in
set_option maxHeartbeats 40000000 in
theorem own_tal0 (l : Launch) (Z : State) (a0 : Array Value) (hw : ∀ d ∈ tables_1, d.before a0 Z = true) (n0 : Nat) (a rc : Addr) (cc bits : Int32) (ceil cap : Int64) (ar ap as_ ac : Addr) (tl : Int64) (bt : Int32) (en : Value) (h0 : Heap) (O0 : Old Z n0 h0) (p_N : own_NC Z h0 a cc bits ceil cap ar ap as_ ac tl (0 : Int32) bt en) :
    own_Met l Z n0 (⟨"com/example/kentro/kentro/bound/NearestCandidates", "tally", "([J)Z"⟩ : MethodName) prog_7_method_6_code 5 (some .boolean) ({ frames := 0, cells := 0, slots := 0, locals := 0 } : Room) #[(.ref a), (.ref rc)] h0 (fun v h => v = some (.int 0) ∧ h0 = h) := by
  refine own_enter (own := "com/example/kentro/kentro/bound/NearestCandidates") (nm := "tally") (plainFor_of_name pn_4) rfl rfl O0 ?_
  have W : ∀ (k : Nat) {d : Jvm.Cond}, tables_1[k]? = some d → d.before a0 Z = true := fun k d q => hw d (List.mem_of_getElem? q)
  intro G p e s m below meth c T0 hGe X0
  rw [ef_own_tal0 m a rc]
  obtain ⟨p_N_E, p_N_candidateCount, p_N_bits, p_N_ceiling, p_N_capacity, p_N_radius, p_N_proposed, p_N_start, p_N_count, p_N_tallied, p_N_tallying, p_N_built, p_N_entry⟩ := p_N
  refine own_aload_n (pc' := 1) X0 dd_prog_7_method_6_0 rfl rfl rfl ?_
  refine own_get (pc' := 4) X0 (host := "") (Or.inl (W 53 rfl)) Via.refl p_N_tallying dd_prog_7_method_6_1 rfl ?_
  intro T1 X1
  refine own_istore_n (pc' := 5) X1 dd_prog_7_method_6_4 rfl (Ls' := #[.val (.ref a), .val (.ref rc), .val (.int (0 : Int32)), .unset, .unset]) rfl ?_
  refine own_aload_n (pc' := 6) X1 dd_prog_7_method_6_5 rfl rfl rfl ?_
  refine own_get (pc' := 9) X1 (host := "") (Or.inl (W 53 rfl)) Via.refl p_N_tallying dd_prog_7_method_6_6 rfl ?_
  intro T2 X2
  refine own_ifY (pc' := 91) X2 dd_prog_7_method_6_9 ((teq rfl).1) (by decide) (by decide) ?_
  refine own_iload_n (pc' := 92) X2 dd_prog_7_method_6_91 rfl rfl ?_
  exact own_ret X2 hGe (t := .boolean) rfl rfl (Or.inl ⟨rfl, by simp, _, rfl⟩) dd_prog_7_method_6_92 (by decide) (by decide) ⟨rfl, rfl⟩
theorem dd_prog_7_method_6_12 : decode prog_7_method_6_code 12 = .ok (.iconst 0, 1) := by decide +kernel
theorem dd_prog_7_method_6_13 : decode prog_7_method_6_code 13 = .ok (.istore_n 3, 1) := by decide +kernel
theorem dd_prog_7_method_6_14 : decode prog_7_method_6_code 14 = .ok (.iconst 0, 1) := by decide +kernel
theorem dd_prog_7_method_6_15 : decode prog_7_method_6_code 15 = .ok (.istore 4, 2) := by decide +kernel
theorem dd_prog_7_method_6_17 : decode prog_7_method_6_code 17 = .ok (.iload 4, 2) := by decide +kernel
theorem dd_prog_7_method_6_19 : decode prog_7_method_6_code 19 = .ok (.aload_n 1, 1) := by decide +kernel
theorem dd_prog_7_method_6_20 : decode prog_7_method_6_code 20 = .ok (.arraylength, 1) := by decide +kernel
theorem dd_prog_7_method_6_21 : decode prog_7_method_6_code 21 = .ok (.if_icmp .ge 38, 3) := by decide +kernel
theorem dd_prog_7_method_6_24 : decode prog_7_method_6_code 24 = .ok (.aload_n 1, 1) := by decide +kernel
theorem dd_prog_7_method_6_25 : decode prog_7_method_6_code 25 = .ok (.iload 4, 2) := by decide +kernel
theorem dd_prog_7_method_6_27 : decode prog_7_method_6_code 27 = .ok (.laload, 1) := by decide +kernel
theorem dd_prog_7_method_6_28 : decode prog_7_method_6_code 28 = .ok (.aload_n 0, 1) := by decide +kernel
theorem dd_prog_7_method_6_29 : decode prog_7_method_6_code 29 = .ok (.getfield 49, 3) := by decide +kernel
theorem dd_prog_7_method_6_32 : decode prog_7_method_6_code 32 = .ok (.iload 4, 2) := by decide +kernel
theorem dd_prog_7_method_6_34 : decode prog_7_method_6_code 34 = .ok (.laload, 1) := by decide +kernel
theorem dd_prog_7_method_6_35 : decode prog_7_method_6_code 35 = .ok (.lcmp, 1) := by decide +kernel
theorem dd_prog_7_method_6_36 : decode prog_7_method_6_code 36 = .ok (.ifCond .gt 17, 3) := by decide +kernel
theorem dd_prog_7_method_6_53 : decode prog_7_method_6_code 53 = .ok (.iinc 4 1, 3) := by decide +kernel
theorem dd_prog_7_method_6_56 : decode prog_7_method_6_code 56 = .ok (.goto (-39), 3) := by decide +kernel
theorem dd_prog_7_method_6_59 : decode prog_7_method_6_code 59 = .ok (.aload_n 0, 1) := by decide +kernel
theorem dd_prog_7_method_6_60 : decode prog_7_method_6_code 60 = .ok (.dup, 1) := by decide +kernel
theorem dd_prog_7_method_6_61 : decode prog_7_method_6_code 61 = .ok (.getfield 78, 3) := by decide +kernel
theorem dd_prog_7_method_6_64 : decode prog_7_method_6_code 64 = .ok (.iload_n 3, 1) := by decide +kernel
theorem dd_prog_7_method_6_65 : decode prog_7_method_6_code 65 = .ok (.i2l, 1) := by decide +kernel
theorem dd_prog_7_method_6_66 : decode prog_7_method_6_code 66 = .ok (.ladd, 1) := by decide +kernel
theorem dd_prog_7_method_6_67 : decode prog_7_method_6_code 67 = .ok (.putfield 78, 3) := by decide +kernel
theorem dd_prog_7_method_6_70 : decode prog_7_method_6_code 70 = .ok (.aload_n 0, 1) := by decide +kernel
theorem dd_prog_7_method_6_71 : decode prog_7_method_6_code 71 = .ok (.aload_n 0, 1) := by decide +kernel
theorem dd_prog_7_method_6_72 : decode prog_7_method_6_code 72 = .ok (.getfield 78, 3) := by decide +kernel
theorem dd_prog_7_method_6_75 : decode prog_7_method_6_code 75 = .ok (.aload_n 0, 1) := by decide +kernel
theorem dd_prog_7_method_6_76 : decode prog_7_method_6_code 76 = .ok (.getfield 43, 3) := by decide +kernel
theorem dd_prog_7_method_6_79 : decode prog_7_method_6_code 79 = .ok (.lcmp, 1) := by decide +kernel
theorem dd_prog_7_method_6_80 : decode prog_7_method_6_code 80 = .ok (.ifCond .gt 7, 3) := by decide +kernel
theorem dd_prog_7_method_6_87 : decode prog_7_method_6_code 87 = .ok (.iconst 0, 1) := by decide +kernel
theorem dd_prog_7_method_6_88 : decode prog_7_method_6_code 88 = .ok (.putfield 81, 3) := by decide +kernel
theorem dd_prog_7_method_6_83 : decode prog_7_method_6_code 83 = .ok (.iconst 1, 1) := by decide +kernel
theorem dd_prog_7_method_6_84 : decode prog_7_method_6_code 84 = .ok (.goto 4, 3) := by decide +kernel
theorem dd_prog_7_method_6_39 : decode prog_7_method_6_code 39 = .ok (.aload_n 0, 1) := by decide +kernel
theorem dd_prog_7_method_6_40 : decode prog_7_method_6_code 40 = .ok (.getfield 56, 3) := by decide +kernel
theorem dd_prog_7_method_6_43 : decode prog_7_method_6_code 43 = .ok (.iload 4, 2) := by decide +kernel
theorem dd_prog_7_method_6_45 : decode prog_7_method_6_code 45 = .ok (.dup2, 1) := by decide +kernel
theorem dd_prog_7_method_6_46 : decode prog_7_method_6_code 46 = .ok (.iaload, 1) := by decide +kernel
theorem dd_prog_7_method_6_47 : decode prog_7_method_6_code 47 = .ok (.iconst 1, 1) := by decide +kernel
theorem dd_prog_7_method_6_48 : decode prog_7_method_6_code 48 = .ok (.iadd, 1) := by decide +kernel
theorem dd_prog_7_method_6_49 : decode prog_7_method_6_code 49 = .ok (.iastore, 1) := by decide +kernel
theorem dd_prog_7_method_6_50 : decode prog_7_method_6_code 50 = .ok (.iinc 3 1, 3) := by decide +kernel
theorem ef_own_tal1 (m : MethodId) (x0 : Addr) (x1 : Addr) : entryFrame m #[(.ref x0), (.ref x1)] 5 = mkF m 0 #[.val (.ref x0), .val (.ref x1), .unset, .unset, .unset] [] := by first | (simp [entryFrame, mkF, argsToLocals, Value.category]; done) | rfl
set_option maxRecDepth 65536 in
set_option maxHeartbeats 40000000 in
theorem own_tal1 (l : Launch) (Z : State) (a0 : Array Value) (hw : ∀ d ∈ tables_1, d.before a0 Z = true) (n0 : Nat) (a rc : Addr) (kp kc krc : ClassId) (x0 x1 p0 p1 : Int64) (pr : List Int64) (n cn tn u0 u1 : Nat) (cc bits : Int32) (ceil : Int64) (ar ap as_ ac : Addr) (bt : Int32) (en : Value) (h0 : Heap) (O0 : Old Z n0 h0) (p_N : own_NC Z h0 a cc bits ceil (Int64.ofNat cn) ar ap as_ ac (Int64.ofNat tn) (1 : Int32) bt en) (p_ap : own_Arr Z h0 ap kp .long ((p0 :: p1 :: pr).map Value.long)) (p_ac : own_Arr Z h0 ac kc .int ((own_cl n u0 u1).map Value.int)) (p_rc : own_Arr Z h0 rc krc .long ([x0, x1].map Value.long)) (p_na : n0 ≤ a) (p_nac : n0 ≤ ac) (p_2 : 2 ≤ n) (p_tn : tn < 900) (p_cn : cn < 900) (p_u0 : u0 < 900) (p_u1 : u1 < 900) :
    own_Met l Z n0 (⟨"com/example/kentro/kentro/bound/NearestCandidates", "tally", "([J)Z"⟩ : MethodName) prog_7_method_6_code 5 (some .boolean) ({ frames := 0, cells := 0, slots := 0, locals := 0 } : Room) #[(.ref a), (.ref rc)] h0 (fun v h => v = some (.int 1) ∧ Keep h0 h [a, ac] ∧ own_NC Z h a cc bits ceil (Int64.ofNat cn) ar ap as_ ac (Int64.ofNat (tn + own_in p0 x0 + own_in p1 x1)) (if cn < tn + own_in p0 x0 + own_in p1 x1 then 0 else 1) bt en ∧ own_Arr Z h ac kc .int ((own_cl n (u0 + own_in p0 x0) (u1 + own_in p1 x1)).map Value.int)) := by
  refine own_enter (own := "com/example/kentro/kentro/bound/NearestCandidates") (nm := "tally") (plainFor_of_name pn_4) rfl rfl O0 ?_
  have W : ∀ (k : Nat) {d : Jvm.Cond}, tables_1[k]? = some d → d.before a0 Z = true := fun k d q => hw d (List.mem_of_getElem? q)
  intro G p e s m below meth c T0 hGe X0
  rw [ef_own_tal1 m a rc]
  obtain ⟨p_N_E, p_N_candidateCount, p_N_bits, p_N_ceiling, p_N_capacity, p_N_radius, p_N_proposed, p_N_start, p_N_count, p_N_tallied, p_N_tallying, p_N_built, p_N_entry⟩ := p_N
  refine own_aload_n (pc' := 1) X0 dd_prog_7_method_6_0 rfl rfl rfl ?_
  refine own_get (pc' := 4) X0 (host := "") (Or.inl (W 53 rfl)) Via.refl p_N_tallying dd_prog_7_method_6_1 rfl ?_
  intro T1 X1
  refine own_istore_n (pc' := 5) X1 dd_prog_7_method_6_4 rfl (Ls' := #[.val (.ref a), .val (.ref rc), .val (.int (1 : Int32)), .unset, .unset]) rfl ?_
  refine own_aload_n (pc' := 6) X1 dd_prog_7_method_6_5 rfl rfl rfl ?_
  refine own_get (pc' := 9) X1 (host := "") (Or.inl (W 53 rfl)) Via.refl p_N_tallying dd_prog_7_method_6_6 rfl ?_
  intro T2 X2
  refine own_ifN (pc' := 12) X2 dd_prog_7_method_6_9 rfl ((feq (by decide)).1) ?_
  refine own_iconst (pc' := 13) X2 dd_prog_7_method_6_12 rfl (z := (0 : Int32)) (by decide) ?_
  refine own_istore_n (pc' := 14) X2 dd_prog_7_method_6_13 rfl (Ls' := #[.val (.ref a), .val (.ref rc), .val (.int (1 : Int32)), .val (.int (0 : Int32)), .unset]) rfl ?_
  refine own_iconst (pc' := 15) X2 dd_prog_7_method_6_14 rfl (z := (0 : Int32)) (by decide) ?_
  refine own_istore (pc' := 17) X2 dd_prog_7_method_6_15 rfl (Ls' := #[.val (.ref a), .val (.ref rc), .val (.int (1 : Int32)), .val (.int (0 : Int32)), .val (.int (0 : Int32))]) rfl ?_
  refine own_iload (pc' := 19) X2 dd_prog_7_method_6_17 rfl rfl ?_
  refine own_aload_n (pc' := 20) X2 dd_prog_7_method_6_19 rfl rfl rfl ?_
  refine own_arraylength (pc' := 21) (z := (2 : Int32)) X2 p_rc (by simp) dd_prog_7_method_6_20 rfl ?_
  refine own_icmpN (pc' := 24) X2 dd_prog_7_method_6_21 rfl ((tlt (by decide)).2.1) ?_
  refine own_aload_n (pc' := 25) X2 dd_prog_7_method_6_24 rfl rfl rfl ?_
  refine own_iload (pc' := 27) X2 dd_prog_7_method_6_25 rfl rfl ?_
  refine own_laloadM (pc' := 28) (i := 0) (x := x0) X2 p_rc (by decide) (Nat.le_of_ble_eq_true rfl) rfl dd_prog_7_method_6_27 rfl ?_
  refine own_aload_n (pc' := 29) X2 dd_prog_7_method_6_28 rfl rfl rfl ?_
  refine own_get (pc' := 32) X2 (host := "") (Or.inl (W 41 rfl)) Via.refl p_N_proposed dd_prog_7_method_6_29 rfl ?_
  intro T3 X3
  refine own_iload (pc' := 34) X3 dd_prog_7_method_6_32 rfl rfl ?_
  refine own_laloadM (pc' := 35) (i := 0) (x := p0) X3 p_ap (by decide) (by simp) rfl dd_prog_7_method_6_34 rfl ?_
  refine own_lcmp (pc' := 36) X3 dd_prog_7_method_6_35 rfl ?_
  by_cases hp0 : p0 < x0
  · refine own_ifY (pc' := 53) X3 dd_prog_7_method_6_36 ((own_lc_gt hp0).1) (by decide) (by decide) ?_
    refine own_iinc (pc' := 56) X3 dd_prog_7_method_6_53 rfl rfl (z := (1 : Int32)) (by decide) (r := (1 : Int32)) (by decide) (Ls' := #[.val (.ref a), .val (.ref rc), .val (.int (1 : Int32)), .val (.int (0 : Int32)), .val (.int (1 : Int32))]) rfl ?_
    refine own_goto (pc' := 17) X3 dd_prog_7_method_6_56 (by decide) (by decide) ?_
    refine own_iload (pc' := 19) X3 dd_prog_7_method_6_17 rfl rfl ?_
    refine own_aload_n (pc' := 20) X3 dd_prog_7_method_6_19 rfl rfl rfl ?_
    refine own_arraylength (pc' := 21) (z := (2 : Int32)) X3 p_rc (by simp) dd_prog_7_method_6_20 rfl ?_
    refine own_icmpN (pc' := 24) X3 dd_prog_7_method_6_21 rfl ((tlt (by decide)).2.1) ?_
    refine own_aload_n (pc' := 25) X3 dd_prog_7_method_6_24 rfl rfl rfl ?_
    refine own_iload (pc' := 27) X3 dd_prog_7_method_6_25 rfl rfl ?_
    refine own_laloadM (pc' := 28) (i := 1) (x := x1) X3 p_rc (by decide) (Nat.le_of_ble_eq_true rfl) rfl dd_prog_7_method_6_27 rfl ?_
    refine own_aload_n (pc' := 29) X3 dd_prog_7_method_6_28 rfl rfl rfl ?_
    refine own_get (pc' := 32) X3 (host := "") (Or.inl (W 41 rfl)) Via.refl p_N_proposed dd_prog_7_method_6_29 rfl ?_
    intro T4 X4
    refine own_iload (pc' := 34) X4 dd_prog_7_method_6_32 rfl rfl ?_
    refine own_laloadM (pc' := 35) (i := 1) (x := p1) X4 p_ap (by decide) (by simp) rfl dd_prog_7_method_6_34 rfl ?_
    refine own_lcmp (pc' := 36) X4 dd_prog_7_method_6_35 rfl ?_
    by_cases hp1 : p1 < x1
    · refine own_ifY (pc' := 53) X4 dd_prog_7_method_6_36 ((own_lc_gt hp1).1) (by decide) (by decide) ?_
      refine own_iinc (pc' := 56) X4 dd_prog_7_method_6_53 rfl rfl (z := (1 : Int32)) (by decide) (r := (2 : Int32)) (by decide) (Ls' := #[.val (.ref a), .val (.ref rc), .val (.int (1 : Int32)), .val (.int (0 : Int32)), .val (.int (2 : Int32))]) rfl ?_
      refine own_goto (pc' := 17) X4 dd_prog_7_method_6_56 (by decide) (by decide) ?_
      refine own_iload (pc' := 19) X4 dd_prog_7_method_6_17 rfl rfl ?_
      refine own_aload_n (pc' := 20) X4 dd_prog_7_method_6_19 rfl rfl rfl ?_
      refine own_arraylength (pc' := 21) (z := (2 : Int32)) X4 p_rc (by simp) dd_prog_7_method_6_20 rfl ?_
      refine own_icmpY (pc' := 59) X4 dd_prog_7_method_6_21 ((flt (by decide)).2.1) (by decide) (by decide) ?_
      refine own_aload_n (pc' := 60) X4 dd_prog_7_method_6_59 rfl rfl rfl ?_
      refine own_dup (pc' := 61) X4 dd_prog_7_method_6_60 rfl rfl ?_
      refine own_get (pc' := 64) X4 (host := "") (Or.inl (W 69 rfl)) Via.refl p_N_tallied dd_prog_7_method_6_61 rfl ?_
      intro T5 X5
      refine own_iload_n (pc' := 65) X5 dd_prog_7_method_6_64 rfl rfl ?_
      refine own_i2l (pc' := 66) X5 dd_prog_7_method_6_65 rfl (r := (0 : Int64)) (by decide) ?_
      refine own_ladd (pc' := 67) X5 dd_prog_7_method_6_66 rfl (r := (Int64.ofNat (tn + 0))) (by exact own_J (tn := tn) (w := 0) (by omega) (by omega)) ?_
      refine own_put (pc' := 70) X5 (host := "") (Or.inl (W 69 rfl)) Via.refl p_N_tallied p_N_E (Or.inl (W 70 rfl)) (W 5 rfl) (ty := .long) (by decide) rfl rfl p_na dd_prog_7_method_6_67 rfl ?_
      intro T6 h6 X6 W6 K6
      have f6_ := p_N_tallied.same W6
      refine own_aload_n (pc' := 71) X6 dd_prog_7_method_6_70 rfl rfl rfl ?_
      refine own_aload_n (pc' := 72) X6 dd_prog_7_method_6_71 rfl rfl rfl ?_
      refine own_get (pc' := 75) X6 (host := "") (Or.inl (W 69 rfl)) Via.refl f6_ dd_prog_7_method_6_72 rfl ?_
      intro T7 X7
      refine own_aload_n (pc' := 76) X7 dd_prog_7_method_6_75 rfl rfl rfl ?_
      have f8 := (p_N_capacity.other W6 (Or.inr (slot_ne (Or.inr (W 38 rfl)) (Or.inl (W 70 rfl)) (by decide) (t := .long) (t' := .long) (by decide) (by decide))))
      refine own_get (pc' := 79) X7 (host := "") (Or.inl (W 37 rfl)) Via.refl f8 dd_prog_7_method_6_76 rfl ?_
      intro T9 X9
      refine own_lcmp (pc' := 80) X9 dd_prog_7_method_6_79 rfl ?_
      by_cases hcap : (Int64.ofNat cn) < (Int64.ofNat (tn + 0))
      · refine own_ifY (pc' := 87) X9 dd_prog_7_method_6_80 ((own_lc_gt hcap).1) (by decide) (by decide) ?_
        refine own_iconst (pc' := 88) X9 dd_prog_7_method_6_87 rfl (z := (0 : Int32)) (by decide) ?_
        have f10 := (p_N_tallying.other W6 (Or.inr (slot_ne (Or.inl (W 54 rfl)) (Or.inl (W 70 rfl)) (by decide) (t := .boolean) (t' := .long) (by decide) (by decide))))
        have f11 := (p_N_E.keep K6)
        refine own_put (pc' := 91) X9 (host := "") (Or.inl (W 53 rfl)) Via.refl f10 f11 (Or.inl (W 54 rfl)) (W 5 rfl) (ty := .boolean) (by decide) rfl rfl p_na dd_prog_7_method_6_88 rfl ?_
        intro T12 h12 X12 W12 K12
        have f12_ := f10.same W12
        refine own_iload_n (pc' := 92) X12 dd_prog_7_method_6_91 rfl rfl ?_
        have e0 : own_in p0 x0 = 0 := if_pos hp0
        have e1 : own_in p1 x1 = 0 := if_pos hp1
        have f13 := (f11.keep K12)
        have f14 := ((p_N_candidateCount.other W6 (Or.inr (slot_ne (Or.inr (W 15 rfl)) (Or.inl (W 70 rfl)) (by decide) (t := .int) (t' := .long) (by decide) (by decide)))).other W12 (Or.inr (slot_ne (Or.inr (W 15 rfl)) (Or.inl (W 54 rfl)) (by decide) (t := .int) (t' := .boolean) (by decide) (by decide))))
        have f15 := ((p_N_bits.other W6 (Or.inr (slot_ne (Or.inr (W 22 rfl)) (Or.inl (W 70 rfl)) (by decide) (t := .int) (t' := .long) (by decide) (by decide)))).other W12 (Or.inr (slot_ne (Or.inr (W 22 rfl)) (Or.inl (W 54 rfl)) (by decide) (t := .int) (t' := .boolean) (by decide) (by decide))))
        have f16 := ((p_N_ceiling.other W6 (Or.inr (slot_ne (Or.inr (W 31 rfl)) (Or.inl (W 70 rfl)) (by decide) (t := .long) (t' := .long) (by decide) (by decide)))).other W12 (Or.inr (slot_ne (Or.inr (W 31 rfl)) (Or.inl (W 54 rfl)) (by decide) (t := .long) (t' := .boolean) (by decide) (by decide))))
        have f17 := (f8.other W12 (Or.inr (slot_ne (Or.inr (W 38 rfl)) (Or.inl (W 54 rfl)) (by decide) (t := .long) (t' := .boolean) (by decide) (by decide))))
        have f18 := ((p_N_radius.other W6 (Or.inr (slot_ne (Or.inr (W 40 rfl)) (Or.inl (W 70 rfl)) (by decide) (t := (.array .long)) (t' := .long) (by decide) (by decide)))).other W12 (Or.inr (slot_ne (Or.inr (W 40 rfl)) (Or.inl (W 54 rfl)) (by decide) (t := (.array .long)) (t' := .boolean) (by decide) (by decide))))
        have f19 := ((p_N_proposed.other W6 (Or.inr (slot_ne (Or.inr (W 42 rfl)) (Or.inl (W 70 rfl)) (by decide) (t := (.array .long)) (t' := .long) (by decide) (by decide)))).other W12 (Or.inr (slot_ne (Or.inr (W 42 rfl)) (Or.inl (W 54 rfl)) (by decide) (t := (.array .long)) (t' := .boolean) (by decide) (by decide))))
        have f20 := ((p_N_start.other W6 (Or.inr (slot_ne (Or.inr (W 45 rfl)) (Or.inl (W 70 rfl)) (by decide) (t := (.array .int)) (t' := .long) (by decide) (by decide)))).other W12 (Or.inr (slot_ne (Or.inr (W 45 rfl)) (Or.inl (W 54 rfl)) (by decide) (t := (.array .int)) (t' := .boolean) (by decide) (by decide))))
        have f21 := ((p_N_count.other W6 (Or.inr (slot_ne (Or.inr (W 47 rfl)) (Or.inl (W 70 rfl)) (by decide) (t := (.array .int)) (t' := .long) (by decide) (by decide)))).other W12 (Or.inr (slot_ne (Or.inr (W 47 rfl)) (Or.inl (W 54 rfl)) (by decide) (t := (.array .int)) (t' := .boolean) (by decide) (by decide))))
        have f22 := (f6_.other W12 (Or.inr (slot_ne (Or.inl (W 70 rfl)) (Or.inl (W 54 rfl)) (by decide) (t := .long) (t' := .boolean) (by decide) (by decide))))
        have f23 := ((p_N_built.other W6 (Or.inr (slot_ne (Or.inl (W 61 rfl)) (Or.inl (W 70 rfl)) (by decide) (t := .boolean) (t' := .long) (by decide) (by decide)))).other W12 (Or.inr (slot_ne (Or.inl (W 61 rfl)) (Or.inl (W 54 rfl)) (by decide) (t := .boolean) (t' := .boolean) (by decide) (by decide))))
        have f24 := ((p_N_entry.other W6 (Or.inr (slot_ne (Or.inl (W 83 rfl)) (Or.inl (W 70 rfl)) (by decide) (t := (.array .long)) (t' := .long) (by decide) (by decide)))).other W12 (Or.inr (slot_ne (Or.inl (W 83 rfl)) (Or.inl (W 54 rfl)) (by decide) (t := (.array .long)) (t' := .boolean) (by decide) (by decide))))
        have ne_a_ac : a ≠ ac := own_neA p_N_E (W 5 rfl) p_ac
        have f25 := ((p_ac.keep K6 (ninS (Ne.symm ne_a_ac) nin0)).keep K12 (ninS (Ne.symm ne_a_ac) nin0))
        exact own_ret X12 hGe (t := .boolean) rfl rfl (Or.inl ⟨rfl, by simp, _, rfl⟩) dd_prog_7_method_6_92 (by decide) (by decide) ⟨rfl, (((Keep.refl h0 [a, ac]).trans K6 (allS (Or.inl (List.mem_of_getElem? (i := 0) rfl)) all0)).trans K12 (allS (Or.inl (List.mem_of_getElem? (i := 0) rfl)) all0)), by rw [e0, e1, show tn + 0 + 0 = tn + 0 from by omega, if_pos ((own_Jlt (by omega) (by omega)).mp hcap)]; exact ⟨f13, f14, f15, f16, f17, f18, f19, f20, f21, f22, f12_, f23, f24⟩, by rw [e0, e1]; exact f25⟩
      · refine own_ifN (pc' := 83) X9 dd_prog_7_method_6_80 rfl ((own_lc_ngt hcap).1) ?_
        refine own_iconst (pc' := 84) X9 dd_prog_7_method_6_83 rfl (z := (1 : Int32)) (by decide) ?_
        refine own_goto (pc' := 88) X9 dd_prog_7_method_6_84 (by decide) (by decide) ?_
        have f26 := (p_N_tallying.other W6 (Or.inr (slot_ne (Or.inl (W 54 rfl)) (Or.inl (W 70 rfl)) (by decide) (t := .boolean) (t' := .long) (by decide) (by decide))))
        have f27 := (p_N_E.keep K6)
        refine own_put (pc' := 91) X9 (host := "") (Or.inl (W 53 rfl)) Via.refl f26 f27 (Or.inl (W 54 rfl)) (W 5 rfl) (ty := .boolean) (by decide) rfl rfl p_na dd_prog_7_method_6_88 rfl ?_
        intro T28 h28 X28 W28 K28
        have f28_ := f26.same W28
        refine own_iload_n (pc' := 92) X28 dd_prog_7_method_6_91 rfl rfl ?_
        have e0 : own_in p0 x0 = 0 := if_pos hp0
        have e1 : own_in p1 x1 = 0 := if_pos hp1
        have f29 := (f27.keep K28)
        have f30 := ((p_N_candidateCount.other W6 (Or.inr (slot_ne (Or.inr (W 15 rfl)) (Or.inl (W 70 rfl)) (by decide) (t := .int) (t' := .long) (by decide) (by decide)))).other W28 (Or.inr (slot_ne (Or.inr (W 15 rfl)) (Or.inl (W 54 rfl)) (by decide) (t := .int) (t' := .boolean) (by decide) (by decide))))
        have f31 := ((p_N_bits.other W6 (Or.inr (slot_ne (Or.inr (W 22 rfl)) (Or.inl (W 70 rfl)) (by decide) (t := .int) (t' := .long) (by decide) (by decide)))).other W28 (Or.inr (slot_ne (Or.inr (W 22 rfl)) (Or.inl (W 54 rfl)) (by decide) (t := .int) (t' := .boolean) (by decide) (by decide))))
        have f32 := ((p_N_ceiling.other W6 (Or.inr (slot_ne (Or.inr (W 31 rfl)) (Or.inl (W 70 rfl)) (by decide) (t := .long) (t' := .long) (by decide) (by decide)))).other W28 (Or.inr (slot_ne (Or.inr (W 31 rfl)) (Or.inl (W 54 rfl)) (by decide) (t := .long) (t' := .boolean) (by decide) (by decide))))
        have f33 := (f8.other W28 (Or.inr (slot_ne (Or.inr (W 38 rfl)) (Or.inl (W 54 rfl)) (by decide) (t := .long) (t' := .boolean) (by decide) (by decide))))
        have f34 := ((p_N_radius.other W6 (Or.inr (slot_ne (Or.inr (W 40 rfl)) (Or.inl (W 70 rfl)) (by decide) (t := (.array .long)) (t' := .long) (by decide) (by decide)))).other W28 (Or.inr (slot_ne (Or.inr (W 40 rfl)) (Or.inl (W 54 rfl)) (by decide) (t := (.array .long)) (t' := .boolean) (by decide) (by decide))))
        have f35 := ((p_N_proposed.other W6 (Or.inr (slot_ne (Or.inr (W 42 rfl)) (Or.inl (W 70 rfl)) (by decide) (t := (.array .long)) (t' := .long) (by decide) (by decide)))).other W28 (Or.inr (slot_ne (Or.inr (W 42 rfl)) (Or.inl (W 54 rfl)) (by decide) (t := (.array .long)) (t' := .boolean) (by decide) (by decide))))
        have f36 := ((p_N_start.other W6 (Or.inr (slot_ne (Or.inr (W 45 rfl)) (Or.inl (W 70 rfl)) (by decide) (t := (.array .int)) (t' := .long) (by decide) (by decide)))).other W28 (Or.inr (slot_ne (Or.inr (W 45 rfl)) (Or.inl (W 54 rfl)) (by decide) (t := (.array .int)) (t' := .boolean) (by decide) (by decide))))
        have f37 := ((p_N_count.other W6 (Or.inr (slot_ne (Or.inr (W 47 rfl)) (Or.inl (W 70 rfl)) (by decide) (t := (.array .int)) (t' := .long) (by decide) (by decide)))).other W28 (Or.inr (slot_ne (Or.inr (W 47 rfl)) (Or.inl (W 54 rfl)) (by decide) (t := (.array .int)) (t' := .boolean) (by decide) (by decide))))
        have f38 := (f6_.other W28 (Or.inr (slot_ne (Or.inl (W 70 rfl)) (Or.inl (W 54 rfl)) (by decide) (t := .long) (t' := .boolean) (by decide) (by decide))))
        have f39 := ((p_N_built.other W6 (Or.inr (slot_ne (Or.inl (W 61 rfl)) (Or.inl (W 70 rfl)) (by decide) (t := .boolean) (t' := .long) (by decide) (by decide)))).other W28 (Or.inr (slot_ne (Or.inl (W 61 rfl)) (Or.inl (W 54 rfl)) (by decide) (t := .boolean) (t' := .boolean) (by decide) (by decide))))
        have f40 := ((p_N_entry.other W6 (Or.inr (slot_ne (Or.inl (W 83 rfl)) (Or.inl (W 70 rfl)) (by decide) (t := (.array .long)) (t' := .long) (by decide) (by decide)))).other W28 (Or.inr (slot_ne (Or.inl (W 83 rfl)) (Or.inl (W 54 rfl)) (by decide) (t := (.array .long)) (t' := .boolean) (by decide) (by decide))))
        have ne_a_ac : a ≠ ac := own_neA p_N_E (W 5 rfl) p_ac
        have f41 := ((p_ac.keep K6 (ninS (Ne.symm ne_a_ac) nin0)).keep K28 (ninS (Ne.symm ne_a_ac) nin0))
        exact own_ret X28 hGe (t := .boolean) rfl rfl (Or.inl ⟨rfl, by simp, _, rfl⟩) dd_prog_7_method_6_92 (by decide) (by decide) ⟨rfl, (((Keep.refl h0 [a, ac]).trans K6 (allS (Or.inl (List.mem_of_getElem? (i := 0) rfl)) all0)).trans K28 (allS (Or.inl (List.mem_of_getElem? (i := 0) rfl)) all0)), by rw [e0, e1, show tn + 0 + 0 = tn + 0 from by omega, if_neg (mt (own_Jlt (by omega) (by omega)).mpr hcap)]; exact ⟨f29, f30, f31, f32, f33, f34, f35, f36, f37, f38, f28_, f39, f40⟩, by rw [e0, e1]; exact f41⟩
    · refine own_ifN (pc' := 39) X4 dd_prog_7_method_6_36 rfl ((own_lc_ngt hp1).1) ?_
      refine own_aload_n (pc' := 40) X4 dd_prog_7_method_6_39 rfl rfl rfl ?_
      refine own_get (pc' := 43) X4 (host := "") (Or.inl (W 46 rfl)) Via.refl p_N_count dd_prog_7_method_6_40 rfl ?_
      intro T42 X42
      refine own_iload (pc' := 45) X42 dd_prog_7_method_6_43 rfl rfl ?_
      refine own_dup2 (pc' := 46) X42 dd_prog_7_method_6_45 rfl rfl rfl ?_
      refine own_ialoadM (pc' := 47) (i := 1) (x := (Int32.ofNat u1)) X42 p_ac (by decide) (by simp) rfl dd_prog_7_method_6_46 rfl ?_
      refine own_iconst (pc' := 48) X42 dd_prog_7_method_6_47 rfl (z := (1 : Int32)) (by decide) ?_
      refine own_iadd (pc' := 49) X42 dd_prog_7_method_6_48 rfl (r := (Int32.ofNat (u1 + 1))) (own_inc _) ?_
      refine own_iastoreM (pc' := 50) (i := 1) X42 p_ac (by decide) (by simp) p_nac dd_prog_7_method_6_49 rfl ?_
      intro T43 h43 X43 K43 A43
      have ac1_44 : own_Arr Z h43 ac kc .int ((own_cl n u0 (u1 + 1)).map Value.int) := A43
      refine own_iinc (pc' := 53) X43 dd_prog_7_method_6_50 rfl rfl (z := (1 : Int32)) (by decide) (r := (1 : Int32)) (by decide) (Ls' := #[.val (.ref a), .val (.ref rc), .val (.int (1 : Int32)), .val (.int (1 : Int32)), .val (.int (1 : Int32))]) rfl ?_
      refine own_iinc (pc' := 56) X43 dd_prog_7_method_6_53 rfl rfl (z := (1 : Int32)) (by decide) (r := (2 : Int32)) (by decide) (Ls' := #[.val (.ref a), .val (.ref rc), .val (.int (1 : Int32)), .val (.int (1 : Int32)), .val (.int (2 : Int32))]) rfl ?_
      refine own_goto (pc' := 17) X43 dd_prog_7_method_6_56 (by decide) (by decide) ?_
      refine own_iload (pc' := 19) X43 dd_prog_7_method_6_17 rfl rfl ?_
      refine own_aload_n (pc' := 20) X43 dd_prog_7_method_6_19 rfl rfl rfl ?_
      have ne_rc_ac : rc ≠ ac := own_neT p_rc p_ac (by decide)
      have f45 := (p_rc.keep K43 (ninS ne_rc_ac nin0))
      refine own_arraylength (pc' := 21) (z := (2 : Int32)) X43 f45 (by simp) dd_prog_7_method_6_20 rfl ?_
      refine own_icmpY (pc' := 59) X43 dd_prog_7_method_6_21 ((flt (by decide)).2.1) (by decide) (by decide) ?_
      refine own_aload_n (pc' := 60) X43 dd_prog_7_method_6_59 rfl rfl rfl ?_
      refine own_dup (pc' := 61) X43 dd_prog_7_method_6_60 rfl rfl ?_
      have ne_a_ac : a ≠ ac := own_neA p_N_E (W 5 rfl) p_ac
      have f46 := (p_N_tallied.keep K43 (ninS ne_a_ac nin0))
      refine own_get (pc' := 64) X43 (host := "") (Or.inl (W 69 rfl)) Via.refl f46 dd_prog_7_method_6_61 rfl ?_
      intro T47 X47
      refine own_iload_n (pc' := 65) X47 dd_prog_7_method_6_64 rfl rfl ?_
      refine own_i2l (pc' := 66) X47 dd_prog_7_method_6_65 rfl (r := (1 : Int64)) (by decide) ?_
      refine own_ladd (pc' := 67) X47 dd_prog_7_method_6_66 rfl (r := (Int64.ofNat (tn + 1))) (by exact own_J (tn := tn) (w := 1) (by omega) (by omega)) ?_
      have f48 := (p_N_E.keep K43)
      refine own_put (pc' := 70) X47 (host := "") (Or.inl (W 69 rfl)) Via.refl f46 f48 (Or.inl (W 70 rfl)) (W 5 rfl) (ty := .long) (by decide) rfl rfl p_na dd_prog_7_method_6_67 rfl ?_
      intro T49 h49 X49 W49 K49
      have f49_ := f46.same W49
      refine own_aload_n (pc' := 71) X49 dd_prog_7_method_6_70 rfl rfl rfl ?_
      refine own_aload_n (pc' := 72) X49 dd_prog_7_method_6_71 rfl rfl rfl ?_
      refine own_get (pc' := 75) X49 (host := "") (Or.inl (W 69 rfl)) Via.refl f49_ dd_prog_7_method_6_72 rfl ?_
      intro T50 X50
      refine own_aload_n (pc' := 76) X50 dd_prog_7_method_6_75 rfl rfl rfl ?_
      have f51 := ((p_N_capacity.keep K43 (ninS ne_a_ac nin0)).other W49 (Or.inr (slot_ne (Or.inr (W 38 rfl)) (Or.inl (W 70 rfl)) (by decide) (t := .long) (t' := .long) (by decide) (by decide))))
      refine own_get (pc' := 79) X50 (host := "") (Or.inl (W 37 rfl)) Via.refl f51 dd_prog_7_method_6_76 rfl ?_
      intro T52 X52
      refine own_lcmp (pc' := 80) X52 dd_prog_7_method_6_79 rfl ?_
      by_cases hcap : (Int64.ofNat cn) < (Int64.ofNat (tn + 1))
      · refine own_ifY (pc' := 87) X52 dd_prog_7_method_6_80 ((own_lc_gt hcap).1) (by decide) (by decide) ?_
        refine own_iconst (pc' := 88) X52 dd_prog_7_method_6_87 rfl (z := (0 : Int32)) (by decide) ?_
        have f53 := ((p_N_tallying.keep K43 (ninS ne_a_ac nin0)).other W49 (Or.inr (slot_ne (Or.inl (W 54 rfl)) (Or.inl (W 70 rfl)) (by decide) (t := .boolean) (t' := .long) (by decide) (by decide))))
        have f54 := (f48.keep K49)
        refine own_put (pc' := 91) X52 (host := "") (Or.inl (W 53 rfl)) Via.refl f53 f54 (Or.inl (W 54 rfl)) (W 5 rfl) (ty := .boolean) (by decide) rfl rfl p_na dd_prog_7_method_6_88 rfl ?_
        intro T55 h55 X55 W55 K55
        have f55_ := f53.same W55
        refine own_iload_n (pc' := 92) X55 dd_prog_7_method_6_91 rfl rfl ?_
        have e0 : own_in p0 x0 = 0 := if_pos hp0
        have e1 : own_in p1 x1 = 1 := if_neg hp1
        have f56 := (f54.keep K55)
        have f57 := (((p_N_candidateCount.keep K43 (ninS ne_a_ac nin0)).other W49 (Or.inr (slot_ne (Or.inr (W 15 rfl)) (Or.inl (W 70 rfl)) (by decide) (t := .int) (t' := .long) (by decide) (by decide)))).other W55 (Or.inr (slot_ne (Or.inr (W 15 rfl)) (Or.inl (W 54 rfl)) (by decide) (t := .int) (t' := .boolean) (by decide) (by decide))))
        have f58 := (((p_N_bits.keep K43 (ninS ne_a_ac nin0)).other W49 (Or.inr (slot_ne (Or.inr (W 22 rfl)) (Or.inl (W 70 rfl)) (by decide) (t := .int) (t' := .long) (by decide) (by decide)))).other W55 (Or.inr (slot_ne (Or.inr (W 22 rfl)) (Or.inl (W 54 rfl)) (by decide) (t := .int) (t' := .boolean) (by decide) (by decide))))
        have f59 := (((p_N_ceiling.keep K43 (ninS ne_a_ac nin0)).other W49 (Or.inr (slot_ne (Or.inr (W 31 rfl)) (Or.inl (W 70 rfl)) (by decide) (t := .long) (t' := .long) (by decide) (by decide)))).other W55 (Or.inr (slot_ne (Or.inr (W 31 rfl)) (Or.inl (W 54 rfl)) (by decide) (t := .long) (t' := .boolean) (by decide) (by decide))))
        have f60 := (f51.other W55 (Or.inr (slot_ne (Or.inr (W 38 rfl)) (Or.inl (W 54 rfl)) (by decide) (t := .long) (t' := .boolean) (by decide) (by decide))))
        have f61 := (((p_N_radius.keep K43 (ninS ne_a_ac nin0)).other W49 (Or.inr (slot_ne (Or.inr (W 40 rfl)) (Or.inl (W 70 rfl)) (by decide) (t := (.array .long)) (t' := .long) (by decide) (by decide)))).other W55 (Or.inr (slot_ne (Or.inr (W 40 rfl)) (Or.inl (W 54 rfl)) (by decide) (t := (.array .long)) (t' := .boolean) (by decide) (by decide))))
        have f62 := (((p_N_proposed.keep K43 (ninS ne_a_ac nin0)).other W49 (Or.inr (slot_ne (Or.inr (W 42 rfl)) (Or.inl (W 70 rfl)) (by decide) (t := (.array .long)) (t' := .long) (by decide) (by decide)))).other W55 (Or.inr (slot_ne (Or.inr (W 42 rfl)) (Or.inl (W 54 rfl)) (by decide) (t := (.array .long)) (t' := .boolean) (by decide) (by decide))))
        have f63 := (((p_N_start.keep K43 (ninS ne_a_ac nin0)).other W49 (Or.inr (slot_ne (Or.inr (W 45 rfl)) (Or.inl (W 70 rfl)) (by decide) (t := (.array .int)) (t' := .long) (by decide) (by decide)))).other W55 (Or.inr (slot_ne (Or.inr (W 45 rfl)) (Or.inl (W 54 rfl)) (by decide) (t := (.array .int)) (t' := .boolean) (by decide) (by decide))))
        have f64 := (((p_N_count.keep K43 (ninS ne_a_ac nin0)).other W49 (Or.inr (slot_ne (Or.inr (W 47 rfl)) (Or.inl (W 70 rfl)) (by decide) (t := (.array .int)) (t' := .long) (by decide) (by decide)))).other W55 (Or.inr (slot_ne (Or.inr (W 47 rfl)) (Or.inl (W 54 rfl)) (by decide) (t := (.array .int)) (t' := .boolean) (by decide) (by decide))))
        have f65 := (f49_.other W55 (Or.inr (slot_ne (Or.inl (W 70 rfl)) (Or.inl (W 54 rfl)) (by decide) (t := .long) (t' := .boolean) (by decide) (by decide))))
        have f66 := (((p_N_built.keep K43 (ninS ne_a_ac nin0)).other W49 (Or.inr (slot_ne (Or.inl (W 61 rfl)) (Or.inl (W 70 rfl)) (by decide) (t := .boolean) (t' := .long) (by decide) (by decide)))).other W55 (Or.inr (slot_ne (Or.inl (W 61 rfl)) (Or.inl (W 54 rfl)) (by decide) (t := .boolean) (t' := .boolean) (by decide) (by decide))))
        have f67 := (((p_N_entry.keep K43 (ninS ne_a_ac nin0)).other W49 (Or.inr (slot_ne (Or.inl (W 83 rfl)) (Or.inl (W 70 rfl)) (by decide) (t := (.array .long)) (t' := .long) (by decide) (by decide)))).other W55 (Or.inr (slot_ne (Or.inl (W 83 rfl)) (Or.inl (W 54 rfl)) (by decide) (t := (.array .long)) (t' := .boolean) (by decide) (by decide))))
        have f68 := ((ac1_44.keep K49 (ninS (Ne.symm ne_a_ac) nin0)).keep K55 (ninS (Ne.symm ne_a_ac) nin0))
        exact own_ret X55 hGe (t := .boolean) rfl rfl (Or.inl ⟨rfl, by simp, _, rfl⟩) dd_prog_7_method_6_92 (by decide) (by decide) ⟨rfl, ((((Keep.refl h0 [a, ac]).trans K43 (allS (Or.inl (List.mem_of_getElem? (i := 1) rfl)) all0)).trans K49 (allS (Or.inl (List.mem_of_getElem? (i := 0) rfl)) all0)).trans K55 (allS (Or.inl (List.mem_of_getElem? (i := 0) rfl)) all0)), by rw [e0, e1, show tn + 0 + 1 = tn + 1 from by omega, if_pos ((own_Jlt (by omega) (by omega)).mp hcap)]; exact ⟨f56, f57, f58, f59, f60, f61, f62, f63, f64, f65, f55_, f66, f67⟩, by rw [e0, e1]; exact f68⟩
      · refine own_ifN (pc' := 83) X52 dd_prog_7_method_6_80 rfl ((own_lc_ngt hcap).1) ?_
        refine own_iconst (pc' := 84) X52 dd_prog_7_method_6_83 rfl (z := (1 : Int32)) (by decide) ?_
        refine own_goto (pc' := 88) X52 dd_prog_7_method_6_84 (by decide) (by decide) ?_
        have f69 := ((p_N_tallying.keep K43 (ninS ne_a_ac nin0)).other W49 (Or.inr (slot_ne (Or.inl (W 54 rfl)) (Or.inl (W 70 rfl)) (by decide) (t := .boolean) (t' := .long) (by decide) (by decide))))
        have f70 := (f48.keep K49)
        refine own_put (pc' := 91) X52 (host := "") (Or.inl (W 53 rfl)) Via.refl f69 f70 (Or.inl (W 54 rfl)) (W 5 rfl) (ty := .boolean) (by decide) rfl rfl p_na dd_prog_7_method_6_88 rfl ?_
        intro T71 h71 X71 W71 K71
        have f71_ := f69.same W71
        refine own_iload_n (pc' := 92) X71 dd_prog_7_method_6_91 rfl rfl ?_
        have e0 : own_in p0 x0 = 0 := if_pos hp0
        have e1 : own_in p1 x1 = 1 := if_neg hp1
        have f72 := (f70.keep K71)
        have f73 := (((p_N_candidateCount.keep K43 (ninS ne_a_ac nin0)).other W49 (Or.inr (slot_ne (Or.inr (W 15 rfl)) (Or.inl (W 70 rfl)) (by decide) (t := .int) (t' := .long) (by decide) (by decide)))).other W71 (Or.inr (slot_ne (Or.inr (W 15 rfl)) (Or.inl (W 54 rfl)) (by decide) (t := .int) (t' := .boolean) (by decide) (by decide))))
        have f74 := (((p_N_bits.keep K43 (ninS ne_a_ac nin0)).other W49 (Or.inr (slot_ne (Or.inr (W 22 rfl)) (Or.inl (W 70 rfl)) (by decide) (t := .int) (t' := .long) (by decide) (by decide)))).other W71 (Or.inr (slot_ne (Or.inr (W 22 rfl)) (Or.inl (W 54 rfl)) (by decide) (t := .int) (t' := .boolean) (by decide) (by decide))))
        have f75 := (((p_N_ceiling.keep K43 (ninS ne_a_ac nin0)).other W49 (Or.inr (slot_ne (Or.inr (W 31 rfl)) (Or.inl (W 70 rfl)) (by decide) (t := .long) (t' := .long) (by decide) (by decide)))).other W71 (Or.inr (slot_ne (Or.inr (W 31 rfl)) (Or.inl (W 54 rfl)) (by decide) (t := .long) (t' := .boolean) (by decide) (by decide))))
        have f76 := (f51.other W71 (Or.inr (slot_ne (Or.inr (W 38 rfl)) (Or.inl (W 54 rfl)) (by decide) (t := .long) (t' := .boolean) (by decide) (by decide))))
        have f77 := (((p_N_radius.keep K43 (ninS ne_a_ac nin0)).other W49 (Or.inr (slot_ne (Or.inr (W 40 rfl)) (Or.inl (W 70 rfl)) (by decide) (t := (.array .long)) (t' := .long) (by decide) (by decide)))).other W71 (Or.inr (slot_ne (Or.inr (W 40 rfl)) (Or.inl (W 54 rfl)) (by decide) (t := (.array .long)) (t' := .boolean) (by decide) (by decide))))
        have f78 := (((p_N_proposed.keep K43 (ninS ne_a_ac nin0)).other W49 (Or.inr (slot_ne (Or.inr (W 42 rfl)) (Or.inl (W 70 rfl)) (by decide) (t := (.array .long)) (t' := .long) (by decide) (by decide)))).other W71 (Or.inr (slot_ne (Or.inr (W 42 rfl)) (Or.inl (W 54 rfl)) (by decide) (t := (.array .long)) (t' := .boolean) (by decide) (by decide))))
        have f79 := (((p_N_start.keep K43 (ninS ne_a_ac nin0)).other W49 (Or.inr (slot_ne (Or.inr (W 45 rfl)) (Or.inl (W 70 rfl)) (by decide) (t := (.array .int)) (t' := .long) (by decide) (by decide)))).other W71 (Or.inr (slot_ne (Or.inr (W 45 rfl)) (Or.inl (W 54 rfl)) (by decide) (t := (.array .int)) (t' := .boolean) (by decide) (by decide))))
        have f80 := (((p_N_count.keep K43 (ninS ne_a_ac nin0)).other W49 (Or.inr (slot_ne (Or.inr (W 47 rfl)) (Or.inl (W 70 rfl)) (by decide) (t := (.array .int)) (t' := .long) (by decide) (by decide)))).other W71 (Or.inr (slot_ne (Or.inr (W 47 rfl)) (Or.inl (W 54 rfl)) (by decide) (t := (.array .int)) (t' := .boolean) (by decide) (by decide))))
        have f81 := (f49_.other W71 (Or.inr (slot_ne (Or.inl (W 70 rfl)) (Or.inl (W 54 rfl)) (by decide) (t := .long) (t' := .boolean) (by decide) (by decide))))
        have f82 := (((p_N_built.keep K43 (ninS ne_a_ac nin0)).other W49 (Or.inr (slot_ne (Or.inl (W 61 rfl)) (Or.inl (W 70 rfl)) (by decide) (t := .boolean) (t' := .long) (by decide) (by decide)))).other W71 (Or.inr (slot_ne (Or.inl (W 61 rfl)) (Or.inl (W 54 rfl)) (by decide) (t := .boolean) (t' := .boolean) (by decide) (by decide))))
        have f83 := (((p_N_entry.keep K43 (ninS ne_a_ac nin0)).other W49 (Or.inr (slot_ne (Or.inl (W 83 rfl)) (Or.inl (W 70 rfl)) (by decide) (t := (.array .long)) (t' := .long) (by decide) (by decide)))).other W71 (Or.inr (slot_ne (Or.inl (W 83 rfl)) (Or.inl (W 54 rfl)) (by decide) (t := (.array .long)) (t' := .boolean) (by decide) (by decide))))
        have f84 := ((ac1_44.keep K49 (ninS (Ne.symm ne_a_ac) nin0)).keep K71 (ninS (Ne.symm ne_a_ac) nin0))
        exact own_ret X71 hGe (t := .boolean) rfl rfl (Or.inl ⟨rfl, by simp, _, rfl⟩) dd_prog_7_method_6_92 (by decide) (by decide) ⟨rfl, ((((Keep.refl h0 [a, ac]).trans K43 (allS (Or.inl (List.mem_of_getElem? (i := 1) rfl)) all0)).trans K49 (allS (Or.inl (List.mem_of_getElem? (i := 0) rfl)) all0)).trans K71 (allS (Or.inl (List.mem_of_getElem? (i := 0) rfl)) all0)), by rw [e0, e1, show tn + 0 + 1 = tn + 1 from by omega, if_neg (mt (own_Jlt (by omega) (by omega)).mpr hcap)]; exact ⟨f72, f73, f74, f75, f76, f77, f78, f79, f80, f81, f71_, f82, f83⟩, by rw [e0, e1]; exact f84⟩
  · refine own_ifN (pc' := 39) X3 dd_prog_7_method_6_36 rfl ((own_lc_ngt hp0).1) ?_
    refine own_aload_n (pc' := 40) X3 dd_prog_7_method_6_39 rfl rfl rfl ?_
    refine own_get (pc' := 43) X3 (host := "") (Or.inl (W 46 rfl)) Via.refl p_N_count dd_prog_7_method_6_40 rfl ?_
    intro T85 X85
    refine own_iload (pc' := 45) X85 dd_prog_7_method_6_43 rfl rfl ?_
    refine own_dup2 (pc' := 46) X85 dd_prog_7_method_6_45 rfl rfl rfl ?_
    refine own_ialoadM (pc' := 47) (i := 0) (x := (Int32.ofNat u0)) X85 p_ac (by decide) (by simp) rfl dd_prog_7_method_6_46 rfl ?_
    refine own_iconst (pc' := 48) X85 dd_prog_7_method_6_47 rfl (z := (1 : Int32)) (by decide) ?_
    refine own_iadd (pc' := 49) X85 dd_prog_7_method_6_48 rfl (r := (Int32.ofNat (u0 + 1))) (own_inc _) ?_
    refine own_iastoreM (pc' := 50) (i := 0) X85 p_ac (by decide) (by simp) p_nac dd_prog_7_method_6_49 rfl ?_
    intro T86 h86 X86 K86 A86
    have ac0_87 : own_Arr Z h86 ac kc .int ((own_cl n (u0 + 1) u1).map Value.int) := A86
    refine own_iinc (pc' := 53) X86 dd_prog_7_method_6_50 rfl rfl (z := (1 : Int32)) (by decide) (r := (1 : Int32)) (by decide) (Ls' := #[.val (.ref a), .val (.ref rc), .val (.int (1 : Int32)), .val (.int (1 : Int32)), .val (.int (0 : Int32))]) rfl ?_
    refine own_iinc (pc' := 56) X86 dd_prog_7_method_6_53 rfl rfl (z := (1 : Int32)) (by decide) (r := (1 : Int32)) (by decide) (Ls' := #[.val (.ref a), .val (.ref rc), .val (.int (1 : Int32)), .val (.int (1 : Int32)), .val (.int (1 : Int32))]) rfl ?_
    refine own_goto (pc' := 17) X86 dd_prog_7_method_6_56 (by decide) (by decide) ?_
    refine own_iload (pc' := 19) X86 dd_prog_7_method_6_17 rfl rfl ?_
    refine own_aload_n (pc' := 20) X86 dd_prog_7_method_6_19 rfl rfl rfl ?_
    have ne_rc_ac : rc ≠ ac := own_neT p_rc p_ac (by decide)
    have f88 := (p_rc.keep K86 (ninS ne_rc_ac nin0))
    refine own_arraylength (pc' := 21) (z := (2 : Int32)) X86 f88 (by simp) dd_prog_7_method_6_20 rfl ?_
    refine own_icmpN (pc' := 24) X86 dd_prog_7_method_6_21 rfl ((tlt (by decide)).2.1) ?_
    refine own_aload_n (pc' := 25) X86 dd_prog_7_method_6_24 rfl rfl rfl ?_
    refine own_iload (pc' := 27) X86 dd_prog_7_method_6_25 rfl rfl ?_
    refine own_laloadM (pc' := 28) (i := 1) (x := x1) X86 f88 (by decide) (Nat.le_of_ble_eq_true rfl) rfl dd_prog_7_method_6_27 rfl ?_
    refine own_aload_n (pc' := 29) X86 dd_prog_7_method_6_28 rfl rfl rfl ?_
    have ne_a_ac : a ≠ ac := own_neA p_N_E (W 5 rfl) p_ac
    have f89 := (p_N_proposed.keep K86 (ninS ne_a_ac nin0))
    refine own_get (pc' := 32) X86 (host := "") (Or.inl (W 41 rfl)) Via.refl f89 dd_prog_7_method_6_29 rfl ?_
    intro T90 X90
    refine own_iload (pc' := 34) X90 dd_prog_7_method_6_32 rfl rfl ?_
    have ne_ap_ac : ap ≠ ac := own_neT p_ap p_ac (by decide)
    have f91 := (p_ap.keep K86 (ninS ne_ap_ac nin0))
    refine own_laloadM (pc' := 35) (i := 1) (x := p1) X90 f91 (by decide) (by simp) rfl dd_prog_7_method_6_34 rfl ?_
    refine own_lcmp (pc' := 36) X90 dd_prog_7_method_6_35 rfl ?_
    by_cases hp1 : p1 < x1
    · refine own_ifY (pc' := 53) X90 dd_prog_7_method_6_36 ((own_lc_gt hp1).1) (by decide) (by decide) ?_
      refine own_iinc (pc' := 56) X90 dd_prog_7_method_6_53 rfl rfl (z := (1 : Int32)) (by decide) (r := (2 : Int32)) (by decide) (Ls' := #[.val (.ref a), .val (.ref rc), .val (.int (1 : Int32)), .val (.int (1 : Int32)), .val (.int (2 : Int32))]) rfl ?_
      refine own_goto (pc' := 17) X90 dd_prog_7_method_6_56 (by decide) (by decide) ?_
      refine own_iload (pc' := 19) X90 dd_prog_7_method_6_17 rfl rfl ?_
      refine own_aload_n (pc' := 20) X90 dd_prog_7_method_6_19 rfl rfl rfl ?_
      refine own_arraylength (pc' := 21) (z := (2 : Int32)) X90 f88 (by simp) dd_prog_7_method_6_20 rfl ?_
      refine own_icmpY (pc' := 59) X90 dd_prog_7_method_6_21 ((flt (by decide)).2.1) (by decide) (by decide) ?_
      refine own_aload_n (pc' := 60) X90 dd_prog_7_method_6_59 rfl rfl rfl ?_
      refine own_dup (pc' := 61) X90 dd_prog_7_method_6_60 rfl rfl ?_
      have f92 := (p_N_tallied.keep K86 (ninS ne_a_ac nin0))
      refine own_get (pc' := 64) X90 (host := "") (Or.inl (W 69 rfl)) Via.refl f92 dd_prog_7_method_6_61 rfl ?_
      intro T93 X93
      refine own_iload_n (pc' := 65) X93 dd_prog_7_method_6_64 rfl rfl ?_
      refine own_i2l (pc' := 66) X93 dd_prog_7_method_6_65 rfl (r := (1 : Int64)) (by decide) ?_
      refine own_ladd (pc' := 67) X93 dd_prog_7_method_6_66 rfl (r := (Int64.ofNat (tn + 1))) (by exact own_J (tn := tn) (w := 1) (by omega) (by omega)) ?_
      have f94 := (p_N_E.keep K86)
      refine own_put (pc' := 70) X93 (host := "") (Or.inl (W 69 rfl)) Via.refl f92 f94 (Or.inl (W 70 rfl)) (W 5 rfl) (ty := .long) (by decide) rfl rfl p_na dd_prog_7_method_6_67 rfl ?_
      intro T95 h95 X95 W95 K95
      have f95_ := f92.same W95
      refine own_aload_n (pc' := 71) X95 dd_prog_7_method_6_70 rfl rfl rfl ?_
      refine own_aload_n (pc' := 72) X95 dd_prog_7_method_6_71 rfl rfl rfl ?_
      refine own_get (pc' := 75) X95 (host := "") (Or.inl (W 69 rfl)) Via.refl f95_ dd_prog_7_method_6_72 rfl ?_
      intro T96 X96
      refine own_aload_n (pc' := 76) X96 dd_prog_7_method_6_75 rfl rfl rfl ?_
      have f97 := ((p_N_capacity.keep K86 (ninS ne_a_ac nin0)).other W95 (Or.inr (slot_ne (Or.inr (W 38 rfl)) (Or.inl (W 70 rfl)) (by decide) (t := .long) (t' := .long) (by decide) (by decide))))
      refine own_get (pc' := 79) X96 (host := "") (Or.inl (W 37 rfl)) Via.refl f97 dd_prog_7_method_6_76 rfl ?_
      intro T98 X98
      refine own_lcmp (pc' := 80) X98 dd_prog_7_method_6_79 rfl ?_
      by_cases hcap : (Int64.ofNat cn) < (Int64.ofNat (tn + 1))
      · refine own_ifY (pc' := 87) X98 dd_prog_7_method_6_80 ((own_lc_gt hcap).1) (by decide) (by decide) ?_
        refine own_iconst (pc' := 88) X98 dd_prog_7_method_6_87 rfl (z := (0 : Int32)) (by decide) ?_
        have f99 := ((p_N_tallying.keep K86 (ninS ne_a_ac nin0)).other W95 (Or.inr (slot_ne (Or.inl (W 54 rfl)) (Or.inl (W 70 rfl)) (by decide) (t := .boolean) (t' := .long) (by decide) (by decide))))
        have f100 := (f94.keep K95)
        refine own_put (pc' := 91) X98 (host := "") (Or.inl (W 53 rfl)) Via.refl f99 f100 (Or.inl (W 54 rfl)) (W 5 rfl) (ty := .boolean) (by decide) rfl rfl p_na dd_prog_7_method_6_88 rfl ?_
        intro T101 h101 X101 W101 K101
        have f101_ := f99.same W101
        refine own_iload_n (pc' := 92) X101 dd_prog_7_method_6_91 rfl rfl ?_
        have e0 : own_in p0 x0 = 1 := if_neg hp0
        have e1 : own_in p1 x1 = 0 := if_pos hp1
        have f102 := (f100.keep K101)
        have f103 := (((p_N_candidateCount.keep K86 (ninS ne_a_ac nin0)).other W95 (Or.inr (slot_ne (Or.inr (W 15 rfl)) (Or.inl (W 70 rfl)) (by decide) (t := .int) (t' := .long) (by decide) (by decide)))).other W101 (Or.inr (slot_ne (Or.inr (W 15 rfl)) (Or.inl (W 54 rfl)) (by decide) (t := .int) (t' := .boolean) (by decide) (by decide))))
        have f104 := (((p_N_bits.keep K86 (ninS ne_a_ac nin0)).other W95 (Or.inr (slot_ne (Or.inr (W 22 rfl)) (Or.inl (W 70 rfl)) (by decide) (t := .int) (t' := .long) (by decide) (by decide)))).other W101 (Or.inr (slot_ne (Or.inr (W 22 rfl)) (Or.inl (W 54 rfl)) (by decide) (t := .int) (t' := .boolean) (by decide) (by decide))))
        have f105 := (((p_N_ceiling.keep K86 (ninS ne_a_ac nin0)).other W95 (Or.inr (slot_ne (Or.inr (W 31 rfl)) (Or.inl (W 70 rfl)) (by decide) (t := .long) (t' := .long) (by decide) (by decide)))).other W101 (Or.inr (slot_ne (Or.inr (W 31 rfl)) (Or.inl (W 54 rfl)) (by decide) (t := .long) (t' := .boolean) (by decide) (by decide))))
        have f106 := (f97.other W101 (Or.inr (slot_ne (Or.inr (W 38 rfl)) (Or.inl (W 54 rfl)) (by decide) (t := .long) (t' := .boolean) (by decide) (by decide))))
        have f107 := (((p_N_radius.keep K86 (ninS ne_a_ac nin0)).other W95 (Or.inr (slot_ne (Or.inr (W 40 rfl)) (Or.inl (W 70 rfl)) (by decide) (t := (.array .long)) (t' := .long) (by decide) (by decide)))).other W101 (Or.inr (slot_ne (Or.inr (W 40 rfl)) (Or.inl (W 54 rfl)) (by decide) (t := (.array .long)) (t' := .boolean) (by decide) (by decide))))
        have f108 := ((f89.other W95 (Or.inr (slot_ne (Or.inr (W 42 rfl)) (Or.inl (W 70 rfl)) (by decide) (t := (.array .long)) (t' := .long) (by decide) (by decide)))).other W101 (Or.inr (slot_ne (Or.inr (W 42 rfl)) (Or.inl (W 54 rfl)) (by decide) (t := (.array .long)) (t' := .boolean) (by decide) (by decide))))
        have f109 := (((p_N_start.keep K86 (ninS ne_a_ac nin0)).other W95 (Or.inr (slot_ne (Or.inr (W 45 rfl)) (Or.inl (W 70 rfl)) (by decide) (t := (.array .int)) (t' := .long) (by decide) (by decide)))).other W101 (Or.inr (slot_ne (Or.inr (W 45 rfl)) (Or.inl (W 54 rfl)) (by decide) (t := (.array .int)) (t' := .boolean) (by decide) (by decide))))
        have f110 := (((p_N_count.keep K86 (ninS ne_a_ac nin0)).other W95 (Or.inr (slot_ne (Or.inr (W 47 rfl)) (Or.inl (W 70 rfl)) (by decide) (t := (.array .int)) (t' := .long) (by decide) (by decide)))).other W101 (Or.inr (slot_ne (Or.inr (W 47 rfl)) (Or.inl (W 54 rfl)) (by decide) (t := (.array .int)) (t' := .boolean) (by decide) (by decide))))
        have f111 := (f95_.other W101 (Or.inr (slot_ne (Or.inl (W 70 rfl)) (Or.inl (W 54 rfl)) (by decide) (t := .long) (t' := .boolean) (by decide) (by decide))))
        have f112 := (((p_N_built.keep K86 (ninS ne_a_ac nin0)).other W95 (Or.inr (slot_ne (Or.inl (W 61 rfl)) (Or.inl (W 70 rfl)) (by decide) (t := .boolean) (t' := .long) (by decide) (by decide)))).other W101 (Or.inr (slot_ne (Or.inl (W 61 rfl)) (Or.inl (W 54 rfl)) (by decide) (t := .boolean) (t' := .boolean) (by decide) (by decide))))
        have f113 := (((p_N_entry.keep K86 (ninS ne_a_ac nin0)).other W95 (Or.inr (slot_ne (Or.inl (W 83 rfl)) (Or.inl (W 70 rfl)) (by decide) (t := (.array .long)) (t' := .long) (by decide) (by decide)))).other W101 (Or.inr (slot_ne (Or.inl (W 83 rfl)) (Or.inl (W 54 rfl)) (by decide) (t := (.array .long)) (t' := .boolean) (by decide) (by decide))))
        have f114 := ((ac0_87.keep K95 (ninS (Ne.symm ne_a_ac) nin0)).keep K101 (ninS (Ne.symm ne_a_ac) nin0))
        exact own_ret X101 hGe (t := .boolean) rfl rfl (Or.inl ⟨rfl, by simp, _, rfl⟩) dd_prog_7_method_6_92 (by decide) (by decide) ⟨rfl, ((((Keep.refl h0 [a, ac]).trans K86 (allS (Or.inl (List.mem_of_getElem? (i := 1) rfl)) all0)).trans K95 (allS (Or.inl (List.mem_of_getElem? (i := 0) rfl)) all0)).trans K101 (allS (Or.inl (List.mem_of_getElem? (i := 0) rfl)) all0)), by rw [e0, e1, show tn + 1 + 0 = tn + 1 from by omega, if_pos ((own_Jlt (by omega) (by omega)).mp hcap)]; exact ⟨f102, f103, f104, f105, f106, f107, f108, f109, f110, f111, f101_, f112, f113⟩, by rw [e0, e1]; exact f114⟩
      · refine own_ifN (pc' := 83) X98 dd_prog_7_method_6_80 rfl ((own_lc_ngt hcap).1) ?_
        refine own_iconst (pc' := 84) X98 dd_prog_7_method_6_83 rfl (z := (1 : Int32)) (by decide) ?_
        refine own_goto (pc' := 88) X98 dd_prog_7_method_6_84 (by decide) (by decide) ?_
        have f115 := ((p_N_tallying.keep K86 (ninS ne_a_ac nin0)).other W95 (Or.inr (slot_ne (Or.inl (W 54 rfl)) (Or.inl (W 70 rfl)) (by decide) (t := .boolean) (t' := .long) (by decide) (by decide))))
        have f116 := (f94.keep K95)
        refine own_put (pc' := 91) X98 (host := "") (Or.inl (W 53 rfl)) Via.refl f115 f116 (Or.inl (W 54 rfl)) (W 5 rfl) (ty := .boolean) (by decide) rfl rfl p_na dd_prog_7_method_6_88 rfl ?_
        intro T117 h117 X117 W117 K117
        have f117_ := f115.same W117
        refine own_iload_n (pc' := 92) X117 dd_prog_7_method_6_91 rfl rfl ?_
        have e0 : own_in p0 x0 = 1 := if_neg hp0
        have e1 : own_in p1 x1 = 0 := if_pos hp1
        have f118 := (f116.keep K117)
        have f119 := (((p_N_candidateCount.keep K86 (ninS ne_a_ac nin0)).other W95 (Or.inr (slot_ne (Or.inr (W 15 rfl)) (Or.inl (W 70 rfl)) (by decide) (t := .int) (t' := .long) (by decide) (by decide)))).other W117 (Or.inr (slot_ne (Or.inr (W 15 rfl)) (Or.inl (W 54 rfl)) (by decide) (t := .int) (t' := .boolean) (by decide) (by decide))))
        have f120 := (((p_N_bits.keep K86 (ninS ne_a_ac nin0)).other W95 (Or.inr (slot_ne (Or.inr (W 22 rfl)) (Or.inl (W 70 rfl)) (by decide) (t := .int) (t' := .long) (by decide) (by decide)))).other W117 (Or.inr (slot_ne (Or.inr (W 22 rfl)) (Or.inl (W 54 rfl)) (by decide) (t := .int) (t' := .boolean) (by decide) (by decide))))
        have f121 := (((p_N_ceiling.keep K86 (ninS ne_a_ac nin0)).other W95 (Or.inr (slot_ne (Or.inr (W 31 rfl)) (Or.inl (W 70 rfl)) (by decide) (t := .long) (t' := .long) (by decide) (by decide)))).other W117 (Or.inr (slot_ne (Or.inr (W 31 rfl)) (Or.inl (W 54 rfl)) (by decide) (t := .long) (t' := .boolean) (by decide) (by decide))))
        have f122 := (f97.other W117 (Or.inr (slot_ne (Or.inr (W 38 rfl)) (Or.inl (W 54 rfl)) (by decide) (t := .long) (t' := .boolean) (by decide) (by decide))))
        have f123 := (((p_N_radius.keep K86 (ninS ne_a_ac nin0)).other W95 (Or.inr (slot_ne (Or.inr (W 40 rfl)) (Or.inl (W 70 rfl)) (by decide) (t := (.array .long)) (t' := .long) (by decide) (by decide)))).other W117 (Or.inr (slot_ne (Or.inr (W 40 rfl)) (Or.inl (W 54 rfl)) (by decide) (t := (.array .long)) (t' := .boolean) (by decide) (by decide))))
        have f124 := ((f89.other W95 (Or.inr (slot_ne (Or.inr (W 42 rfl)) (Or.inl (W 70 rfl)) (by decide) (t := (.array .long)) (t' := .long) (by decide) (by decide)))).other W117 (Or.inr (slot_ne (Or.inr (W 42 rfl)) (Or.inl (W 54 rfl)) (by decide) (t := (.array .long)) (t' := .boolean) (by decide) (by decide))))
        have f125 := (((p_N_start.keep K86 (ninS ne_a_ac nin0)).other W95 (Or.inr (slot_ne (Or.inr (W 45 rfl)) (Or.inl (W 70 rfl)) (by decide) (t := (.array .int)) (t' := .long) (by decide) (by decide)))).other W117 (Or.inr (slot_ne (Or.inr (W 45 rfl)) (Or.inl (W 54 rfl)) (by decide) (t := (.array .int)) (t' := .boolean) (by decide) (by decide))))
        have f126 := (((p_N_count.keep K86 (ninS ne_a_ac nin0)).other W95 (Or.inr (slot_ne (Or.inr (W 47 rfl)) (Or.inl (W 70 rfl)) (by decide) (t := (.array .int)) (t' := .long) (by decide) (by decide)))).other W117 (Or.inr (slot_ne (Or.inr (W 47 rfl)) (Or.inl (W 54 rfl)) (by decide) (t := (.array .int)) (t' := .boolean) (by decide) (by decide))))
        have f127 := (f95_.other W117 (Or.inr (slot_ne (Or.inl (W 70 rfl)) (Or.inl (W 54 rfl)) (by decide) (t := .long) (t' := .boolean) (by decide) (by decide))))
        have f128 := (((p_N_built.keep K86 (ninS ne_a_ac nin0)).other W95 (Or.inr (slot_ne (Or.inl (W 61 rfl)) (Or.inl (W 70 rfl)) (by decide) (t := .boolean) (t' := .long) (by decide) (by decide)))).other W117 (Or.inr (slot_ne (Or.inl (W 61 rfl)) (Or.inl (W 54 rfl)) (by decide) (t := .boolean) (t' := .boolean) (by decide) (by decide))))
        have f129 := (((p_N_entry.keep K86 (ninS ne_a_ac nin0)).other W95 (Or.inr (slot_ne (Or.inl (W 83 rfl)) (Or.inl (W 70 rfl)) (by decide) (t := (.array .long)) (t' := .long) (by decide) (by decide)))).other W117 (Or.inr (slot_ne (Or.inl (W 83 rfl)) (Or.inl (W 54 rfl)) (by decide) (t := (.array .long)) (t' := .boolean) (by decide) (by decide))))
        have f130 := ((ac0_87.keep K95 (ninS (Ne.symm ne_a_ac) nin0)).keep K117 (ninS (Ne.symm ne_a_ac) nin0))
        exact own_ret X117 hGe (t := .boolean) rfl rfl (Or.inl ⟨rfl, by simp, _, rfl⟩) dd_prog_7_method_6_92 (by decide) (by decide) ⟨rfl, ((((Keep.refl h0 [a, ac]).trans K86 (allS (Or.inl (List.mem_of_getElem? (i := 1) rfl)) all0)).trans K95 (allS (Or.inl (List.mem_of_getElem? (i := 0) rfl)) all0)).trans K117 (allS (Or.inl (List.mem_of_getElem? (i := 0) rfl)) all0)), by rw [e0, e1, show tn + 1 + 0 = tn + 1 from by omega, if_neg (mt (own_Jlt (by omega) (by omega)).mpr hcap)]; exact ⟨f118, f119, f120, f121, f122, f123, f124, f125, f126, f127, f117_, f128, f129⟩, by rw [e0, e1]; exact f130⟩
    · refine own_ifN (pc' := 39) X90 dd_prog_7_method_6_36 rfl ((own_lc_ngt hp1).1) ?_
      refine own_aload_n (pc' := 40) X90 dd_prog_7_method_6_39 rfl rfl rfl ?_
      have f131 := (p_N_count.keep K86 (ninS ne_a_ac nin0))
      refine own_get (pc' := 43) X90 (host := "") (Or.inl (W 46 rfl)) Via.refl f131 dd_prog_7_method_6_40 rfl ?_
      intro T132 X132
      refine own_iload (pc' := 45) X132 dd_prog_7_method_6_43 rfl rfl ?_
      refine own_dup2 (pc' := 46) X132 dd_prog_7_method_6_45 rfl rfl rfl ?_
      refine own_ialoadM (pc' := 47) (i := 1) (x := (Int32.ofNat u1)) X132 ac0_87 (by decide) (by simp) rfl dd_prog_7_method_6_46 rfl ?_
      refine own_iconst (pc' := 48) X132 dd_prog_7_method_6_47 rfl (z := (1 : Int32)) (by decide) ?_
      refine own_iadd (pc' := 49) X132 dd_prog_7_method_6_48 rfl (r := (Int32.ofNat (u1 + 1))) (own_inc _) ?_
      refine own_iastoreM (pc' := 50) (i := 1) X132 ac0_87 (by decide) (by simp) p_nac dd_prog_7_method_6_49 rfl ?_
      intro T133 h133 X133 K133 A133
      have ac1_134 : own_Arr Z h133 ac kc .int ((own_cl n (u0 + 1) (u1 + 1)).map Value.int) := A133
      refine own_iinc (pc' := 53) X133 dd_prog_7_method_6_50 rfl rfl (z := (1 : Int32)) (by decide) (r := (2 : Int32)) (by decide) (Ls' := #[.val (.ref a), .val (.ref rc), .val (.int (1 : Int32)), .val (.int (2 : Int32)), .val (.int (1 : Int32))]) rfl ?_
      refine own_iinc (pc' := 56) X133 dd_prog_7_method_6_53 rfl rfl (z := (1 : Int32)) (by decide) (r := (2 : Int32)) (by decide) (Ls' := #[.val (.ref a), .val (.ref rc), .val (.int (1 : Int32)), .val (.int (2 : Int32)), .val (.int (2 : Int32))]) rfl ?_
      refine own_goto (pc' := 17) X133 dd_prog_7_method_6_56 (by decide) (by decide) ?_
      refine own_iload (pc' := 19) X133 dd_prog_7_method_6_17 rfl rfl ?_
      refine own_aload_n (pc' := 20) X133 dd_prog_7_method_6_19 rfl rfl rfl ?_
      have f135 := (f88.keep K133 (ninS ne_rc_ac nin0))
      refine own_arraylength (pc' := 21) (z := (2 : Int32)) X133 f135 (by simp) dd_prog_7_method_6_20 rfl ?_
      refine own_icmpY (pc' := 59) X133 dd_prog_7_method_6_21 ((flt (by decide)).2.1) (by decide) (by decide) ?_
      refine own_aload_n (pc' := 60) X133 dd_prog_7_method_6_59 rfl rfl rfl ?_
      refine own_dup (pc' := 61) X133 dd_prog_7_method_6_60 rfl rfl ?_
      have f136 := ((p_N_tallied.keep K86 (ninS ne_a_ac nin0)).keep K133 (ninS ne_a_ac nin0))
      refine own_get (pc' := 64) X133 (host := "") (Or.inl (W 69 rfl)) Via.refl f136 dd_prog_7_method_6_61 rfl ?_
      intro T137 X137
      refine own_iload_n (pc' := 65) X137 dd_prog_7_method_6_64 rfl rfl ?_
      refine own_i2l (pc' := 66) X137 dd_prog_7_method_6_65 rfl (r := (2 : Int64)) (by decide) ?_
      refine own_ladd (pc' := 67) X137 dd_prog_7_method_6_66 rfl (r := (Int64.ofNat (tn + 2))) (by exact own_J (tn := tn) (w := 2) (by omega) (by omega)) ?_
      have f138 := ((p_N_E.keep K86).keep K133)
      refine own_put (pc' := 70) X137 (host := "") (Or.inl (W 69 rfl)) Via.refl f136 f138 (Or.inl (W 70 rfl)) (W 5 rfl) (ty := .long) (by decide) rfl rfl p_na dd_prog_7_method_6_67 rfl ?_
      intro T139 h139 X139 W139 K139
      have f139_ := f136.same W139
      refine own_aload_n (pc' := 71) X139 dd_prog_7_method_6_70 rfl rfl rfl ?_
      refine own_aload_n (pc' := 72) X139 dd_prog_7_method_6_71 rfl rfl rfl ?_
      refine own_get (pc' := 75) X139 (host := "") (Or.inl (W 69 rfl)) Via.refl f139_ dd_prog_7_method_6_72 rfl ?_
      intro T140 X140
      refine own_aload_n (pc' := 76) X140 dd_prog_7_method_6_75 rfl rfl rfl ?_
      have f141 := (((p_N_capacity.keep K86 (ninS ne_a_ac nin0)).keep K133 (ninS ne_a_ac nin0)).other W139 (Or.inr (slot_ne (Or.inr (W 38 rfl)) (Or.inl (W 70 rfl)) (by decide) (t := .long) (t' := .long) (by decide) (by decide))))
      refine own_get (pc' := 79) X140 (host := "") (Or.inl (W 37 rfl)) Via.refl f141 dd_prog_7_method_6_76 rfl ?_
      intro T142 X142
      refine own_lcmp (pc' := 80) X142 dd_prog_7_method_6_79 rfl ?_
      by_cases hcap : (Int64.ofNat cn) < (Int64.ofNat (tn + 2))
      · refine own_ifY (pc' := 87) X142 dd_prog_7_method_6_80 ((own_lc_gt hcap).1) (by decide) (by decide) ?_
        refine own_iconst (pc' := 88) X142 dd_prog_7_method_6_87 rfl (z := (0 : Int32)) (by decide) ?_
        have f143 := (((p_N_tallying.keep K86 (ninS ne_a_ac nin0)).keep K133 (ninS ne_a_ac nin0)).other W139 (Or.inr (slot_ne (Or.inl (W 54 rfl)) (Or.inl (W 70 rfl)) (by decide) (t := .boolean) (t' := .long) (by decide) (by decide))))
        have f144 := (f138.keep K139)
        refine own_put (pc' := 91) X142 (host := "") (Or.inl (W 53 rfl)) Via.refl f143 f144 (Or.inl (W 54 rfl)) (W 5 rfl) (ty := .boolean) (by decide) rfl rfl p_na dd_prog_7_method_6_88 rfl ?_
        intro T145 h145 X145 W145 K145
        have f145_ := f143.same W145
        refine own_iload_n (pc' := 92) X145 dd_prog_7_method_6_91 rfl rfl ?_
        have e0 : own_in p0 x0 = 1 := if_neg hp0
        have e1 : own_in p1 x1 = 1 := if_neg hp1
        have f146 := (f144.keep K145)
        have f147 := ((((p_N_candidateCount.keep K86 (ninS ne_a_ac nin0)).keep K133 (ninS ne_a_ac nin0)).other W139 (Or.inr (slot_ne (Or.inr (W 15 rfl)) (Or.inl (W 70 rfl)) (by decide) (t := .int) (t' := .long) (by decide) (by decide)))).other W145 (Or.inr (slot_ne (Or.inr (W 15 rfl)) (Or.inl (W 54 rfl)) (by decide) (t := .int) (t' := .boolean) (by decide) (by decide))))
        have f148 := ((((p_N_bits.keep K86 (ninS ne_a_ac nin0)).keep K133 (ninS ne_a_ac nin0)).other W139 (Or.inr (slot_ne (Or.inr (W 22 rfl)) (Or.inl (W 70 rfl)) (by decide) (t := .int) (t' := .long) (by decide) (by decide)))).other W145 (Or.inr (slot_ne (Or.inr (W 22 rfl)) (Or.inl (W 54 rfl)) (by decide) (t := .int) (t' := .boolean) (by decide) (by decide))))
        have f149 := ((((p_N_ceiling.keep K86 (ninS ne_a_ac nin0)).keep K133 (ninS ne_a_ac nin0)).other W139 (Or.inr (slot_ne (Or.inr (W 31 rfl)) (Or.inl (W 70 rfl)) (by decide) (t := .long) (t' := .long) (by decide) (by decide)))).other W145 (Or.inr (slot_ne (Or.inr (W 31 rfl)) (Or.inl (W 54 rfl)) (by decide) (t := .long) (t' := .boolean) (by decide) (by decide))))
        have f150 := (f141.other W145 (Or.inr (slot_ne (Or.inr (W 38 rfl)) (Or.inl (W 54 rfl)) (by decide) (t := .long) (t' := .boolean) (by decide) (by decide))))
        have f151 := ((((p_N_radius.keep K86 (ninS ne_a_ac nin0)).keep K133 (ninS ne_a_ac nin0)).other W139 (Or.inr (slot_ne (Or.inr (W 40 rfl)) (Or.inl (W 70 rfl)) (by decide) (t := (.array .long)) (t' := .long) (by decide) (by decide)))).other W145 (Or.inr (slot_ne (Or.inr (W 40 rfl)) (Or.inl (W 54 rfl)) (by decide) (t := (.array .long)) (t' := .boolean) (by decide) (by decide))))
        have f152 := (((f89.keep K133 (ninS ne_a_ac nin0)).other W139 (Or.inr (slot_ne (Or.inr (W 42 rfl)) (Or.inl (W 70 rfl)) (by decide) (t := (.array .long)) (t' := .long) (by decide) (by decide)))).other W145 (Or.inr (slot_ne (Or.inr (W 42 rfl)) (Or.inl (W 54 rfl)) (by decide) (t := (.array .long)) (t' := .boolean) (by decide) (by decide))))
        have f153 := ((((p_N_start.keep K86 (ninS ne_a_ac nin0)).keep K133 (ninS ne_a_ac nin0)).other W139 (Or.inr (slot_ne (Or.inr (W 45 rfl)) (Or.inl (W 70 rfl)) (by decide) (t := (.array .int)) (t' := .long) (by decide) (by decide)))).other W145 (Or.inr (slot_ne (Or.inr (W 45 rfl)) (Or.inl (W 54 rfl)) (by decide) (t := (.array .int)) (t' := .boolean) (by decide) (by decide))))
        have f154 := (((f131.keep K133 (ninS ne_a_ac nin0)).other W139 (Or.inr (slot_ne (Or.inr (W 47 rfl)) (Or.inl (W 70 rfl)) (by decide) (t := (.array .int)) (t' := .long) (by decide) (by decide)))).other W145 (Or.inr (slot_ne (Or.inr (W 47 rfl)) (Or.inl (W 54 rfl)) (by decide) (t := (.array .int)) (t' := .boolean) (by decide) (by decide))))
        have f155 := (f139_.other W145 (Or.inr (slot_ne (Or.inl (W 70 rfl)) (Or.inl (W 54 rfl)) (by decide) (t := .long) (t' := .boolean) (by decide) (by decide))))
        have f156 := ((((p_N_built.keep K86 (ninS ne_a_ac nin0)).keep K133 (ninS ne_a_ac nin0)).other W139 (Or.inr (slot_ne (Or.inl (W 61 rfl)) (Or.inl (W 70 rfl)) (by decide) (t := .boolean) (t' := .long) (by decide) (by decide)))).other W145 (Or.inr (slot_ne (Or.inl (W 61 rfl)) (Or.inl (W 54 rfl)) (by decide) (t := .boolean) (t' := .boolean) (by decide) (by decide))))
        have f157 := ((((p_N_entry.keep K86 (ninS ne_a_ac nin0)).keep K133 (ninS ne_a_ac nin0)).other W139 (Or.inr (slot_ne (Or.inl (W 83 rfl)) (Or.inl (W 70 rfl)) (by decide) (t := (.array .long)) (t' := .long) (by decide) (by decide)))).other W145 (Or.inr (slot_ne (Or.inl (W 83 rfl)) (Or.inl (W 54 rfl)) (by decide) (t := (.array .long)) (t' := .boolean) (by decide) (by decide))))
        have f158 := ((ac1_134.keep K139 (ninS (Ne.symm ne_a_ac) nin0)).keep K145 (ninS (Ne.symm ne_a_ac) nin0))
        exact own_ret X145 hGe (t := .boolean) rfl rfl (Or.inl ⟨rfl, by simp, _, rfl⟩) dd_prog_7_method_6_92 (by decide) (by decide) ⟨rfl, (((((Keep.refl h0 [a, ac]).trans K86 (allS (Or.inl (List.mem_of_getElem? (i := 1) rfl)) all0)).trans K133 (allS (Or.inl (List.mem_of_getElem? (i := 1) rfl)) all0)).trans K139 (allS (Or.inl (List.mem_of_getElem? (i := 0) rfl)) all0)).trans K145 (allS (Or.inl (List.mem_of_getElem? (i := 0) rfl)) all0)), by rw [e0, e1, show tn + 1 + 1 = tn + 2 from by omega, if_pos ((own_Jlt (by omega) (by omega)).mp hcap)]; exact ⟨f146, f147, f148, f149, f150, f151, f152, f153, f154, f155, f145_, f156, f157⟩, by rw [e0, e1]; exact f158⟩
      · refine own_ifN (pc' := 83) X142 dd_prog_7_method_6_80 rfl ((own_lc_ngt hcap).1) ?_
        refine own_iconst (pc' := 84) X142 dd_prog_7_method_6_83 rfl (z := (1 : Int32)) (by decide) ?_
        refine own_goto (pc' := 88) X142 dd_prog_7_method_6_84 (by decide) (by decide) ?_
        have f159 := (((p_N_tallying.keep K86 (ninS ne_a_ac nin0)).keep K133 (ninS ne_a_ac nin0)).other W139 (Or.inr (slot_ne (Or.inl (W 54 rfl)) (Or.inl (W 70 rfl)) (by decide) (t := .boolean) (t' := .long) (by decide) (by decide))))
        have f160 := (f138.keep K139)
        refine own_put (pc' := 91) X142 (host := "") (Or.inl (W 53 rfl)) Via.refl f159 f160 (Or.inl (W 54 rfl)) (W 5 rfl) (ty := .boolean) (by decide) rfl rfl p_na dd_prog_7_method_6_88 rfl ?_
        intro T161 h161 X161 W161 K161
        have f161_ := f159.same W161
        refine own_iload_n (pc' := 92) X161 dd_prog_7_method_6_91 rfl rfl ?_
        have e0 : own_in p0 x0 = 1 := if_neg hp0
        have e1 : own_in p1 x1 = 1 := if_neg hp1
        have f162 := (f160.keep K161)
        have f163 := ((((p_N_candidateCount.keep K86 (ninS ne_a_ac nin0)).keep K133 (ninS ne_a_ac nin0)).other W139 (Or.inr (slot_ne (Or.inr (W 15 rfl)) (Or.inl (W 70 rfl)) (by decide) (t := .int) (t' := .long) (by decide) (by decide)))).other W161 (Or.inr (slot_ne (Or.inr (W 15 rfl)) (Or.inl (W 54 rfl)) (by decide) (t := .int) (t' := .boolean) (by decide) (by decide))))
        have f164 := ((((p_N_bits.keep K86 (ninS ne_a_ac nin0)).keep K133 (ninS ne_a_ac nin0)).other W139 (Or.inr (slot_ne (Or.inr (W 22 rfl)) (Or.inl (W 70 rfl)) (by decide) (t := .int) (t' := .long) (by decide) (by decide)))).other W161 (Or.inr (slot_ne (Or.inr (W 22 rfl)) (Or.inl (W 54 rfl)) (by decide) (t := .int) (t' := .boolean) (by decide) (by decide))))
        have f165 := ((((p_N_ceiling.keep K86 (ninS ne_a_ac nin0)).keep K133 (ninS ne_a_ac nin0)).other W139 (Or.inr (slot_ne (Or.inr (W 31 rfl)) (Or.inl (W 70 rfl)) (by decide) (t := .long) (t' := .long) (by decide) (by decide)))).other W161 (Or.inr (slot_ne (Or.inr (W 31 rfl)) (Or.inl (W 54 rfl)) (by decide) (t := .long) (t' := .boolean) (by decide) (by decide))))
        have f166 := (f141.other W161 (Or.inr (slot_ne (Or.inr (W 38 rfl)) (Or.inl (W 54 rfl)) (by decide) (t := .long) (t' := .boolean) (by decide) (by decide))))
        have f167 := ((((p_N_radius.keep K86 (ninS ne_a_ac nin0)).keep K133 (ninS ne_a_ac nin0)).other W139 (Or.inr (slot_ne (Or.inr (W 40 rfl)) (Or.inl (W 70 rfl)) (by decide) (t := (.array .long)) (t' := .long) (by decide) (by decide)))).other W161 (Or.inr (slot_ne (Or.inr (W 40 rfl)) (Or.inl (W 54 rfl)) (by decide) (t := (.array .long)) (t' := .boolean) (by decide) (by decide))))
        have f168 := (((f89.keep K133 (ninS ne_a_ac nin0)).other W139 (Or.inr (slot_ne (Or.inr (W 42 rfl)) (Or.inl (W 70 rfl)) (by decide) (t := (.array .long)) (t' := .long) (by decide) (by decide)))).other W161 (Or.inr (slot_ne (Or.inr (W 42 rfl)) (Or.inl (W 54 rfl)) (by decide) (t := (.array .long)) (t' := .boolean) (by decide) (by decide))))
        have f169 := ((((p_N_start.keep K86 (ninS ne_a_ac nin0)).keep K133 (ninS ne_a_ac nin0)).other W139 (Or.inr (slot_ne (Or.inr (W 45 rfl)) (Or.inl (W 70 rfl)) (by decide) (t := (.array .int)) (t' := .long) (by decide) (by decide)))).other W161 (Or.inr (slot_ne (Or.inr (W 45 rfl)) (Or.inl (W 54 rfl)) (by decide) (t := (.array .int)) (t' := .boolean) (by decide) (by decide))))
        have f170 := (((f131.keep K133 (ninS ne_a_ac nin0)).other W139 (Or.inr (slot_ne (Or.inr (W 47 rfl)) (Or.inl (W 70 rfl)) (by decide) (t := (.array .int)) (t' := .long) (by decide) (by decide)))).other W161 (Or.inr (slot_ne (Or.inr (W 47 rfl)) (Or.inl (W 54 rfl)) (by decide) (t := (.array .int)) (t' := .boolean) (by decide) (by decide))))
        have f171 := (f139_.other W161 (Or.inr (slot_ne (Or.inl (W 70 rfl)) (Or.inl (W 54 rfl)) (by decide) (t := .long) (t' := .boolean) (by decide) (by decide))))
        have f172 := ((((p_N_built.keep K86 (ninS ne_a_ac nin0)).keep K133 (ninS ne_a_ac nin0)).other W139 (Or.inr (slot_ne (Or.inl (W 61 rfl)) (Or.inl (W 70 rfl)) (by decide) (t := .boolean) (t' := .long) (by decide) (by decide)))).other W161 (Or.inr (slot_ne (Or.inl (W 61 rfl)) (Or.inl (W 54 rfl)) (by decide) (t := .boolean) (t' := .boolean) (by decide) (by decide))))
        have f173 := ((((p_N_entry.keep K86 (ninS ne_a_ac nin0)).keep K133 (ninS ne_a_ac nin0)).other W139 (Or.inr (slot_ne (Or.inl (W 83 rfl)) (Or.inl (W 70 rfl)) (by decide) (t := (.array .long)) (t' := .long) (by decide) (by decide)))).other W161 (Or.inr (slot_ne (Or.inl (W 83 rfl)) (Or.inl (W 54 rfl)) (by decide) (t := (.array .long)) (t' := .boolean) (by decide) (by decide))))
        have f174 := ((ac1_134.keep K139 (ninS (Ne.symm ne_a_ac) nin0)).keep K161 (ninS (Ne.symm ne_a_ac) nin0))
        exact own_ret X161 hGe (t := .boolean) rfl rfl (Or.inl ⟨rfl, by simp, _, rfl⟩) dd_prog_7_method_6_92 (by decide) (by decide) ⟨rfl, (((((Keep.refl h0 [a, ac]).trans K86 (allS (Or.inl (List.mem_of_getElem? (i := 1) rfl)) all0)).trans K133 (allS (Or.inl (List.mem_of_getElem? (i := 1) rfl)) all0)).trans K139 (allS (Or.inl (List.mem_of_getElem? (i := 0) rfl)) all0)).trans K161 (allS (Or.inl (List.mem_of_getElem? (i := 0) rfl)) all0)), by rw [e0, e1, show tn + 1 + 1 = tn + 2 from by omega, if_neg (mt (own_Jlt (by omega) (by omega)).mpr hcap)]; exact ⟨f162, f163, f164, f165, f166, f167, f168, f169, f170, f171, f161_, f172, f173⟩, by rw [e0, e1]; exact f174⟩
theorem dd_prog_7_method_9_0 : decode prog_7_method_9_code 0 = .ok (.aload_n 0, 1) := by decide +kernel
theorem dd_prog_7_method_9_1 : decode prog_7_method_9_code 1 = .ok (.getfield 52, 3) := by decide +kernel
theorem dd_prog_7_method_9_4 : decode prog_7_method_9_code 4 = .ok (.iload_n 1, 1) := by decide +kernel
theorem dd_prog_7_method_9_5 : decode prog_7_method_9_code 5 = .ok (.iconst 1, 1) := by decide +kernel
theorem dd_prog_7_method_9_6 : decode prog_7_method_9_code 6 = .ok (.iadd, 1) := by decide +kernel
theorem dd_prog_7_method_9_7 : decode prog_7_method_9_code 7 = .ok (.iaload, 1) := by decide +kernel
theorem dd_prog_7_method_9_8 : decode prog_7_method_9_code 8 = .ok (.ireturn, 1) := by decide +kernel
theorem ef_own_to (m : MethodId) (x0 : Addr) (x1 : Int32) : entryFrame m #[(.ref x0), (.int x1)] 2 = mkF m 0 #[.val (.ref x0), .val (.int x1)] [] := by first | (simp [entryFrame, mkF, argsToLocals, Value.category]; done) | rfl
set_option maxRecDepth 65536 in
set_option maxHeartbeats 40000000 in
theorem own_to (l : Launch) (Z : State) (a0 : Array Value) (hw : ∀ d ∈ tables_1, d.before a0 Z = true) (n0 : Nat) (a : Addr) (i : Nat) (ks : ClassId) (xs : List Int32) (r : Int32) (cc bits : Int32) (ceil cap : Int64) (ar ap as_ ac : Addr) (tl : Int64) (tg bt : Int32) (en : Value) (h0 : Heap) (O0 : Old Z n0 h0) (p_N : own_NC Z h0 a cc bits ceil cap ar ap as_ ac tl tg bt en) (p_as : own_Arr Z h0 as_ ks .int (xs.map Value.int)) (p_i : i + 1 < xs.length) (p_l : xs.length < 1000) (p_r : xs.getD (i + 1) 0 = r) :
    own_Met l Z n0 (⟨"com/example/kentro/kentro/bound/NearestCandidates", "to", "(I)I"⟩ : MethodName) prog_7_method_9_code 2 (some .int) ({ frames := 0, cells := 0, slots := 0, locals := 0 } : Room) #[(.ref a), (.int (Int32.ofNat i))] h0 (fun v h => v = some (.int r) ∧ h0 = h) := by
  refine own_enter (own := "com/example/kentro/kentro/bound/NearestCandidates") (nm := "to") (plainFor_of_name pn_4) rfl rfl O0 ?_
  have W : ∀ (k : Nat) {d : Jvm.Cond}, tables_1[k]? = some d → d.before a0 Z = true := fun k d q => hw d (List.mem_of_getElem? q)
  intro G p e s m below meth c T0 hGe X0
  rw [ef_own_to m a ((Int32.ofNat i))]
  obtain ⟨p_N_E, p_N_candidateCount, p_N_bits, p_N_ceiling, p_N_capacity, p_N_radius, p_N_proposed, p_N_start, p_N_count, p_N_tallied, p_N_tallying, p_N_built, p_N_entry⟩ := p_N
  refine own_aload_n (pc' := 1) X0 dd_prog_7_method_9_0 rfl rfl rfl ?_
  refine own_get (pc' := 4) X0 (host := "") (Or.inl (W 44 rfl)) Via.refl p_N_start dd_prog_7_method_9_1 rfl ?_
  intro T1 X1
  refine own_iload_n (pc' := 5) X1 dd_prog_7_method_9_4 rfl rfl ?_
  refine own_iconst (pc' := 6) X1 dd_prog_7_method_9_5 rfl (z := (1 : Int32)) (by decide) ?_
  refine own_iadd (pc' := 7) X1 dd_prog_7_method_9_6 rfl (r := (Int32.ofNat (i + 1))) (own_inc i) ?_
  refine own_ialoadM (pc' := 8) (i := (i + 1)) (x := r) X1 p_as (own_i32 (by omega)) p_i p_r dd_prog_7_method_9_7 rfl ?_
  exact own_ret X1 hGe (t := .int) rfl rfl (Or.inl ⟨rfl, by simp, _, rfl⟩) dd_prog_7_method_9_8 (by decide) (by decide) ⟨rfl, rfl⟩
theorem dd_prog_7_method_7_0 : decode prog_7_method_7_code 0 = .ok (.aload_n 0, 1) := by decide +kernel
theorem dd_prog_7_method_7_1 : decode prog_7_method_7_code 1 = .ok (.getfield 81, 3) := by decide +kernel
theorem dd_prog_7_method_7_4 : decode prog_7_method_7_code 4 = .ok (.ifCond .ne 5, 3) := by decide +kernel
theorem dd_prog_7_method_7_7 : decode prog_7_method_7_code 7 = .ok (.lconst 0, 1) := by decide +kernel
theorem dd_prog_7_method_7_8 : decode prog_7_method_7_code 8 = .ok (.lreturn, 1) := by decide +kernel
theorem ef_own_build0 (m : MethodId) (x0 : Addr) (x1 : Addr) : entryFrame m #[(.ref x0), (.ref x1)] 5 = mkF m 0 #[.val (.ref x0), .val (.ref x1), .unset, .unset, .unset] [] := by first | (simp [entryFrame, mkF, argsToLocals, Value.category]; done) | rfl
set_option maxRecDepth 65536 in
set_option maxHeartbeats 40000000 in
theorem own_build0 (l : Launch) (Z : State) (a0 : Array Value) (hw : ∀ d ∈ tables_1, d.before a0 Z = true) (n0 : Nat) (a dist : Addr) (cc bits : Int32) (ceil cap : Int64) (ar ap as_ ac : Addr) (tl : Int64) (bt : Int32) (en : Value) (h0 : Heap) (O0 : Old Z n0 h0) (p_N : own_NC Z h0 a cc bits ceil cap ar ap as_ ac tl (0 : Int32) bt en) :
    own_Met l Z n0 (⟨"com/example/kentro/kentro/bound/NearestCandidates", "build", "([[J)J"⟩ : MethodName) prog_7_method_7_code 5 (some .long) ({ frames := 0, cells := 0, slots := 0, locals := 0 } : Room) #[(.ref a), (.ref dist)] h0 (fun v h => v = some (.long 0) ∧ h0 = h) := by
  refine own_enter (own := "com/example/kentro/kentro/bound/NearestCandidates") (nm := "build") (plainFor_of_name pn_4) rfl rfl O0 ?_
  have W : ∀ (k : Nat) {d : Jvm.Cond}, tables_1[k]? = some d → d.before a0 Z = true := fun k d q => hw d (List.mem_of_getElem? q)
  intro G p e s m below meth c T0 hGe X0
  rw [ef_own_build0 m a dist]
  obtain ⟨p_N_E, p_N_candidateCount, p_N_bits, p_N_ceiling, p_N_capacity, p_N_radius, p_N_proposed, p_N_start, p_N_count, p_N_tallied, p_N_tallying, p_N_built, p_N_entry⟩ := p_N
  refine own_aload_n (pc' := 1) X0 dd_prog_7_method_7_0 rfl rfl rfl ?_
  refine own_get (pc' := 4) X0 (host := "") (Or.inl (W 53 rfl)) Via.refl p_N_tallying dd_prog_7_method_7_1 rfl ?_
  intro T1 X1
  refine own_ifN (pc' := 7) X1 dd_prog_7_method_7_4 rfl ((teq rfl).2) ?_
  refine own_lconst (pc' := 8) X1 dd_prog_7_method_7_7 rfl (z := (0 : Int64)) (by decide) ?_
  exact own_ret X1 hGe (t := .long) rfl rfl (Or.inr (Or.inl ⟨rfl, rfl, _, rfl⟩)) dd_prog_7_method_7_8 (by decide) (by decide) ⟨rfl, rfl⟩
theorem dd_prog_7_method_7_118 : decode prog_7_method_7_code 118 = .ok (.iload 4, 2) := by decide +kernel
theorem dd_prog_7_method_7_120 : decode prog_7_method_7_code 120 = .ok (.aload_n 3, 1) := by decide +kernel
theorem dd_prog_7_method_7_121 : decode prog_7_method_7_code 121 = .ok (.arraylength, 1) := by decide +kernel
theorem dd_prog_7_method_7_122 : decode prog_7_method_7_code 122 = .ok (.if_icmp .ge 53, 3) := by decide +kernel
theorem dd_prog_7_method_7_125 : decode prog_7_method_7_code 125 = .ok (.aload_n 3, 1) := by decide +kernel
theorem dd_prog_7_method_7_126 : decode prog_7_method_7_code 126 = .ok (.iload 4, 2) := by decide +kernel
theorem dd_prog_7_method_7_128 : decode prog_7_method_7_code 128 = .ok (.laload, 1) := by decide +kernel
theorem dd_prog_7_method_7_129 : decode prog_7_method_7_code 129 = .ok (.aload_n 0, 1) := by decide +kernel
theorem dd_prog_7_method_7_130 : decode prog_7_method_7_code 130 = .ok (.getfield 49, 3) := by decide +kernel
theorem dd_prog_7_method_7_133 : decode prog_7_method_7_code 133 = .ok (.iload 4, 2) := by decide +kernel
theorem dd_prog_7_method_7_135 : decode prog_7_method_7_code 135 = .ok (.laload, 1) := by decide +kernel
theorem dd_prog_7_method_7_136 : decode prog_7_method_7_code 136 = .ok (.lcmp, 1) := by decide +kernel
theorem dd_prog_7_method_7_137 : decode prog_7_method_7_code 137 = .ok (.ifCond .gt 32, 3) := by decide +kernel
theorem dd_prog_7_method_7_169 : decode prog_7_method_7_code 169 = .ok (.iinc 4 1, 3) := by decide +kernel
theorem dd_prog_7_method_7_172 : decode prog_7_method_7_code 172 = .ok (.goto (-54), 3) := by decide +kernel
theorem dd_prog_7_method_7_175 : decode prog_7_method_7_code 175 = .ok (.iinc 2 1, 3) := by decide +kernel
theorem dd_prog_7_method_7_178 : decode prog_7_method_7_code 178 = .ok (.goto (-75), 3) := by decide +kernel
theorem dd_prog_7_method_7_103 : decode prog_7_method_7_code 103 = .ok (.iload_n 2, 1) := by decide +kernel
theorem dd_prog_7_method_7_104 : decode prog_7_method_7_code 104 = .ok (.aload_n 0, 1) := by decide +kernel
theorem dd_prog_7_method_7_105 : decode prog_7_method_7_code 105 = .ok (.getfield 7, 3) := by decide +kernel
theorem dd_prog_7_method_7_108 : decode prog_7_method_7_code 108 = .ok (.if_icmp .ge 73, 3) := by decide +kernel
theorem dd_prog_7_method_7_140 : decode prog_7_method_7_code 140 = .ok (.aload_n 0, 1) := by decide +kernel
theorem dd_prog_7_method_7_141 : decode prog_7_method_7_code 141 = .ok (.getfield 84, 3) := by decide +kernel
theorem dd_prog_7_method_7_144 : decode prog_7_method_7_code 144 = .ok (.aload_n 0, 1) := by decide +kernel
theorem dd_prog_7_method_7_145 : decode prog_7_method_7_code 145 = .ok (.getfield 56, 3) := by decide +kernel
theorem dd_prog_7_method_7_148 : decode prog_7_method_7_code 148 = .ok (.iload 4, 2) := by decide +kernel
theorem dd_prog_7_method_7_150 : decode prog_7_method_7_code 150 = .ok (.dup2, 1) := by decide +kernel
theorem dd_prog_7_method_7_151 : decode prog_7_method_7_code 151 = .ok (.iaload, 1) := by decide +kernel
theorem dd_prog_7_method_7_152 : decode prog_7_method_7_code 152 = .ok (.dup_x2, 1) := by decide +kernel
theorem dd_prog_7_method_7_153 : decode prog_7_method_7_code 153 = .ok (.iconst 1, 1) := by decide +kernel
theorem dd_prog_7_method_7_154 : decode prog_7_method_7_code 154 = .ok (.iadd, 1) := by decide +kernel
theorem dd_prog_7_method_7_155 : decode prog_7_method_7_code 155 = .ok (.iastore, 1) := by decide +kernel
theorem dd_prog_7_method_7_156 : decode prog_7_method_7_code 156 = .ok (.aload_n 3, 1) := by decide +kernel
theorem dd_prog_7_method_7_157 : decode prog_7_method_7_code 157 = .ok (.iload 4, 2) := by decide +kernel
theorem dd_prog_7_method_7_159 : decode prog_7_method_7_code 159 = .ok (.laload, 1) := by decide +kernel
theorem dd_prog_7_method_7_160 : decode prog_7_method_7_code 160 = .ok (.aload_n 0, 1) := by decide +kernel
theorem dd_prog_7_method_7_161 : decode prog_7_method_7_code 161 = .ok (.getfield 19, 3) := by decide +kernel
theorem dd_prog_7_method_7_164 : decode prog_7_method_7_code 164 = .ok (.lshl, 1) := by decide +kernel
theorem dd_prog_7_method_7_165 : decode prog_7_method_7_code 165 = .ok (.iload_n 2, 1) := by decide +kernel
theorem dd_prog_7_method_7_166 : decode prog_7_method_7_code 166 = .ok (.i2l, 1) := by decide +kernel
theorem dd_prog_7_method_7_167 : decode prog_7_method_7_code 167 = .ok (.lor, 1) := by decide +kernel
theorem dd_prog_7_method_7_168 : decode prog_7_method_7_code 168 = .ok (.lastore, 1) := by decide +kernel
set_option maxRecDepth 65536 in
set_option maxHeartbeats 40000000 in
theorem own_e11 {G : State → JFrame → Prop} {p : Program} {l : Launch} {e : Env} {s : State} {m : MethodId} {args : Array Value} {below : List Frame} {meth : Method} {c : Code} {Z : State} {a0 : Array Value} {n0 : Nat} {T0 : State} {hB : Heap} {h0 : Heap} (hw : ∀ d ∈ tables_1, d.before a0 Z = true) (a dist rw0 rw1 : Addr) (kr kp ks kc ke kd k0 k1 : ClassId) (xr pr es : List Int64) (x0 x1 y0 y1 p0 p1 : Int64) (c0 c1 n u0 u1 : Nat) (ct : List Int32) (cc bits : Int32) (ceil cap : Int64) (ar ap as_ ac : Addr) (tl : Int64) (ae : Addr)
    (X0 : own_At G p l e ({ frames := 5, cells := 1, slots := 8, locals := 200 } : Room) s m args below meth c Z n0 "com/example/kentro/kentro/bound/NearestCandidates" "build" prog_7_method_7_code 5 (some .long) T0 h0 1 8) (hGe : G = own_Fin p e below s Z n0 (fun v h => v = some (.long (cc.toInt64 * (Int32.ofNat n).toInt64)) ∧ Keep hB h [a, as_, ac, ar] ∧ ∃ (ae : Addr), own_NC Z h a cc bits ceil cap ar ap as_ ac tl 0 1 (.ref ae) ∧ own_Arr Z h ar kr .long ((p0 :: p1 :: pr).map Value.long) ∧ own_Arr Z h as_ ks .int (((List.range (n + 1)).map (own_S (own_cl n c0 c1))).map Value.int)) ({ frames := 5, cells := 1, slots := 8, locals := 200 } : Room).cells ({ frames := 5, cells := 1, slots := 8, locals := 200 } : Room).slots) (KK : Keep hB h0 [a, as_, ac]) (p_N : own_NC Z h0 a cc bits ceil cap ar ap as_ ac tl (0 : Int32) (0 : Int32) (.ref ae)) (p_ar : own_Arr Z h0 ar kr .long (xr.map Value.long)) (p_ap : own_Arr Z h0 ap kp .long ((p0 :: p1 :: pr).map Value.long)) (p_as : own_Arr Z h0 as_ ks .int (((List.range (n + 1)).map (own_S (own_cl n c0 c1))).map Value.int)) (p_ac : own_Arr Z h0 ac kc .int ((Int32.ofNat u0 :: Int32.ofNat u1 :: ct).map Value.int)) (p_ae : own_Arr Z h0 ae ke .long (es.map Value.long)) (p_di : own_Arr Z h0 dist kd (.array .long) [.ref rw0, .ref rw1]) (p_r0 : own_Arr Z h0 rw0 k0 .long ([x0, x1].map Value.long)) (p_r1 : own_Arr Z h0 rw1 k1 .long ([y0, y1].map Value.long)) (p_nae : n0 ≤ ae) (p_nar : n0 ≤ ar) (p_na : n0 ≤ a) (p_age : hB.size ≤ ae) (q_ar_ap : ar ≠ ap) (q_ar_ae : ar ≠ ae) (q_ap_ae : ap ≠ ae) (p_nac : n0 ≤ ac) (q_as_ac : as_ ≠ ac) (q_r0_ae : rw0 ≠ ae) (q_r1_ae : rw1 ≠ ae) (p_cc : cc = 2) (p_2 : 2 ≤ n) (p_lr : xr.length = n) (p_lp : (p0 :: p1 :: pr).length = n) (p_le : es.length = c0 + c1) (p_b : n < 1000) (p_c0 : c0 ≤ 2) (p_c1 : c1 ≤ 2) (p_u0 : u0 ≤ c0 + c1) (p_u1 : u1 + own_in p1 y1 ≤ c0 + c1) :
    G T0 (mkF m 118 #[.val (.ref a), .val (.ref dist), .val (.int (1 : Int32)), .val (.ref rw1), .val (.int (1 : Int32))] []) := by
  have W : ∀ (k : Nat) {d : Jvm.Cond}, tables_1[k]? = some d → d.before a0 Z = true := fun k d q => hw d (List.mem_of_getElem? q)
  obtain ⟨p_N_E, p_N_candidateCount, p_N_bits, p_N_ceiling, p_N_capacity, p_N_radius, p_N_proposed, p_N_start, p_N_count, p_N_tallied, p_N_tallying, p_N_built, p_N_entry⟩ := p_N
  refine own_iload (pc' := 120) X0 dd_prog_7_method_7_118 rfl rfl ?_
  refine own_aload_n (pc' := 121) X0 dd_prog_7_method_7_120 rfl rfl rfl ?_
  refine own_arraylength (pc' := 122) (z := (2 : Int32)) X0 p_r1 (by simp) dd_prog_7_method_7_121 rfl ?_
  refine own_icmpN (pc' := 125) X0 dd_prog_7_method_7_122 rfl ((tlt (by decide)).2.1) ?_
  refine own_aload_n (pc' := 126) X0 dd_prog_7_method_7_125 rfl rfl rfl ?_
  refine own_iload (pc' := 128) X0 dd_prog_7_method_7_126 rfl rfl ?_
  refine own_laloadM (pc' := 129) (i := 1) (x := y1) X0 p_r1 (by decide) (Nat.le_of_ble_eq_true rfl) rfl dd_prog_7_method_7_128 rfl ?_
  refine own_aload_n (pc' := 130) X0 dd_prog_7_method_7_129 rfl rfl rfl ?_
  refine own_get (pc' := 133) X0 (host := "") (Or.inl (W 41 rfl)) Via.refl p_N_proposed dd_prog_7_method_7_130 rfl ?_
  intro T1 X1
  refine own_iload (pc' := 135) X1 dd_prog_7_method_7_133 rfl rfl ?_
  refine own_laloadM (pc' := 136) (i := 1) (x := p1) X1 p_ap (by decide) (by simp) rfl dd_prog_7_method_7_135 rfl ?_
  refine own_lcmp (pc' := 137) X1 dd_prog_7_method_7_136 rfl ?_
  by_cases hq : p1 < y1
  · refine own_ifY (pc' := 169) X1 dd_prog_7_method_7_137 ((own_lc_gt hq).1) (by decide) (by decide) ?_
    have e_in : own_in p1 y1 = 0 := if_pos hq
    rw [e_in] at p_u1
    refine own_iinc (pc' := 172) X1 dd_prog_7_method_7_169 rfl rfl (z := (1 : Int32)) (by decide) (r := (2 : Int32)) (by decide) (Ls' := #[.val (.ref a), .val (.ref dist), .val (.int (1 : Int32)), .val (.ref rw1), .val (.int (2 : Int32))]) rfl ?_
    refine own_goto (pc' := 118) X1 dd_prog_7_method_7_172 (by decide) (by decide) ?_
    refine own_iload (pc' := 120) X1 dd_prog_7_method_7_118 rfl rfl ?_
    refine own_aload_n (pc' := 121) X1 dd_prog_7_method_7_120 rfl rfl rfl ?_
    refine own_arraylength (pc' := 122) (z := (2 : Int32)) X1 p_r1 (by simp) dd_prog_7_method_7_121 rfl ?_
    refine own_icmpY (pc' := 175) X1 dd_prog_7_method_7_122 ((flt (by decide)).2.1) (by decide) (by decide) ?_
    refine own_iinc (pc' := 178) X1 dd_prog_7_method_7_175 rfl rfl (z := (1 : Int32)) (by decide) (r := (2 : Int32)) (by decide) (Ls' := #[.val (.ref a), .val (.ref dist), .val (.int (2 : Int32)), .val (.ref rw1), .val (.int (2 : Int32))]) rfl ?_
    refine own_goto (pc' := 103) X1 dd_prog_7_method_7_178 (by decide) (by decide) ?_
    refine own_iload_n (pc' := 104) X1 dd_prog_7_method_7_103 rfl rfl ?_
    refine own_aload_n (pc' := 105) X1 dd_prog_7_method_7_104 rfl rfl rfl ?_
    refine own_get (pc' := 108) X1 (host := "") (Or.inl (W 14 rfl)) Via.refl p_N_candidateCount dd_prog_7_method_7_105 rfl ?_
    intro T2 X2
    rw [p_cc]
    refine own_icmpY (pc' := 181) X2 dd_prog_7_method_7_108 ((flt (by decide)).2.1) (by decide) (by decide) ?_
    exact own_b181 hw a dist rw1 (2 : Int32) kr kp ks ke xr (p0 :: p1 :: pr) es (own_cl n c0 c1) n (c0 + c1) cc bits ceil cap ar ap as_ ac tl ae (own_mono X2 (by decide : 1 ≤ 1) (by decide : 8 ≤ 8)) hGe ((Keep.refl hB [a, as_, ac]).trans KK (allS (Or.inl (List.mem_of_getElem? (i := 0) rfl)) (allS (Or.inl (List.mem_of_getElem? (i := 1) rfl)) (allS (Or.inl (List.mem_of_getElem? (i := 2) rfl)) all0)))) ⟨p_N_E, p_N_candidateCount, p_N_bits, p_N_ceiling, p_N_capacity, p_N_radius, p_N_proposed, p_N_start, p_N_count, p_N_tallied, p_N_tallying, p_N_built, p_N_entry⟩ p_ar p_ap p_as p_ae p_nae p_nar p_na p_age q_ar_ap q_ar_ae q_ap_ae p_lr p_lp p_le p_b (by omega) (own_Sok p_c0 p_c1)
  · refine own_ifN (pc' := 140) X1 dd_prog_7_method_7_137 rfl ((own_lc_ngt hq).1) ?_
    refine own_aload_n (pc' := 141) X1 dd_prog_7_method_7_140 rfl rfl rfl ?_
    refine own_get (pc' := 144) X1 (host := "") (Or.inl (W 82 rfl)) Via.refl p_N_entry dd_prog_7_method_7_141 rfl ?_
    intro T3 X3
    refine own_aload_n (pc' := 145) X3 dd_prog_7_method_7_144 rfl rfl rfl ?_
    refine own_get (pc' := 148) X3 (host := "") (Or.inl (W 46 rfl)) Via.refl p_N_count dd_prog_7_method_7_145 rfl ?_
    intro T4 X4
    refine own_iload (pc' := 150) X4 dd_prog_7_method_7_148 rfl rfl ?_
    refine own_dup2 (pc' := 151) X4 dd_prog_7_method_7_150 rfl rfl rfl ?_
    refine own_ialoadM (pc' := 152) (i := 1) (x := (Int32.ofNat u1)) X4 p_ac (by decide) (by simp) rfl dd_prog_7_method_7_151 rfl ?_
    refine own_dup_x2 (pc' := 153) X4 dd_prog_7_method_7_152 rfl rfl rfl rfl ?_
    refine own_iconst (pc' := 154) X4 dd_prog_7_method_7_153 rfl (z := (1 : Int32)) (by decide) ?_
    refine own_iadd (pc' := 155) X4 dd_prog_7_method_7_154 rfl (r := (Int32.ofNat (u1 + 1))) (own_inc _) ?_
    refine own_iastoreM (pc' := 156) (i := 1) X4 p_ac (by decide) (by simp) p_nac dd_prog_7_method_7_155 rfl ?_
    intro T5 h5 X5 K5 A5
    have ac_6 : own_Arr Z h5 ac kc .int ((Int32.ofNat u0 :: Int32.ofNat (u1 + 1) :: ct).map Value.int) := A5
    refine own_aload_n (pc' := 157) X5 dd_prog_7_method_7_156 rfl rfl rfl ?_
    refine own_iload (pc' := 159) X5 dd_prog_7_method_7_157 rfl rfl ?_
    have ne_rw1_ac : rw1 ≠ ac := own_neT p_r1 p_ac (by decide)
    have f7 := (p_r1.keep K5 (ninS ne_rw1_ac nin0))
    refine own_laloadM (pc' := 160) (i := 1) (x := y1) X5 f7 (by decide) (Nat.le_of_ble_eq_true rfl) rfl dd_prog_7_method_7_159 rfl ?_
    refine own_aload_n (pc' := 161) X5 dd_prog_7_method_7_160 rfl rfl rfl ?_
    have ne_a_ac : a ≠ ac := own_neA p_N_E (W 5 rfl) p_ac
    have f8 := (p_N_bits.keep K5 (ninS ne_a_ac nin0))
    refine own_get (pc' := 164) X5 (host := "") (Or.inl (W 21 rfl)) Via.refl f8 dd_prog_7_method_7_161 rfl ?_
    intro T9 X9
    refine own_lshl (pc' := 165) X9 dd_prog_7_method_7_164 rfl (r := (y1 <<< (bits &&& 0x3f).toInt64)) rfl ?_
    refine own_iload_n (pc' := 166) X9 dd_prog_7_method_7_165 rfl rfl ?_
    refine own_i2l (pc' := 167) X9 dd_prog_7_method_7_166 rfl (r := (1 : Int64)) (by decide) ?_
    refine own_lor (pc' := 168) X9 dd_prog_7_method_7_167 rfl (r := ((y1 <<< (bits &&& 0x3f).toInt64) ||| (1 : Int64))) rfl ?_
    have hu : u1 < es.length := by rw [p_le]; have : own_in p1 y1 = 1 := if_neg hq; omega
    have hu2 : u1 < 1000 := by rw [p_le] at hu; omega
    have ne_ae_ac : ae ≠ ac := own_neT p_ae p_ac (by decide)
    have f10 := (p_ae.keep K5 (ninS ne_ae_ac nin0))
    refine own_lastoreM (pc' := 169) (i := u1) X9 f10 (own_i32 (by omega)) hu p_nae dd_prog_7_method_7_168 rfl ?_
    intro T11 h11 X11 K11 A11
    have e_in : own_in p1 y1 = 1 := if_neg hq
    rw [e_in] at p_u1
    refine own_iinc (pc' := 172) X11 dd_prog_7_method_7_169 rfl rfl (z := (1 : Int32)) (by decide) (r := (2 : Int32)) (by decide) (Ls' := #[.val (.ref a), .val (.ref dist), .val (.int (1 : Int32)), .val (.ref rw1), .val (.int (2 : Int32))]) rfl ?_
    refine own_goto (pc' := 118) X11 dd_prog_7_method_7_172 (by decide) (by decide) ?_
    refine own_iload (pc' := 120) X11 dd_prog_7_method_7_118 rfl rfl ?_
    refine own_aload_n (pc' := 121) X11 dd_prog_7_method_7_120 rfl rfl rfl ?_
    have f12 := (f7.keep K11 (ninS q_r1_ae nin0))
    refine own_arraylength (pc' := 122) (z := (2 : Int32)) X11 f12 (by simp) dd_prog_7_method_7_121 rfl ?_
    refine own_icmpY (pc' := 175) X11 dd_prog_7_method_7_122 ((flt (by decide)).2.1) (by decide) (by decide) ?_
    refine own_iinc (pc' := 178) X11 dd_prog_7_method_7_175 rfl rfl (z := (1 : Int32)) (by decide) (r := (2 : Int32)) (by decide) (Ls' := #[.val (.ref a), .val (.ref dist), .val (.int (2 : Int32)), .val (.ref rw1), .val (.int (2 : Int32))]) rfl ?_
    refine own_goto (pc' := 103) X11 dd_prog_7_method_7_178 (by decide) (by decide) ?_
    refine own_iload_n (pc' := 104) X11 dd_prog_7_method_7_103 rfl rfl ?_
    refine own_aload_n (pc' := 105) X11 dd_prog_7_method_7_104 rfl rfl rfl ?_
    have ne_a_ae : a ≠ ae := own_neA p_N_E (W 5 rfl) p_ae
    have f13 := ((p_N_candidateCount.keep K5 (ninS ne_a_ac nin0)).keep K11 (ninS ne_a_ae nin0))
    refine own_get (pc' := 108) X11 (host := "") (Or.inl (W 14 rfl)) Via.refl f13 dd_prog_7_method_7_105 rfl ?_
    intro T14 X14
    rw [p_cc]
    refine own_icmpY (pc' := 181) X14 dd_prog_7_method_7_108 ((flt (by decide)).2.1) (by decide) (by decide) ?_
    have f15 := ((p_N_E.keep K5).keep K11)
    have f16 := (f8.keep K11 (ninS ne_a_ae nin0))
    have f17 := ((p_N_ceiling.keep K5 (ninS ne_a_ac nin0)).keep K11 (ninS ne_a_ae nin0))
    have f18 := ((p_N_capacity.keep K5 (ninS ne_a_ac nin0)).keep K11 (ninS ne_a_ae nin0))
    have f19 := ((p_N_radius.keep K5 (ninS ne_a_ac nin0)).keep K11 (ninS ne_a_ae nin0))
    have f20 := ((p_N_proposed.keep K5 (ninS ne_a_ac nin0)).keep K11 (ninS ne_a_ae nin0))
    have f21 := ((p_N_start.keep K5 (ninS ne_a_ac nin0)).keep K11 (ninS ne_a_ae nin0))
    have f22 := ((p_N_count.keep K5 (ninS ne_a_ac nin0)).keep K11 (ninS ne_a_ae nin0))
    have f23 := ((p_N_tallied.keep K5 (ninS ne_a_ac nin0)).keep K11 (ninS ne_a_ae nin0))
    have f24 := ((p_N_tallying.keep K5 (ninS ne_a_ac nin0)).keep K11 (ninS ne_a_ae nin0))
    have f25 := ((p_N_built.keep K5 (ninS ne_a_ac nin0)).keep K11 (ninS ne_a_ae nin0))
    have f26 := ((p_N_entry.keep K5 (ninS ne_a_ac nin0)).keep K11 (ninS ne_a_ae nin0))
    have ne_ar_ac : ar ≠ ac := own_neT p_ar p_ac (by decide)
    have f27 := ((p_ar.keep K5 (ninS ne_ar_ac nin0)).keep K11 (ninS q_ar_ae nin0))
    have ne_ap_ac : ap ≠ ac := own_neT p_ap p_ac (by decide)
    have f28 := ((p_ap.keep K5 (ninS ne_ap_ac nin0)).keep K11 (ninS q_ap_ae nin0))
    have ne_as__ae : as_ ≠ ae := own_neT p_as p_ae (by decide)
    have f29 := ((p_as.keep K5 (ninS q_as_ac nin0)).keep K11 (ninS ne_as__ae nin0))
    have age_ae : hB.size ≤ ae := Nat.le_trans (Nat.le_refl _) p_age
    exact own_b181 hw a dist rw1 (2 : Int32) kr kp ks ke xr (p0 :: p1 :: pr) (es.set u1 ((y1 <<< (bits &&& 0x3f).toInt64) ||| (1 : Int64))) (own_cl n c0 c1) n (c0 + c1) cc bits ceil cap ar ap as_ ac tl ae (own_mono X14 (by decide : 1 ≤ 1) (by decide : 8 ≤ 8)) hGe ((((Keep.refl hB [a, as_, ac]).trans KK (allS (Or.inl (List.mem_of_getElem? (i := 0) rfl)) (allS (Or.inl (List.mem_of_getElem? (i := 1) rfl)) (allS (Or.inl (List.mem_of_getElem? (i := 2) rfl)) all0)))).trans K5 (allS (Or.inl (List.mem_of_getElem? (i := 2) rfl)) all0)).trans K11 (allS (Or.inr age_ae) all0)) ⟨f15, f13, f16, f17, f18, f19, f20, f21, f22, f23, f24, f25, f26⟩ f27 f28 f29 A11 p_nae p_nar p_na p_age q_ar_ap q_ar_ae q_ap_ae p_lr p_lp (by rw [List.length_set]; exact p_le) p_b (by omega) (own_Sok p_c0 p_c1)
set_option maxRecDepth 65536 in
set_option maxHeartbeats 40000000 in
theorem own_e10 {G : State → JFrame → Prop} {p : Program} {l : Launch} {e : Env} {s : State} {m : MethodId} {args : Array Value} {below : List Frame} {meth : Method} {c : Code} {Z : State} {a0 : Array Value} {n0 : Nat} {T0 : State} {hB : Heap} {h0 : Heap} (hw : ∀ d ∈ tables_1, d.before a0 Z = true) (a dist rw0 rw1 : Addr) (kr kp ks kc ke kd k0 k1 : ClassId) (xr pr es : List Int64) (x0 x1 y0 y1 p0 p1 : Int64) (c0 c1 n u0 u1 : Nat) (ct : List Int32) (cc bits : Int32) (ceil cap : Int64) (ar ap as_ ac : Addr) (tl : Int64) (ae : Addr)
    (X0 : own_At G p l e ({ frames := 5, cells := 1, slots := 8, locals := 200 } : Room) s m args below meth c Z n0 "com/example/kentro/kentro/bound/NearestCandidates" "build" prog_7_method_7_code 5 (some .long) T0 h0 1 8) (hGe : G = own_Fin p e below s Z n0 (fun v h => v = some (.long (cc.toInt64 * (Int32.ofNat n).toInt64)) ∧ Keep hB h [a, as_, ac, ar] ∧ ∃ (ae : Addr), own_NC Z h a cc bits ceil cap ar ap as_ ac tl 0 1 (.ref ae) ∧ own_Arr Z h ar kr .long ((p0 :: p1 :: pr).map Value.long) ∧ own_Arr Z h as_ ks .int (((List.range (n + 1)).map (own_S (own_cl n c0 c1))).map Value.int)) ({ frames := 5, cells := 1, slots := 8, locals := 200 } : Room).cells ({ frames := 5, cells := 1, slots := 8, locals := 200 } : Room).slots) (KK : Keep hB h0 [a, as_, ac]) (p_N : own_NC Z h0 a cc bits ceil cap ar ap as_ ac tl (0 : Int32) (0 : Int32) (.ref ae)) (p_ar : own_Arr Z h0 ar kr .long (xr.map Value.long)) (p_ap : own_Arr Z h0 ap kp .long ((p0 :: p1 :: pr).map Value.long)) (p_as : own_Arr Z h0 as_ ks .int (((List.range (n + 1)).map (own_S (own_cl n c0 c1))).map Value.int)) (p_ac : own_Arr Z h0 ac kc .int ((Int32.ofNat u0 :: Int32.ofNat u1 :: ct).map Value.int)) (p_ae : own_Arr Z h0 ae ke .long (es.map Value.long)) (p_di : own_Arr Z h0 dist kd (.array .long) [.ref rw0, .ref rw1]) (p_r0 : own_Arr Z h0 rw0 k0 .long ([x0, x1].map Value.long)) (p_r1 : own_Arr Z h0 rw1 k1 .long ([y0, y1].map Value.long)) (p_nae : n0 ≤ ae) (p_nar : n0 ≤ ar) (p_na : n0 ≤ a) (p_age : hB.size ≤ ae) (q_ar_ap : ar ≠ ap) (q_ar_ae : ar ≠ ae) (q_ap_ae : ap ≠ ae) (p_nac : n0 ≤ ac) (q_as_ac : as_ ≠ ac) (q_r0_ae : rw0 ≠ ae) (q_r1_ae : rw1 ≠ ae) (p_cc : cc = 2) (p_2 : 2 ≤ n) (p_lr : xr.length = n) (p_lp : (p0 :: p1 :: pr).length = n) (p_le : es.length = c0 + c1) (p_b : n < 1000) (p_c0 : c0 ≤ 2) (p_c1 : c1 ≤ 2) (p_u0 : u0 + own_in p0 y0 ≤ c0 + c1) (p_u1 : u1 + own_in p1 y1 ≤ c0 + c1) :
    G T0 (mkF m 118 #[.val (.ref a), .val (.ref dist), .val (.int (1 : Int32)), .val (.ref rw1), .val (.int (0 : Int32))] []) := by
  have W : ∀ (k : Nat) {d : Jvm.Cond}, tables_1[k]? = some d → d.before a0 Z = true := fun k d q => hw d (List.mem_of_getElem? q)
  obtain ⟨p_N_E, p_N_candidateCount, p_N_bits, p_N_ceiling, p_N_capacity, p_N_radius, p_N_proposed, p_N_start, p_N_count, p_N_tallied, p_N_tallying, p_N_built, p_N_entry⟩ := p_N
  refine own_iload (pc' := 120) X0 dd_prog_7_method_7_118 rfl rfl ?_
  refine own_aload_n (pc' := 121) X0 dd_prog_7_method_7_120 rfl rfl rfl ?_
  refine own_arraylength (pc' := 122) (z := (2 : Int32)) X0 p_r1 (by simp) dd_prog_7_method_7_121 rfl ?_
  refine own_icmpN (pc' := 125) X0 dd_prog_7_method_7_122 rfl ((tlt (by decide)).2.1) ?_
  refine own_aload_n (pc' := 126) X0 dd_prog_7_method_7_125 rfl rfl rfl ?_
  refine own_iload (pc' := 128) X0 dd_prog_7_method_7_126 rfl rfl ?_
  refine own_laloadM (pc' := 129) (i := 0) (x := y0) X0 p_r1 (by decide) (Nat.le_of_ble_eq_true rfl) rfl dd_prog_7_method_7_128 rfl ?_
  refine own_aload_n (pc' := 130) X0 dd_prog_7_method_7_129 rfl rfl rfl ?_
  refine own_get (pc' := 133) X0 (host := "") (Or.inl (W 41 rfl)) Via.refl p_N_proposed dd_prog_7_method_7_130 rfl ?_
  intro T1 X1
  refine own_iload (pc' := 135) X1 dd_prog_7_method_7_133 rfl rfl ?_
  refine own_laloadM (pc' := 136) (i := 0) (x := p0) X1 p_ap (by decide) (by simp) rfl dd_prog_7_method_7_135 rfl ?_
  refine own_lcmp (pc' := 137) X1 dd_prog_7_method_7_136 rfl ?_
  by_cases hq : p0 < y0
  · refine own_ifY (pc' := 169) X1 dd_prog_7_method_7_137 ((own_lc_gt hq).1) (by decide) (by decide) ?_
    have e_in : own_in p0 y0 = 0 := if_pos hq
    rw [e_in] at p_u0
    refine own_iinc (pc' := 172) X1 dd_prog_7_method_7_169 rfl rfl (z := (1 : Int32)) (by decide) (r := (1 : Int32)) (by decide) (Ls' := #[.val (.ref a), .val (.ref dist), .val (.int (1 : Int32)), .val (.ref rw1), .val (.int (1 : Int32))]) rfl ?_
    refine own_goto (pc' := 118) X1 dd_prog_7_method_7_172 (by decide) (by decide) ?_
    exact own_e11 hw a dist rw0 rw1 kr kp ks kc ke kd k0 k1 xr pr es x0 x1 y0 y1 p0 p1 c0 c1 n u0 u1 ct cc bits ceil cap ar ap as_ ac tl ae (own_mono X1 (by decide : 1 ≤ 1) (by decide : 8 ≤ 8)) hGe ((Keep.refl hB [a, as_, ac]).trans KK (allS (Or.inl (List.mem_of_getElem? (i := 0) rfl)) (allS (Or.inl (List.mem_of_getElem? (i := 1) rfl)) (allS (Or.inl (List.mem_of_getElem? (i := 2) rfl)) all0)))) ⟨p_N_E, p_N_candidateCount, p_N_bits, p_N_ceiling, p_N_capacity, p_N_radius, p_N_proposed, p_N_start, p_N_count, p_N_tallied, p_N_tallying, p_N_built, p_N_entry⟩ p_ar p_ap p_as p_ac p_ae p_di p_r0 p_r1 p_nae p_nar p_na p_age q_ar_ap q_ar_ae q_ap_ae p_nac q_as_ac q_r0_ae q_r1_ae p_cc p_2 p_lr p_lp p_le p_b p_c0 p_c1 (by omega) (by omega)
  · refine own_ifN (pc' := 140) X1 dd_prog_7_method_7_137 rfl ((own_lc_ngt hq).1) ?_
    refine own_aload_n (pc' := 141) X1 dd_prog_7_method_7_140 rfl rfl rfl ?_
    refine own_get (pc' := 144) X1 (host := "") (Or.inl (W 82 rfl)) Via.refl p_N_entry dd_prog_7_method_7_141 rfl ?_
    intro T2 X2
    refine own_aload_n (pc' := 145) X2 dd_prog_7_method_7_144 rfl rfl rfl ?_
    refine own_get (pc' := 148) X2 (host := "") (Or.inl (W 46 rfl)) Via.refl p_N_count dd_prog_7_method_7_145 rfl ?_
    intro T3 X3
    refine own_iload (pc' := 150) X3 dd_prog_7_method_7_148 rfl rfl ?_
    refine own_dup2 (pc' := 151) X3 dd_prog_7_method_7_150 rfl rfl rfl ?_
    refine own_ialoadM (pc' := 152) (i := 0) (x := (Int32.ofNat u0)) X3 p_ac (by decide) (by simp) rfl dd_prog_7_method_7_151 rfl ?_
    refine own_dup_x2 (pc' := 153) X3 dd_prog_7_method_7_152 rfl rfl rfl rfl ?_
    refine own_iconst (pc' := 154) X3 dd_prog_7_method_7_153 rfl (z := (1 : Int32)) (by decide) ?_
    refine own_iadd (pc' := 155) X3 dd_prog_7_method_7_154 rfl (r := (Int32.ofNat (u0 + 1))) (own_inc _) ?_
    refine own_iastoreM (pc' := 156) (i := 0) X3 p_ac (by decide) (by simp) p_nac dd_prog_7_method_7_155 rfl ?_
    intro T4 h4 X4 K4 A4
    have ac_5 : own_Arr Z h4 ac kc .int ((Int32.ofNat (u0 + 1) :: Int32.ofNat u1 :: ct).map Value.int) := A4
    refine own_aload_n (pc' := 157) X4 dd_prog_7_method_7_156 rfl rfl rfl ?_
    refine own_iload (pc' := 159) X4 dd_prog_7_method_7_157 rfl rfl ?_
    have ne_rw1_ac : rw1 ≠ ac := own_neT p_r1 p_ac (by decide)
    have f6 := (p_r1.keep K4 (ninS ne_rw1_ac nin0))
    refine own_laloadM (pc' := 160) (i := 0) (x := y0) X4 f6 (by decide) (Nat.le_of_ble_eq_true rfl) rfl dd_prog_7_method_7_159 rfl ?_
    refine own_aload_n (pc' := 161) X4 dd_prog_7_method_7_160 rfl rfl rfl ?_
    have ne_a_ac : a ≠ ac := own_neA p_N_E (W 5 rfl) p_ac
    have f7 := (p_N_bits.keep K4 (ninS ne_a_ac nin0))
    refine own_get (pc' := 164) X4 (host := "") (Or.inl (W 21 rfl)) Via.refl f7 dd_prog_7_method_7_161 rfl ?_
    intro T8 X8
    refine own_lshl (pc' := 165) X8 dd_prog_7_method_7_164 rfl (r := (y0 <<< (bits &&& 0x3f).toInt64)) rfl ?_
    refine own_iload_n (pc' := 166) X8 dd_prog_7_method_7_165 rfl rfl ?_
    refine own_i2l (pc' := 167) X8 dd_prog_7_method_7_166 rfl (r := (1 : Int64)) (by decide) ?_
    refine own_lor (pc' := 168) X8 dd_prog_7_method_7_167 rfl (r := ((y0 <<< (bits &&& 0x3f).toInt64) ||| (1 : Int64))) rfl ?_
    have hu : u0 < es.length := by rw [p_le]; have : own_in p0 y0 = 1 := if_neg hq; omega
    have hu2 : u0 < 1000 := by rw [p_le] at hu; omega
    have ne_ae_ac : ae ≠ ac := own_neT p_ae p_ac (by decide)
    have f9 := (p_ae.keep K4 (ninS ne_ae_ac nin0))
    refine own_lastoreM (pc' := 169) (i := u0) X8 f9 (own_i32 (by omega)) hu p_nae dd_prog_7_method_7_168 rfl ?_
    intro T10 h10 X10 K10 A10
    have e_in : own_in p0 y0 = 1 := if_neg hq
    rw [e_in] at p_u0
    refine own_iinc (pc' := 172) X10 dd_prog_7_method_7_169 rfl rfl (z := (1 : Int32)) (by decide) (r := (1 : Int32)) (by decide) (Ls' := #[.val (.ref a), .val (.ref dist), .val (.int (1 : Int32)), .val (.ref rw1), .val (.int (1 : Int32))]) rfl ?_
    refine own_goto (pc' := 118) X10 dd_prog_7_method_7_172 (by decide) (by decide) ?_
    have f11 := ((p_N_E.keep K4).keep K10)
    have ne_a_ae : a ≠ ae := own_neA p_N_E (W 5 rfl) p_ae
    have f12 := ((p_N_candidateCount.keep K4 (ninS ne_a_ac nin0)).keep K10 (ninS ne_a_ae nin0))
    have f13 := (f7.keep K10 (ninS ne_a_ae nin0))
    have f14 := ((p_N_ceiling.keep K4 (ninS ne_a_ac nin0)).keep K10 (ninS ne_a_ae nin0))
    have f15 := ((p_N_capacity.keep K4 (ninS ne_a_ac nin0)).keep K10 (ninS ne_a_ae nin0))
    have f16 := ((p_N_radius.keep K4 (ninS ne_a_ac nin0)).keep K10 (ninS ne_a_ae nin0))
    have f17 := ((p_N_proposed.keep K4 (ninS ne_a_ac nin0)).keep K10 (ninS ne_a_ae nin0))
    have f18 := ((p_N_start.keep K4 (ninS ne_a_ac nin0)).keep K10 (ninS ne_a_ae nin0))
    have f19 := ((p_N_count.keep K4 (ninS ne_a_ac nin0)).keep K10 (ninS ne_a_ae nin0))
    have f20 := ((p_N_tallied.keep K4 (ninS ne_a_ac nin0)).keep K10 (ninS ne_a_ae nin0))
    have f21 := ((p_N_tallying.keep K4 (ninS ne_a_ac nin0)).keep K10 (ninS ne_a_ae nin0))
    have f22 := ((p_N_built.keep K4 (ninS ne_a_ac nin0)).keep K10 (ninS ne_a_ae nin0))
    have f23 := ((p_N_entry.keep K4 (ninS ne_a_ac nin0)).keep K10 (ninS ne_a_ae nin0))
    have ne_ar_ac : ar ≠ ac := own_neT p_ar p_ac (by decide)
    have f24 := ((p_ar.keep K4 (ninS ne_ar_ac nin0)).keep K10 (ninS q_ar_ae nin0))
    have ne_ap_ac : ap ≠ ac := own_neT p_ap p_ac (by decide)
    have f25 := ((p_ap.keep K4 (ninS ne_ap_ac nin0)).keep K10 (ninS q_ap_ae nin0))
    have ne_as__ae : as_ ≠ ae := own_neT p_as p_ae (by decide)
    have f26 := ((p_as.keep K4 (ninS q_as_ac nin0)).keep K10 (ninS ne_as__ae nin0))
    have f27 := (ac_5.keep K10 (ninS (Ne.symm ne_ae_ac) nin0))
    have ne_dist_ac : dist ≠ ac := own_neT p_di p_ac (by decide)
    have ne_dist_ae : dist ≠ ae := own_neT p_di p_ae (by decide)
    have f28 := ((p_di.keep K4 (ninS ne_dist_ac nin0)).keep K10 (ninS ne_dist_ae nin0))
    have ne_rw0_ac : rw0 ≠ ac := own_neT p_r0 p_ac (by decide)
    have f29 := ((p_r0.keep K4 (ninS ne_rw0_ac nin0)).keep K10 (ninS q_r0_ae nin0))
    have f30 := (f6.keep K10 (ninS q_r1_ae nin0))
    have age_ae : hB.size ≤ ae := Nat.le_trans (Nat.le_refl _) p_age
    exact own_e11 hw a dist rw0 rw1 kr kp ks kc ke kd k0 k1 xr pr (es.set u0 ((y0 <<< (bits &&& 0x3f).toInt64) ||| (1 : Int64))) x0 x1 y0 y1 p0 p1 c0 c1 n (u0 + 1) u1 ct cc bits ceil cap ar ap as_ ac tl ae (own_mono X10 (by decide : 1 ≤ 1) (by decide : 8 ≤ 8)) hGe ((((Keep.refl hB [a, as_, ac]).trans KK (allS (Or.inl (List.mem_of_getElem? (i := 0) rfl)) (allS (Or.inl (List.mem_of_getElem? (i := 1) rfl)) (allS (Or.inl (List.mem_of_getElem? (i := 2) rfl)) all0)))).trans K4 (allS (Or.inl (List.mem_of_getElem? (i := 2) rfl)) all0)).trans K10 (allS (Or.inr age_ae) all0)) ⟨f11, f12, f13, f14, f15, f16, f17, f18, f19, f20, f21, f22, f23⟩ f24 f25 f26 f27 A10 f28 f29 f30 p_nae p_nar p_na p_age q_ar_ap q_ar_ae q_ap_ae p_nac q_as_ac q_r0_ae q_r1_ae p_cc p_2 p_lr p_lp (by rw [List.length_set]; exact p_le) p_b p_c0 p_c1 (by omega) (by omega)
theorem dd_prog_7_method_7_111 : decode prog_7_method_7_code 111 = .ok (.aload_n 1, 1) := by decide +kernel
theorem dd_prog_7_method_7_112 : decode prog_7_method_7_code 112 = .ok (.iload_n 2, 1) := by decide +kernel
theorem dd_prog_7_method_7_113 : decode prog_7_method_7_code 113 = .ok (.aaload, 1) := by decide +kernel
theorem dd_prog_7_method_7_114 : decode prog_7_method_7_code 114 = .ok (.astore_n 3, 1) := by decide +kernel
theorem dd_prog_7_method_7_115 : decode prog_7_method_7_code 115 = .ok (.iconst 0, 1) := by decide +kernel
theorem dd_prog_7_method_7_116 : decode prog_7_method_7_code 116 = .ok (.istore 4, 2) := by decide +kernel
set_option maxRecDepth 65536 in
set_option maxHeartbeats 40000000 in
theorem own_e01 {G : State → JFrame → Prop} {p : Program} {l : Launch} {e : Env} {s : State} {m : MethodId} {args : Array Value} {below : List Frame} {meth : Method} {c : Code} {Z : State} {a0 : Array Value} {n0 : Nat} {T0 : State} {hB : Heap} {h0 : Heap} (hw : ∀ d ∈ tables_1, d.before a0 Z = true) (a dist rw0 rw1 : Addr) (kr kp ks kc ke kd k0 k1 : ClassId) (xr pr es : List Int64) (x0 x1 y0 y1 p0 p1 : Int64) (c0 c1 n u0 u1 : Nat) (ct : List Int32) (cc bits : Int32) (ceil cap : Int64) (ar ap as_ ac : Addr) (tl : Int64) (ae : Addr)
    (X0 : own_At G p l e ({ frames := 5, cells := 1, slots := 8, locals := 200 } : Room) s m args below meth c Z n0 "com/example/kentro/kentro/bound/NearestCandidates" "build" prog_7_method_7_code 5 (some .long) T0 h0 1 8) (hGe : G = own_Fin p e below s Z n0 (fun v h => v = some (.long (cc.toInt64 * (Int32.ofNat n).toInt64)) ∧ Keep hB h [a, as_, ac, ar] ∧ ∃ (ae : Addr), own_NC Z h a cc bits ceil cap ar ap as_ ac tl 0 1 (.ref ae) ∧ own_Arr Z h ar kr .long ((p0 :: p1 :: pr).map Value.long) ∧ own_Arr Z h as_ ks .int (((List.range (n + 1)).map (own_S (own_cl n c0 c1))).map Value.int)) ({ frames := 5, cells := 1, slots := 8, locals := 200 } : Room).cells ({ frames := 5, cells := 1, slots := 8, locals := 200 } : Room).slots) (KK : Keep hB h0 [a, as_, ac]) (p_N : own_NC Z h0 a cc bits ceil cap ar ap as_ ac tl (0 : Int32) (0 : Int32) (.ref ae)) (p_ar : own_Arr Z h0 ar kr .long (xr.map Value.long)) (p_ap : own_Arr Z h0 ap kp .long ((p0 :: p1 :: pr).map Value.long)) (p_as : own_Arr Z h0 as_ ks .int (((List.range (n + 1)).map (own_S (own_cl n c0 c1))).map Value.int)) (p_ac : own_Arr Z h0 ac kc .int ((Int32.ofNat u0 :: Int32.ofNat u1 :: ct).map Value.int)) (p_ae : own_Arr Z h0 ae ke .long (es.map Value.long)) (p_di : own_Arr Z h0 dist kd (.array .long) [.ref rw0, .ref rw1]) (p_r0 : own_Arr Z h0 rw0 k0 .long ([x0, x1].map Value.long)) (p_r1 : own_Arr Z h0 rw1 k1 .long ([y0, y1].map Value.long)) (p_nae : n0 ≤ ae) (p_nar : n0 ≤ ar) (p_na : n0 ≤ a) (p_age : hB.size ≤ ae) (q_ar_ap : ar ≠ ap) (q_ar_ae : ar ≠ ae) (q_ap_ae : ap ≠ ae) (p_nac : n0 ≤ ac) (q_as_ac : as_ ≠ ac) (q_r0_ae : rw0 ≠ ae) (q_r1_ae : rw1 ≠ ae) (p_cc : cc = 2) (p_2 : 2 ≤ n) (p_lr : xr.length = n) (p_lp : (p0 :: p1 :: pr).length = n) (p_le : es.length = c0 + c1) (p_b : n < 1000) (p_c0 : c0 ≤ 2) (p_c1 : c1 ≤ 2) (p_u0 : u0 + own_in p0 y0 ≤ c0 + c1) (p_u1 : u1 + own_in p1 x1 + own_in p1 y1 ≤ c0 + c1) :
    G T0 (mkF m 118 #[.val (.ref a), .val (.ref dist), .val (.int (0 : Int32)), .val (.ref rw0), .val (.int (1 : Int32))] []) := by
  have W : ∀ (k : Nat) {d : Jvm.Cond}, tables_1[k]? = some d → d.before a0 Z = true := fun k d q => hw d (List.mem_of_getElem? q)
  obtain ⟨p_N_E, p_N_candidateCount, p_N_bits, p_N_ceiling, p_N_capacity, p_N_radius, p_N_proposed, p_N_start, p_N_count, p_N_tallied, p_N_tallying, p_N_built, p_N_entry⟩ := p_N
  refine own_iload (pc' := 120) X0 dd_prog_7_method_7_118 rfl rfl ?_
  refine own_aload_n (pc' := 121) X0 dd_prog_7_method_7_120 rfl rfl rfl ?_
  refine own_arraylength (pc' := 122) (z := (2 : Int32)) X0 p_r0 (by simp) dd_prog_7_method_7_121 rfl ?_
  refine own_icmpN (pc' := 125) X0 dd_prog_7_method_7_122 rfl ((tlt (by decide)).2.1) ?_
  refine own_aload_n (pc' := 126) X0 dd_prog_7_method_7_125 rfl rfl rfl ?_
  refine own_iload (pc' := 128) X0 dd_prog_7_method_7_126 rfl rfl ?_
  refine own_laloadM (pc' := 129) (i := 1) (x := x1) X0 p_r0 (by decide) (Nat.le_of_ble_eq_true rfl) rfl dd_prog_7_method_7_128 rfl ?_
  refine own_aload_n (pc' := 130) X0 dd_prog_7_method_7_129 rfl rfl rfl ?_
  refine own_get (pc' := 133) X0 (host := "") (Or.inl (W 41 rfl)) Via.refl p_N_proposed dd_prog_7_method_7_130 rfl ?_
  intro T1 X1
  refine own_iload (pc' := 135) X1 dd_prog_7_method_7_133 rfl rfl ?_
  refine own_laloadM (pc' := 136) (i := 1) (x := p1) X1 p_ap (by decide) (by simp) rfl dd_prog_7_method_7_135 rfl ?_
  refine own_lcmp (pc' := 137) X1 dd_prog_7_method_7_136 rfl ?_
  by_cases hq : p1 < x1
  · refine own_ifY (pc' := 169) X1 dd_prog_7_method_7_137 ((own_lc_gt hq).1) (by decide) (by decide) ?_
    have e_in : own_in p1 x1 = 0 := if_pos hq
    rw [e_in] at p_u1
    refine own_iinc (pc' := 172) X1 dd_prog_7_method_7_169 rfl rfl (z := (1 : Int32)) (by decide) (r := (2 : Int32)) (by decide) (Ls' := #[.val (.ref a), .val (.ref dist), .val (.int (0 : Int32)), .val (.ref rw0), .val (.int (2 : Int32))]) rfl ?_
    refine own_goto (pc' := 118) X1 dd_prog_7_method_7_172 (by decide) (by decide) ?_
    refine own_iload (pc' := 120) X1 dd_prog_7_method_7_118 rfl rfl ?_
    refine own_aload_n (pc' := 121) X1 dd_prog_7_method_7_120 rfl rfl rfl ?_
    refine own_arraylength (pc' := 122) (z := (2 : Int32)) X1 p_r0 (by simp) dd_prog_7_method_7_121 rfl ?_
    refine own_icmpY (pc' := 175) X1 dd_prog_7_method_7_122 ((flt (by decide)).2.1) (by decide) (by decide) ?_
    refine own_iinc (pc' := 178) X1 dd_prog_7_method_7_175 rfl rfl (z := (1 : Int32)) (by decide) (r := (1 : Int32)) (by decide) (Ls' := #[.val (.ref a), .val (.ref dist), .val (.int (1 : Int32)), .val (.ref rw0), .val (.int (2 : Int32))]) rfl ?_
    refine own_goto (pc' := 103) X1 dd_prog_7_method_7_178 (by decide) (by decide) ?_
    refine own_iload_n (pc' := 104) X1 dd_prog_7_method_7_103 rfl rfl ?_
    refine own_aload_n (pc' := 105) X1 dd_prog_7_method_7_104 rfl rfl rfl ?_
    refine own_get (pc' := 108) X1 (host := "") (Or.inl (W 14 rfl)) Via.refl p_N_candidateCount dd_prog_7_method_7_105 rfl ?_
    intro T2 X2
    rw [p_cc]
    refine own_icmpN (pc' := 111) X2 dd_prog_7_method_7_108 rfl ((tlt (by decide)).2.1) ?_
    refine own_aload_n (pc' := 112) X2 dd_prog_7_method_7_111 rfl rfl rfl ?_
    refine own_iload_n (pc' := 113) X2 dd_prog_7_method_7_112 rfl rfl ?_
    refine own_aaload (pc' := 114) (i := 1) (v := (.ref rw1)) X2 p_di rfl (by decide) rfl dd_prog_7_method_7_113 rfl ?_
    refine own_astore_n (pc' := 115) X2 dd_prog_7_method_7_114 rfl rfl (Ls' := #[.val (.ref a), .val (.ref dist), .val (.int (1 : Int32)), .val (.ref rw1), .val (.int (2 : Int32))]) rfl ?_
    refine own_iconst (pc' := 116) X2 dd_prog_7_method_7_115 rfl (z := (0 : Int32)) (by decide) ?_
    refine own_istore (pc' := 118) X2 dd_prog_7_method_7_116 rfl (Ls' := #[.val (.ref a), .val (.ref dist), .val (.int (1 : Int32)), .val (.ref rw1), .val (.int (0 : Int32))]) rfl ?_
    exact own_e10 hw a dist rw0 rw1 kr kp ks kc ke kd k0 k1 xr pr es x0 x1 y0 y1 p0 p1 c0 c1 n u0 u1 ct cc bits ceil cap ar ap as_ ac tl ae (own_mono X2 (by decide : 1 ≤ 1) (by decide : 8 ≤ 8)) hGe ((Keep.refl hB [a, as_, ac]).trans KK (allS (Or.inl (List.mem_of_getElem? (i := 0) rfl)) (allS (Or.inl (List.mem_of_getElem? (i := 1) rfl)) (allS (Or.inl (List.mem_of_getElem? (i := 2) rfl)) all0)))) ⟨p_N_E, p_N_candidateCount, p_N_bits, p_N_ceiling, p_N_capacity, p_N_radius, p_N_proposed, p_N_start, p_N_count, p_N_tallied, p_N_tallying, p_N_built, p_N_entry⟩ p_ar p_ap p_as p_ac p_ae p_di p_r0 p_r1 p_nae p_nar p_na p_age q_ar_ap q_ar_ae q_ap_ae p_nac q_as_ac q_r0_ae q_r1_ae p_cc p_2 p_lr p_lp p_le p_b p_c0 p_c1 (by omega) (by omega)
  · refine own_ifN (pc' := 140) X1 dd_prog_7_method_7_137 rfl ((own_lc_ngt hq).1) ?_
    refine own_aload_n (pc' := 141) X1 dd_prog_7_method_7_140 rfl rfl rfl ?_
    refine own_get (pc' := 144) X1 (host := "") (Or.inl (W 82 rfl)) Via.refl p_N_entry dd_prog_7_method_7_141 rfl ?_
    intro T3 X3
    refine own_aload_n (pc' := 145) X3 dd_prog_7_method_7_144 rfl rfl rfl ?_
    refine own_get (pc' := 148) X3 (host := "") (Or.inl (W 46 rfl)) Via.refl p_N_count dd_prog_7_method_7_145 rfl ?_
    intro T4 X4
    refine own_iload (pc' := 150) X4 dd_prog_7_method_7_148 rfl rfl ?_
    refine own_dup2 (pc' := 151) X4 dd_prog_7_method_7_150 rfl rfl rfl ?_
    refine own_ialoadM (pc' := 152) (i := 1) (x := (Int32.ofNat u1)) X4 p_ac (by decide) (by simp) rfl dd_prog_7_method_7_151 rfl ?_
    refine own_dup_x2 (pc' := 153) X4 dd_prog_7_method_7_152 rfl rfl rfl rfl ?_
    refine own_iconst (pc' := 154) X4 dd_prog_7_method_7_153 rfl (z := (1 : Int32)) (by decide) ?_
    refine own_iadd (pc' := 155) X4 dd_prog_7_method_7_154 rfl (r := (Int32.ofNat (u1 + 1))) (own_inc _) ?_
    refine own_iastoreM (pc' := 156) (i := 1) X4 p_ac (by decide) (by simp) p_nac dd_prog_7_method_7_155 rfl ?_
    intro T5 h5 X5 K5 A5
    have ac_6 : own_Arr Z h5 ac kc .int ((Int32.ofNat u0 :: Int32.ofNat (u1 + 1) :: ct).map Value.int) := A5
    refine own_aload_n (pc' := 157) X5 dd_prog_7_method_7_156 rfl rfl rfl ?_
    refine own_iload (pc' := 159) X5 dd_prog_7_method_7_157 rfl rfl ?_
    have ne_rw0_ac : rw0 ≠ ac := own_neT p_r0 p_ac (by decide)
    have f7 := (p_r0.keep K5 (ninS ne_rw0_ac nin0))
    refine own_laloadM (pc' := 160) (i := 1) (x := x1) X5 f7 (by decide) (Nat.le_of_ble_eq_true rfl) rfl dd_prog_7_method_7_159 rfl ?_
    refine own_aload_n (pc' := 161) X5 dd_prog_7_method_7_160 rfl rfl rfl ?_
    have ne_a_ac : a ≠ ac := own_neA p_N_E (W 5 rfl) p_ac
    have f8 := (p_N_bits.keep K5 (ninS ne_a_ac nin0))
    refine own_get (pc' := 164) X5 (host := "") (Or.inl (W 21 rfl)) Via.refl f8 dd_prog_7_method_7_161 rfl ?_
    intro T9 X9
    refine own_lshl (pc' := 165) X9 dd_prog_7_method_7_164 rfl (r := (x1 <<< (bits &&& 0x3f).toInt64)) rfl ?_
    refine own_iload_n (pc' := 166) X9 dd_prog_7_method_7_165 rfl rfl ?_
    refine own_i2l (pc' := 167) X9 dd_prog_7_method_7_166 rfl (r := (0 : Int64)) (by decide) ?_
    refine own_lor (pc' := 168) X9 dd_prog_7_method_7_167 rfl (r := ((x1 <<< (bits &&& 0x3f).toInt64) ||| (0 : Int64))) rfl ?_
    have hu : u1 < es.length := by rw [p_le]; have : own_in p1 x1 = 1 := if_neg hq; omega
    have hu2 : u1 < 1000 := by rw [p_le] at hu; omega
    have ne_ae_ac : ae ≠ ac := own_neT p_ae p_ac (by decide)
    have f10 := (p_ae.keep K5 (ninS ne_ae_ac nin0))
    refine own_lastoreM (pc' := 169) (i := u1) X9 f10 (own_i32 (by omega)) hu p_nae dd_prog_7_method_7_168 rfl ?_
    intro T11 h11 X11 K11 A11
    have e_in : own_in p1 x1 = 1 := if_neg hq
    rw [e_in] at p_u1
    refine own_iinc (pc' := 172) X11 dd_prog_7_method_7_169 rfl rfl (z := (1 : Int32)) (by decide) (r := (2 : Int32)) (by decide) (Ls' := #[.val (.ref a), .val (.ref dist), .val (.int (0 : Int32)), .val (.ref rw0), .val (.int (2 : Int32))]) rfl ?_
    refine own_goto (pc' := 118) X11 dd_prog_7_method_7_172 (by decide) (by decide) ?_
    refine own_iload (pc' := 120) X11 dd_prog_7_method_7_118 rfl rfl ?_
    refine own_aload_n (pc' := 121) X11 dd_prog_7_method_7_120 rfl rfl rfl ?_
    have f12 := (f7.keep K11 (ninS q_r0_ae nin0))
    refine own_arraylength (pc' := 122) (z := (2 : Int32)) X11 f12 (by simp) dd_prog_7_method_7_121 rfl ?_
    refine own_icmpY (pc' := 175) X11 dd_prog_7_method_7_122 ((flt (by decide)).2.1) (by decide) (by decide) ?_
    refine own_iinc (pc' := 178) X11 dd_prog_7_method_7_175 rfl rfl (z := (1 : Int32)) (by decide) (r := (1 : Int32)) (by decide) (Ls' := #[.val (.ref a), .val (.ref dist), .val (.int (1 : Int32)), .val (.ref rw0), .val (.int (2 : Int32))]) rfl ?_
    refine own_goto (pc' := 103) X11 dd_prog_7_method_7_178 (by decide) (by decide) ?_
    refine own_iload_n (pc' := 104) X11 dd_prog_7_method_7_103 rfl rfl ?_
    refine own_aload_n (pc' := 105) X11 dd_prog_7_method_7_104 rfl rfl rfl ?_
    have ne_a_ae : a ≠ ae := own_neA p_N_E (W 5 rfl) p_ae
    have f13 := ((p_N_candidateCount.keep K5 (ninS ne_a_ac nin0)).keep K11 (ninS ne_a_ae nin0))
    refine own_get (pc' := 108) X11 (host := "") (Or.inl (W 14 rfl)) Via.refl f13 dd_prog_7_method_7_105 rfl ?_
    intro T14 X14
    rw [p_cc]
    refine own_icmpN (pc' := 111) X14 dd_prog_7_method_7_108 rfl ((tlt (by decide)).2.1) ?_
    refine own_aload_n (pc' := 112) X14 dd_prog_7_method_7_111 rfl rfl rfl ?_
    refine own_iload_n (pc' := 113) X14 dd_prog_7_method_7_112 rfl rfl ?_
    have ne_dist_ac : dist ≠ ac := own_neT p_di p_ac (by decide)
    have ne_dist_ae : dist ≠ ae := own_neT p_di p_ae (by decide)
    have f15 := ((p_di.keep K5 (ninS ne_dist_ac nin0)).keep K11 (ninS ne_dist_ae nin0))
    refine own_aaload (pc' := 114) (i := 1) (v := (.ref rw1)) X14 f15 rfl (by decide) rfl dd_prog_7_method_7_113 rfl ?_
    refine own_astore_n (pc' := 115) X14 dd_prog_7_method_7_114 rfl rfl (Ls' := #[.val (.ref a), .val (.ref dist), .val (.int (1 : Int32)), .val (.ref rw1), .val (.int (2 : Int32))]) rfl ?_
    refine own_iconst (pc' := 116) X14 dd_prog_7_method_7_115 rfl (z := (0 : Int32)) (by decide) ?_
    refine own_istore (pc' := 118) X14 dd_prog_7_method_7_116 rfl (Ls' := #[.val (.ref a), .val (.ref dist), .val (.int (1 : Int32)), .val (.ref rw1), .val (.int (0 : Int32))]) rfl ?_
    have f16 := ((p_N_E.keep K5).keep K11)
    have f17 := (f8.keep K11 (ninS ne_a_ae nin0))
    have f18 := ((p_N_ceiling.keep K5 (ninS ne_a_ac nin0)).keep K11 (ninS ne_a_ae nin0))
    have f19 := ((p_N_capacity.keep K5 (ninS ne_a_ac nin0)).keep K11 (ninS ne_a_ae nin0))
    have f20 := ((p_N_radius.keep K5 (ninS ne_a_ac nin0)).keep K11 (ninS ne_a_ae nin0))
    have f21 := ((p_N_proposed.keep K5 (ninS ne_a_ac nin0)).keep K11 (ninS ne_a_ae nin0))
    have f22 := ((p_N_start.keep K5 (ninS ne_a_ac nin0)).keep K11 (ninS ne_a_ae nin0))
    have f23 := ((p_N_count.keep K5 (ninS ne_a_ac nin0)).keep K11 (ninS ne_a_ae nin0))
    have f24 := ((p_N_tallied.keep K5 (ninS ne_a_ac nin0)).keep K11 (ninS ne_a_ae nin0))
    have f25 := ((p_N_tallying.keep K5 (ninS ne_a_ac nin0)).keep K11 (ninS ne_a_ae nin0))
    have f26 := ((p_N_built.keep K5 (ninS ne_a_ac nin0)).keep K11 (ninS ne_a_ae nin0))
    have f27 := ((p_N_entry.keep K5 (ninS ne_a_ac nin0)).keep K11 (ninS ne_a_ae nin0))
    have ne_ar_ac : ar ≠ ac := own_neT p_ar p_ac (by decide)
    have f28 := ((p_ar.keep K5 (ninS ne_ar_ac nin0)).keep K11 (ninS q_ar_ae nin0))
    have ne_ap_ac : ap ≠ ac := own_neT p_ap p_ac (by decide)
    have f29 := ((p_ap.keep K5 (ninS ne_ap_ac nin0)).keep K11 (ninS q_ap_ae nin0))
    have ne_as__ae : as_ ≠ ae := own_neT p_as p_ae (by decide)
    have f30 := ((p_as.keep K5 (ninS q_as_ac nin0)).keep K11 (ninS ne_as__ae nin0))
    have f31 := (ac_6.keep K11 (ninS (Ne.symm ne_ae_ac) nin0))
    have ne_rw1_ac : rw1 ≠ ac := own_neT p_r1 p_ac (by decide)
    have f32 := ((p_r1.keep K5 (ninS ne_rw1_ac nin0)).keep K11 (ninS q_r1_ae nin0))
    have age_ae : hB.size ≤ ae := Nat.le_trans (Nat.le_refl _) p_age
    exact own_e10 hw a dist rw0 rw1 kr kp ks kc ke kd k0 k1 xr pr (es.set u1 ((x1 <<< (bits &&& 0x3f).toInt64) ||| (0 : Int64))) x0 x1 y0 y1 p0 p1 c0 c1 n u0 (u1 + 1) ct cc bits ceil cap ar ap as_ ac tl ae (own_mono X14 (by decide : 1 ≤ 1) (by decide : 8 ≤ 8)) hGe ((((Keep.refl hB [a, as_, ac]).trans KK (allS (Or.inl (List.mem_of_getElem? (i := 0) rfl)) (allS (Or.inl (List.mem_of_getElem? (i := 1) rfl)) (allS (Or.inl (List.mem_of_getElem? (i := 2) rfl)) all0)))).trans K5 (allS (Or.inl (List.mem_of_getElem? (i := 2) rfl)) all0)).trans K11 (allS (Or.inr age_ae) all0)) ⟨f16, f13, f17, f18, f19, f20, f21, f22, f23, f24, f25, f26, f27⟩ f28 f29 f30 f31 A11 f15 f12 f32 p_nae p_nar p_na p_age q_ar_ap q_ar_ae q_ap_ae p_nac q_as_ac q_r0_ae q_r1_ae p_cc p_2 p_lr p_lp (by rw [List.length_set]; exact p_le) p_b p_c0 p_c1 (by omega) (by omega)
set_option maxRecDepth 65536 in
set_option maxHeartbeats 40000000 in
theorem own_e00 {G : State → JFrame → Prop} {p : Program} {l : Launch} {e : Env} {s : State} {m : MethodId} {args : Array Value} {below : List Frame} {meth : Method} {c : Code} {Z : State} {a0 : Array Value} {n0 : Nat} {T0 : State} {hB : Heap} {h0 : Heap} (hw : ∀ d ∈ tables_1, d.before a0 Z = true) (a dist rw0 rw1 : Addr) (kr kp ks kc ke kd k0 k1 : ClassId) (xr pr es : List Int64) (x0 x1 y0 y1 p0 p1 : Int64) (c0 c1 n u0 u1 : Nat) (ct : List Int32) (cc bits : Int32) (ceil cap : Int64) (ar ap as_ ac : Addr) (tl : Int64) (ae : Addr)
    (X0 : own_At G p l e ({ frames := 5, cells := 1, slots := 8, locals := 200 } : Room) s m args below meth c Z n0 "com/example/kentro/kentro/bound/NearestCandidates" "build" prog_7_method_7_code 5 (some .long) T0 h0 1 8) (hGe : G = own_Fin p e below s Z n0 (fun v h => v = some (.long (cc.toInt64 * (Int32.ofNat n).toInt64)) ∧ Keep hB h [a, as_, ac, ar] ∧ ∃ (ae : Addr), own_NC Z h a cc bits ceil cap ar ap as_ ac tl 0 1 (.ref ae) ∧ own_Arr Z h ar kr .long ((p0 :: p1 :: pr).map Value.long) ∧ own_Arr Z h as_ ks .int (((List.range (n + 1)).map (own_S (own_cl n c0 c1))).map Value.int)) ({ frames := 5, cells := 1, slots := 8, locals := 200 } : Room).cells ({ frames := 5, cells := 1, slots := 8, locals := 200 } : Room).slots) (KK : Keep hB h0 [a, as_, ac]) (p_N : own_NC Z h0 a cc bits ceil cap ar ap as_ ac tl (0 : Int32) (0 : Int32) (.ref ae)) (p_ar : own_Arr Z h0 ar kr .long (xr.map Value.long)) (p_ap : own_Arr Z h0 ap kp .long ((p0 :: p1 :: pr).map Value.long)) (p_as : own_Arr Z h0 as_ ks .int (((List.range (n + 1)).map (own_S (own_cl n c0 c1))).map Value.int)) (p_ac : own_Arr Z h0 ac kc .int ((Int32.ofNat u0 :: Int32.ofNat u1 :: ct).map Value.int)) (p_ae : own_Arr Z h0 ae ke .long (es.map Value.long)) (p_di : own_Arr Z h0 dist kd (.array .long) [.ref rw0, .ref rw1]) (p_r0 : own_Arr Z h0 rw0 k0 .long ([x0, x1].map Value.long)) (p_r1 : own_Arr Z h0 rw1 k1 .long ([y0, y1].map Value.long)) (p_nae : n0 ≤ ae) (p_nar : n0 ≤ ar) (p_na : n0 ≤ a) (p_age : hB.size ≤ ae) (q_ar_ap : ar ≠ ap) (q_ar_ae : ar ≠ ae) (q_ap_ae : ap ≠ ae) (p_nac : n0 ≤ ac) (q_as_ac : as_ ≠ ac) (q_r0_ae : rw0 ≠ ae) (q_r1_ae : rw1 ≠ ae) (p_cc : cc = 2) (p_2 : 2 ≤ n) (p_lr : xr.length = n) (p_lp : (p0 :: p1 :: pr).length = n) (p_le : es.length = c0 + c1) (p_b : n < 1000) (p_c0 : c0 ≤ 2) (p_c1 : c1 ≤ 2) (p_u0 : u0 + own_in p0 x0 + own_in p0 y0 ≤ c0 + c1) (p_u1 : u1 + own_in p1 x1 + own_in p1 y1 ≤ c0 + c1) :
    G T0 (mkF m 118 #[.val (.ref a), .val (.ref dist), .val (.int (0 : Int32)), .val (.ref rw0), .val (.int (0 : Int32))] []) := by
  have W : ∀ (k : Nat) {d : Jvm.Cond}, tables_1[k]? = some d → d.before a0 Z = true := fun k d q => hw d (List.mem_of_getElem? q)
  obtain ⟨p_N_E, p_N_candidateCount, p_N_bits, p_N_ceiling, p_N_capacity, p_N_radius, p_N_proposed, p_N_start, p_N_count, p_N_tallied, p_N_tallying, p_N_built, p_N_entry⟩ := p_N
  refine own_iload (pc' := 120) X0 dd_prog_7_method_7_118 rfl rfl ?_
  refine own_aload_n (pc' := 121) X0 dd_prog_7_method_7_120 rfl rfl rfl ?_
  refine own_arraylength (pc' := 122) (z := (2 : Int32)) X0 p_r0 (by simp) dd_prog_7_method_7_121 rfl ?_
  refine own_icmpN (pc' := 125) X0 dd_prog_7_method_7_122 rfl ((tlt (by decide)).2.1) ?_
  refine own_aload_n (pc' := 126) X0 dd_prog_7_method_7_125 rfl rfl rfl ?_
  refine own_iload (pc' := 128) X0 dd_prog_7_method_7_126 rfl rfl ?_
  refine own_laloadM (pc' := 129) (i := 0) (x := x0) X0 p_r0 (by decide) (Nat.le_of_ble_eq_true rfl) rfl dd_prog_7_method_7_128 rfl ?_
  refine own_aload_n (pc' := 130) X0 dd_prog_7_method_7_129 rfl rfl rfl ?_
  refine own_get (pc' := 133) X0 (host := "") (Or.inl (W 41 rfl)) Via.refl p_N_proposed dd_prog_7_method_7_130 rfl ?_
  intro T1 X1
  refine own_iload (pc' := 135) X1 dd_prog_7_method_7_133 rfl rfl ?_
  refine own_laloadM (pc' := 136) (i := 0) (x := p0) X1 p_ap (by decide) (by simp) rfl dd_prog_7_method_7_135 rfl ?_
  refine own_lcmp (pc' := 137) X1 dd_prog_7_method_7_136 rfl ?_
  by_cases hq : p0 < x0
  · refine own_ifY (pc' := 169) X1 dd_prog_7_method_7_137 ((own_lc_gt hq).1) (by decide) (by decide) ?_
    have e_in : own_in p0 x0 = 0 := if_pos hq
    rw [e_in] at p_u0
    refine own_iinc (pc' := 172) X1 dd_prog_7_method_7_169 rfl rfl (z := (1 : Int32)) (by decide) (r := (1 : Int32)) (by decide) (Ls' := #[.val (.ref a), .val (.ref dist), .val (.int (0 : Int32)), .val (.ref rw0), .val (.int (1 : Int32))]) rfl ?_
    refine own_goto (pc' := 118) X1 dd_prog_7_method_7_172 (by decide) (by decide) ?_
    exact own_e01 hw a dist rw0 rw1 kr kp ks kc ke kd k0 k1 xr pr es x0 x1 y0 y1 p0 p1 c0 c1 n u0 u1 ct cc bits ceil cap ar ap as_ ac tl ae (own_mono X1 (by decide : 1 ≤ 1) (by decide : 8 ≤ 8)) hGe ((Keep.refl hB [a, as_, ac]).trans KK (allS (Or.inl (List.mem_of_getElem? (i := 0) rfl)) (allS (Or.inl (List.mem_of_getElem? (i := 1) rfl)) (allS (Or.inl (List.mem_of_getElem? (i := 2) rfl)) all0)))) ⟨p_N_E, p_N_candidateCount, p_N_bits, p_N_ceiling, p_N_capacity, p_N_radius, p_N_proposed, p_N_start, p_N_count, p_N_tallied, p_N_tallying, p_N_built, p_N_entry⟩ p_ar p_ap p_as p_ac p_ae p_di p_r0 p_r1 p_nae p_nar p_na p_age q_ar_ap q_ar_ae q_ap_ae p_nac q_as_ac q_r0_ae q_r1_ae p_cc p_2 p_lr p_lp p_le p_b p_c0 p_c1 (by omega) (by omega)
  · refine own_ifN (pc' := 140) X1 dd_prog_7_method_7_137 rfl ((own_lc_ngt hq).1) ?_
    refine own_aload_n (pc' := 141) X1 dd_prog_7_method_7_140 rfl rfl rfl ?_
    refine own_get (pc' := 144) X1 (host := "") (Or.inl (W 82 rfl)) Via.refl p_N_entry dd_prog_7_method_7_141 rfl ?_
    intro T2 X2
    refine own_aload_n (pc' := 145) X2 dd_prog_7_method_7_144 rfl rfl rfl ?_
    refine own_get (pc' := 148) X2 (host := "") (Or.inl (W 46 rfl)) Via.refl p_N_count dd_prog_7_method_7_145 rfl ?_
    intro T3 X3
    refine own_iload (pc' := 150) X3 dd_prog_7_method_7_148 rfl rfl ?_
    refine own_dup2 (pc' := 151) X3 dd_prog_7_method_7_150 rfl rfl rfl ?_
    refine own_ialoadM (pc' := 152) (i := 0) (x := (Int32.ofNat u0)) X3 p_ac (by decide) (by simp) rfl dd_prog_7_method_7_151 rfl ?_
    refine own_dup_x2 (pc' := 153) X3 dd_prog_7_method_7_152 rfl rfl rfl rfl ?_
    refine own_iconst (pc' := 154) X3 dd_prog_7_method_7_153 rfl (z := (1 : Int32)) (by decide) ?_
    refine own_iadd (pc' := 155) X3 dd_prog_7_method_7_154 rfl (r := (Int32.ofNat (u0 + 1))) (own_inc _) ?_
    refine own_iastoreM (pc' := 156) (i := 0) X3 p_ac (by decide) (by simp) p_nac dd_prog_7_method_7_155 rfl ?_
    intro T4 h4 X4 K4 A4
    have ac_5 : own_Arr Z h4 ac kc .int ((Int32.ofNat (u0 + 1) :: Int32.ofNat u1 :: ct).map Value.int) := A4
    refine own_aload_n (pc' := 157) X4 dd_prog_7_method_7_156 rfl rfl rfl ?_
    refine own_iload (pc' := 159) X4 dd_prog_7_method_7_157 rfl rfl ?_
    have ne_rw0_ac : rw0 ≠ ac := own_neT p_r0 p_ac (by decide)
    have f6 := (p_r0.keep K4 (ninS ne_rw0_ac nin0))
    refine own_laloadM (pc' := 160) (i := 0) (x := x0) X4 f6 (by decide) (Nat.le_of_ble_eq_true rfl) rfl dd_prog_7_method_7_159 rfl ?_
    refine own_aload_n (pc' := 161) X4 dd_prog_7_method_7_160 rfl rfl rfl ?_
    have ne_a_ac : a ≠ ac := own_neA p_N_E (W 5 rfl) p_ac
    have f7 := (p_N_bits.keep K4 (ninS ne_a_ac nin0))
    refine own_get (pc' := 164) X4 (host := "") (Or.inl (W 21 rfl)) Via.refl f7 dd_prog_7_method_7_161 rfl ?_
    intro T8 X8
    refine own_lshl (pc' := 165) X8 dd_prog_7_method_7_164 rfl (r := (x0 <<< (bits &&& 0x3f).toInt64)) rfl ?_
    refine own_iload_n (pc' := 166) X8 dd_prog_7_method_7_165 rfl rfl ?_
    refine own_i2l (pc' := 167) X8 dd_prog_7_method_7_166 rfl (r := (0 : Int64)) (by decide) ?_
    refine own_lor (pc' := 168) X8 dd_prog_7_method_7_167 rfl (r := ((x0 <<< (bits &&& 0x3f).toInt64) ||| (0 : Int64))) rfl ?_
    have hu : u0 < es.length := by rw [p_le]; have : own_in p0 x0 = 1 := if_neg hq; omega
    have hu2 : u0 < 1000 := by rw [p_le] at hu; omega
    have ne_ae_ac : ae ≠ ac := own_neT p_ae p_ac (by decide)
    have f9 := (p_ae.keep K4 (ninS ne_ae_ac nin0))
    refine own_lastoreM (pc' := 169) (i := u0) X8 f9 (own_i32 (by omega)) hu p_nae dd_prog_7_method_7_168 rfl ?_
    intro T10 h10 X10 K10 A10
    have e_in : own_in p0 x0 = 1 := if_neg hq
    rw [e_in] at p_u0
    refine own_iinc (pc' := 172) X10 dd_prog_7_method_7_169 rfl rfl (z := (1 : Int32)) (by decide) (r := (1 : Int32)) (by decide) (Ls' := #[.val (.ref a), .val (.ref dist), .val (.int (0 : Int32)), .val (.ref rw0), .val (.int (1 : Int32))]) rfl ?_
    refine own_goto (pc' := 118) X10 dd_prog_7_method_7_172 (by decide) (by decide) ?_
    have f11 := ((p_N_E.keep K4).keep K10)
    have ne_a_ae : a ≠ ae := own_neA p_N_E (W 5 rfl) p_ae
    have f12 := ((p_N_candidateCount.keep K4 (ninS ne_a_ac nin0)).keep K10 (ninS ne_a_ae nin0))
    have f13 := (f7.keep K10 (ninS ne_a_ae nin0))
    have f14 := ((p_N_ceiling.keep K4 (ninS ne_a_ac nin0)).keep K10 (ninS ne_a_ae nin0))
    have f15 := ((p_N_capacity.keep K4 (ninS ne_a_ac nin0)).keep K10 (ninS ne_a_ae nin0))
    have f16 := ((p_N_radius.keep K4 (ninS ne_a_ac nin0)).keep K10 (ninS ne_a_ae nin0))
    have f17 := ((p_N_proposed.keep K4 (ninS ne_a_ac nin0)).keep K10 (ninS ne_a_ae nin0))
    have f18 := ((p_N_start.keep K4 (ninS ne_a_ac nin0)).keep K10 (ninS ne_a_ae nin0))
    have f19 := ((p_N_count.keep K4 (ninS ne_a_ac nin0)).keep K10 (ninS ne_a_ae nin0))
    have f20 := ((p_N_tallied.keep K4 (ninS ne_a_ac nin0)).keep K10 (ninS ne_a_ae nin0))
    have f21 := ((p_N_tallying.keep K4 (ninS ne_a_ac nin0)).keep K10 (ninS ne_a_ae nin0))
    have f22 := ((p_N_built.keep K4 (ninS ne_a_ac nin0)).keep K10 (ninS ne_a_ae nin0))
    have f23 := ((p_N_entry.keep K4 (ninS ne_a_ac nin0)).keep K10 (ninS ne_a_ae nin0))
    have ne_ar_ac : ar ≠ ac := own_neT p_ar p_ac (by decide)
    have f24 := ((p_ar.keep K4 (ninS ne_ar_ac nin0)).keep K10 (ninS q_ar_ae nin0))
    have ne_ap_ac : ap ≠ ac := own_neT p_ap p_ac (by decide)
    have f25 := ((p_ap.keep K4 (ninS ne_ap_ac nin0)).keep K10 (ninS q_ap_ae nin0))
    have ne_as__ae : as_ ≠ ae := own_neT p_as p_ae (by decide)
    have f26 := ((p_as.keep K4 (ninS q_as_ac nin0)).keep K10 (ninS ne_as__ae nin0))
    have f27 := (ac_5.keep K10 (ninS (Ne.symm ne_ae_ac) nin0))
    have ne_dist_ac : dist ≠ ac := own_neT p_di p_ac (by decide)
    have ne_dist_ae : dist ≠ ae := own_neT p_di p_ae (by decide)
    have f28 := ((p_di.keep K4 (ninS ne_dist_ac nin0)).keep K10 (ninS ne_dist_ae nin0))
    have f29 := (f6.keep K10 (ninS q_r0_ae nin0))
    have ne_rw1_ac : rw1 ≠ ac := own_neT p_r1 p_ac (by decide)
    have f30 := ((p_r1.keep K4 (ninS ne_rw1_ac nin0)).keep K10 (ninS q_r1_ae nin0))
    have age_ae : hB.size ≤ ae := Nat.le_trans (Nat.le_refl _) p_age
    exact own_e01 hw a dist rw0 rw1 kr kp ks kc ke kd k0 k1 xr pr (es.set u0 ((x0 <<< (bits &&& 0x3f).toInt64) ||| (0 : Int64))) x0 x1 y0 y1 p0 p1 c0 c1 n (u0 + 1) u1 ct cc bits ceil cap ar ap as_ ac tl ae (own_mono X10 (by decide : 1 ≤ 1) (by decide : 8 ≤ 8)) hGe ((((Keep.refl hB [a, as_, ac]).trans KK (allS (Or.inl (List.mem_of_getElem? (i := 0) rfl)) (allS (Or.inl (List.mem_of_getElem? (i := 1) rfl)) (allS (Or.inl (List.mem_of_getElem? (i := 2) rfl)) all0)))).trans K4 (allS (Or.inl (List.mem_of_getElem? (i := 2) rfl)) all0)).trans K10 (allS (Or.inr age_ae) all0)) ⟨f11, f12, f13, f14, f15, f16, f17, f18, f19, f20, f21, f22, f23⟩ f24 f25 f26 f27 A10 f28 f29 f30 p_nae p_nar p_na p_age q_ar_ap q_ar_ae q_ap_ae p_nac q_as_ac q_r0_ae q_r1_ae p_cc p_2 p_lr p_lp (by rw [List.length_set]; exact p_le) p_b p_c0 p_c1 (by omega) (by omega)
theorem own_yc {n c0 c1 : Nat} (h : 2 ≤ n) : ∃ ct, (List.range n).map (own_S (own_cl n c0 c1)) = Int32.ofNat 0 :: Int32.ofNat c0 :: ct := by
  obtain ⟨k, rfl⟩ : ∃ k, n = k + 2 := ⟨n - 2, by omega⟩
  rw [List.range_succ_eq_map, List.range_succ_eq_map]
  exact ⟨_, by simp [own_S, own_cl]; rfl⟩
theorem dd_prog_7_method_7_9 : decode prog_7_method_7_code 9 = .ok (.aload_n 0, 1) := by decide +kernel
theorem dd_prog_7_method_7_10 : decode prog_7_method_7_code 10 = .ok (.iconst 0, 1) := by decide +kernel
theorem dd_prog_7_method_7_11 : decode prog_7_method_7_code 11 = .ok (.putfield 81, 3) := by decide +kernel
theorem dd_prog_7_method_7_14 : decode prog_7_method_7_code 14 = .ok (.aload_n 0, 1) := by decide +kernel
theorem dd_prog_7_method_7_15 : decode prog_7_method_7_code 15 = .ok (.getfield 84, 3) := by decide +kernel
theorem dd_prog_7_method_7_18 : decode prog_7_method_7_code 18 = .ok (.ifnull 17, 3) := by decide +kernel
theorem dd_prog_7_method_7_35 : decode prog_7_method_7_code 35 = .ok (.aload_n 0, 1) := by decide +kernel
theorem dd_prog_7_method_7_36 : decode prog_7_method_7_code 36 = .ok (.aconst_null, 1) := by decide +kernel
theorem dd_prog_7_method_7_37 : decode prog_7_method_7_code 37 = .ok (.putfield 84, 3) := by decide +kernel
theorem dd_prog_7_method_7_40 : decode prog_7_method_7_code 40 = .ok (.aload_n 0, 1) := by decide +kernel
theorem dd_prog_7_method_7_41 : decode prog_7_method_7_code 41 = .ok (.aload_n 0, 1) := by decide +kernel
theorem dd_prog_7_method_7_42 : decode prog_7_method_7_code 42 = .ok (.getfield 78, 3) := by decide +kernel
theorem dd_prog_7_method_7_45 : decode prog_7_method_7_code 45 = .ok (.l2i, 1) := by decide +kernel
theorem dd_prog_7_method_7_46 : decode prog_7_method_7_code 46 = .ok (.newarray .long, 2) := by decide +kernel
theorem dd_prog_7_method_7_48 : decode prog_7_method_7_code 48 = .ok (.putfield 84, 3) := by decide +kernel
theorem dd_prog_7_method_7_51 : decode prog_7_method_7_code 51 = .ok (.iconst 0, 1) := by decide +kernel
theorem dd_prog_7_method_7_52 : decode prog_7_method_7_code 52 = .ok (.istore_n 2, 1) := by decide +kernel
theorem dd_prog_7_method_7_101 : decode prog_7_method_7_code 101 = .ok (.iconst 0, 1) := by decide +kernel
theorem dd_prog_7_method_7_102 : decode prog_7_method_7_code 102 = .ok (.istore_n 2, 1) := by decide +kernel
theorem ef_own_build1 (m : MethodId) (x0 : Addr) (x1 : Addr) : entryFrame m #[(.ref x0), (.ref x1)] 5 = mkF m 0 #[.val (.ref x0), .val (.ref x1), .unset, .unset, .unset] [] := by first | (simp [entryFrame, mkF, argsToLocals, Value.category]; done) | rfl
set_option maxRecDepth 65536 in
set_option maxHeartbeats 40000000 in
theorem own_build1 (l : Launch) (Z : State) (a0 : Array Value) (hw : ∀ d ∈ tables_1, d.before a0 Z = true) (n0 : Nat) (a dist : Addr) (kr kp ks kc : ClassId) (xr xp : List Int64) (xt xc : List Int32) (n Ln : Nat) (cc bits : Int32) (ceil cap : Int64) (ar ap as_ ac : Addr) (tl : Int64) (rw0 rw1 : Addr) (kd k0 k1 : ClassId) (x0 x1 y0 y1 p0 p1 : Int64) (pr : List Int64) (c0 c1 : Nat) (h0 : Heap) (O0 : Old Z n0 h0) (p_N : own_NC Z h0 a cc bits ceil cap ar ap as_ ac tl (1 : Int32) (0 : Int32) .null) (p_ar : own_Arr Z h0 ar kr .long (xr.map Value.long)) (p_ap : own_Arr Z h0 ap kp .long (xp.map Value.long)) (p_as : own_Arr Z h0 as_ ks .int (xt.map Value.int)) (p_ac : own_Arr Z h0 ac kc .int (xc.map Value.int)) (p_na : n0 ≤ a) (p_nar : n0 ≤ ar) (p_nas : n0 ≤ as_) (p_nac : n0 ≤ ac) (q_ar_ap : ar ≠ ap) (q_as_ac : as_ ≠ ac) (p_lr : xr.length = n) (p_lp : xp.length = n) (p_lt : xt.length = n + 1) (p_lc : xc.length = n) (p_t0 : xt.getD 0 0 = 0) (p_b : n < 1000) (p_L : Ln ≤ 8) (p_tl : tl.toInt32 = Int32.ofNat Ln) (p_S : ∀ i, i < n → ∃ f g : Nat, own_S xc i = Int32.ofNat f ∧ own_S xc (i + 1) = Int32.ofNat g ∧ f ≤ g ∧ g ≤ Ln ∧ g ≤ f + 2) (p_cc : cc = 2) (p_2 : 2 ≤ n) (p_di : own_Arr Z h0 dist kd (.array .long) [.ref rw0, .ref rw1]) (p_r0 : own_Arr Z h0 rw0 k0 .long ([x0, x1].map Value.long)) (p_r1 : own_Arr Z h0 rw1 k1 .long ([y0, y1].map Value.long)) (q1 : rw0 ≠ ar) (q2 : rw1 ≠ ar) (p_xp : xp = p0 :: p1 :: pr) (p_xc : xc = own_cl n c0 c1) (p_Ln : Ln = c0 + c1) (p_k0 : c0 = own_in p0 x0 + own_in p0 y0) (p_k1 : c1 = own_in p1 x1 + own_in p1 y1) (p_c0 : c0 ≤ 2) (p_c1 : c1 ≤ 2) :
    own_Met l Z n0 (⟨"com/example/kentro/kentro/bound/NearestCandidates", "build", "([[J)J"⟩ : MethodName) prog_7_method_7_code 5 (some .long) ({ frames := 5, cells := 1, slots := 8, locals := 200 } : Room) #[(.ref a), (.ref dist)] h0 (fun v h => v = some (.long (cc.toInt64 * (Int32.ofNat n).toInt64)) ∧ Keep h0 h [a, as_, ac, ar] ∧ ∃ (ae : Addr), own_NC Z h a cc bits ceil cap ar ap as_ ac tl 0 1 (.ref ae) ∧ own_Arr Z h ar kr .long (xp.map Value.long) ∧ own_Arr Z h as_ ks .int (((List.range (n + 1)).map (own_S xc)).map Value.int)) := by
  refine own_enter (own := "com/example/kentro/kentro/bound/NearestCandidates") (nm := "build") (plainFor_of_name pn_4) rfl rfl O0 ?_
  have W : ∀ (k : Nat) {d : Jvm.Cond}, tables_1[k]? = some d → d.before a0 Z = true := fun k d q => hw d (List.mem_of_getElem? q)
  intro G p e s m below meth c T0 hGe X0
  rw [ef_own_build1 m a dist]
  obtain ⟨p_N_E, p_N_candidateCount, p_N_bits, p_N_ceiling, p_N_capacity, p_N_radius, p_N_proposed, p_N_start, p_N_count, p_N_tallied, p_N_tallying, p_N_built, p_N_entry⟩ := p_N
  refine own_aload_n (pc' := 1) X0 dd_prog_7_method_7_0 rfl rfl rfl ?_
  refine own_get (pc' := 4) X0 (host := "") (Or.inl (W 53 rfl)) Via.refl p_N_tallying dd_prog_7_method_7_1 rfl ?_
  intro T1 X1
  refine own_ifY (pc' := 9) X1 dd_prog_7_method_7_4 ((feq (by decide)).2) (by decide) (by decide) ?_
  refine own_aload_n (pc' := 10) X1 dd_prog_7_method_7_9 rfl rfl rfl ?_
  refine own_iconst (pc' := 11) X1 dd_prog_7_method_7_10 rfl (z := (0 : Int32)) (by decide) ?_
  refine own_put (pc' := 14) X1 (host := "") (Or.inl (W 53 rfl)) Via.refl p_N_tallying p_N_E (Or.inl (W 54 rfl)) (W 5 rfl) (ty := .boolean) (by decide) rfl rfl p_na dd_prog_7_method_7_11 rfl ?_
  intro T2 h2 X2 W2 K2
  have f2_ := p_N_tallying.same W2
  refine own_aload_n (pc' := 15) X2 dd_prog_7_method_7_14 rfl rfl rfl ?_
  have f3 := (p_N_entry.other W2 (Or.inr (slot_ne (Or.inl (W 83 rfl)) (Or.inl (W 54 rfl)) (by decide) (t := (.array .long)) (t' := .boolean) (by decide) (by decide))))
  refine own_get (pc' := 18) X2 (host := "") (Or.inl (W 82 rfl)) Via.refl f3 dd_prog_7_method_7_15 rfl ?_
  intro T4 X4
  refine own_ifnullY (pc' := 35) X4 dd_prog_7_method_7_18 (by decide) (by decide) ?_
  refine own_aload_n (pc' := 36) X4 dd_prog_7_method_7_35 rfl rfl rfl ?_
  refine own_aconst_null (pc' := 37) X4 dd_prog_7_method_7_36 rfl ?_
  have f5 := (p_N_E.keep K2)
  refine own_put (pc' := 40) X4 (host := "") (Or.inl (W 82 rfl)) Via.refl f3 f5 (Or.inl (W 83 rfl)) (W 5 rfl) (ty := (.array .long)) (by decide) rfl rfl p_na dd_prog_7_method_7_37 rfl ?_
  intro T6 h6 X6 W6 K6
  have f6_ := f3.same W6
  refine own_aload_n (pc' := 41) X6 dd_prog_7_method_7_40 rfl rfl rfl ?_
  refine own_aload_n (pc' := 42) X6 dd_prog_7_method_7_41 rfl rfl rfl ?_
  have f7 := ((p_N_tallied.other W2 (Or.inr (slot_ne (Or.inl (W 70 rfl)) (Or.inl (W 54 rfl)) (by decide) (t := .long) (t' := .boolean) (by decide) (by decide)))).other W6 (Or.inr (slot_ne (Or.inl (W 70 rfl)) (Or.inl (W 83 rfl)) (by decide) (t := .long) (t' := (.array .long)) (by decide) (by decide))))
  refine own_get (pc' := 45) X6 (host := "") (Or.inl (W 69 rfl)) Via.refl f7 dd_prog_7_method_7_42 rfl ?_
  intro T8 X8
  refine own_l2i (pc' := 46) X8 dd_prog_7_method_7_45 rfl (r := (Int32.ofNat Ln)) p_tl ?_
  refine own_newarray (pc' := 48) (cells' := 1) (slots' := 8) (n := Ln) (cap := 8) (dv := (.long 0)) X8 (W 0 rfl) rfl rfl (own_i32 (by omega)) (by omega) dd_prog_7_method_7_46 rfl rfl (by omega) (by decide) rfl (by decide) (by decide) ?_
  intro T9 h9 a9 k9 g9 X9 K9 A9
  have n_a9 : n0 ≤ a9 := by rw [g9]; exact own_n0 X8
  have f10 := (f6_.keep K9 nin0)
  have f11 := ((f5.keep K6).keep K9)
  refine own_put (pc' := 51) X9 (host := "") (Or.inl (W 82 rfl)) Via.refl f10 f11 (Or.inl (W 83 rfl)) (W 5 rfl) (ty := (.array .long)) (by decide) rfl rfl p_na dd_prog_7_method_7_48 rfl ?_
  intro T12 h12 X12 W12 K12
  have f12_ := f10.same W12
  refine own_iconst (pc' := 52) X12 dd_prog_7_method_7_51 rfl (z := (0 : Int32)) (by decide) ?_
  refine own_istore_n (pc' := 53) X12 dd_prog_7_method_7_52 rfl (Ls' := #[.val (.ref a), .val (.ref dist), .val (.int (0 : Int32)), .unset, .unset]) rfl ?_
  have ne_a_a9 : a ≠ a9 := own_ne p_N_E.lt (Nat.le_trans K2.1 (Nat.le_trans K6.1 (Nat.le_refl _))) (Nat.le_of_eq (Eq.symm g9))
  have f13 := (A9.keep K12 (ninS (Ne.symm ne_a_a9) nin0))
  have e_ae : own_Arr Z h12 a9 k9 .long ((List.replicate Ln (0 : Int64)).map Value.long) := by rw [List.map_replicate]; exact f13
  have ne_a_as_ : a ≠ as_ := own_neA p_N_E (W 5 rfl) p_as
  have ne_a_ac : a ≠ ac := own_neA p_N_E (W 5 rfl) p_ac
  have ne_ar_as_ : ar ≠ as_ := own_neT p_ar p_as (by decide)
  have ne_ar_ac : ar ≠ ac := own_neT p_ar p_ac (by decide)
  have e_as : (((List.range (n + 1)).map (own_S xc)).take (0 + 1) ++ xt.drop (0 + 1)) = xt := own_t0 p_lt p_t0
  have f14 := (f11.keep K12)
  have f15 := ((((p_N_candidateCount.other W2 (Or.inr (slot_ne (Or.inr (W 15 rfl)) (Or.inl (W 54 rfl)) (by decide) (t := .int) (t' := .boolean) (by decide) (by decide)))).other W6 (Or.inr (slot_ne (Or.inr (W 15 rfl)) (Or.inl (W 83 rfl)) (by decide) (t := .int) (t' := (.array .long)) (by decide) (by decide)))).keep K9 nin0).other W12 (Or.inr (slot_ne (Or.inr (W 15 rfl)) (Or.inl (W 83 rfl)) (by decide) (t := .int) (t' := (.array .long)) (by decide) (by decide))))
  have f16 := ((((p_N_bits.other W2 (Or.inr (slot_ne (Or.inr (W 22 rfl)) (Or.inl (W 54 rfl)) (by decide) (t := .int) (t' := .boolean) (by decide) (by decide)))).other W6 (Or.inr (slot_ne (Or.inr (W 22 rfl)) (Or.inl (W 83 rfl)) (by decide) (t := .int) (t' := (.array .long)) (by decide) (by decide)))).keep K9 nin0).other W12 (Or.inr (slot_ne (Or.inr (W 22 rfl)) (Or.inl (W 83 rfl)) (by decide) (t := .int) (t' := (.array .long)) (by decide) (by decide))))
  have f17 := ((((p_N_ceiling.other W2 (Or.inr (slot_ne (Or.inr (W 31 rfl)) (Or.inl (W 54 rfl)) (by decide) (t := .long) (t' := .boolean) (by decide) (by decide)))).other W6 (Or.inr (slot_ne (Or.inr (W 31 rfl)) (Or.inl (W 83 rfl)) (by decide) (t := .long) (t' := (.array .long)) (by decide) (by decide)))).keep K9 nin0).other W12 (Or.inr (slot_ne (Or.inr (W 31 rfl)) (Or.inl (W 83 rfl)) (by decide) (t := .long) (t' := (.array .long)) (by decide) (by decide))))
  have f18 := ((((p_N_capacity.other W2 (Or.inr (slot_ne (Or.inr (W 38 rfl)) (Or.inl (W 54 rfl)) (by decide) (t := .long) (t' := .boolean) (by decide) (by decide)))).other W6 (Or.inr (slot_ne (Or.inr (W 38 rfl)) (Or.inl (W 83 rfl)) (by decide) (t := .long) (t' := (.array .long)) (by decide) (by decide)))).keep K9 nin0).other W12 (Or.inr (slot_ne (Or.inr (W 38 rfl)) (Or.inl (W 83 rfl)) (by decide) (t := .long) (t' := (.array .long)) (by decide) (by decide))))
  have f19 := ((((p_N_radius.other W2 (Or.inr (slot_ne (Or.inr (W 40 rfl)) (Or.inl (W 54 rfl)) (by decide) (t := (.array .long)) (t' := .boolean) (by decide) (by decide)))).other W6 (Or.inr (slot_ne (Or.inr (W 40 rfl)) (Or.inl (W 83 rfl)) (by decide) (t := (.array .long)) (t' := (.array .long)) (by decide) (by decide)))).keep K9 nin0).other W12 (Or.inr (slot_ne (Or.inr (W 40 rfl)) (Or.inl (W 83 rfl)) (by decide) (t := (.array .long)) (t' := (.array .long)) (by decide) (by decide))))
  have f20 := ((((p_N_proposed.other W2 (Or.inr (slot_ne (Or.inr (W 42 rfl)) (Or.inl (W 54 rfl)) (by decide) (t := (.array .long)) (t' := .boolean) (by decide) (by decide)))).other W6 (Or.inr (slot_ne (Or.inr (W 42 rfl)) (Or.inl (W 83 rfl)) (by decide) (t := (.array .long)) (t' := (.array .long)) (by decide) (by decide)))).keep K9 nin0).other W12 (Or.inr (slot_ne (Or.inr (W 42 rfl)) (Or.inl (W 83 rfl)) (by decide) (t := (.array .long)) (t' := (.array .long)) (by decide) (by decide))))
  have f21 := ((((p_N_start.other W2 (Or.inr (slot_ne (Or.inr (W 45 rfl)) (Or.inl (W 54 rfl)) (by decide) (t := (.array .int)) (t' := .boolean) (by decide) (by decide)))).other W6 (Or.inr (slot_ne (Or.inr (W 45 rfl)) (Or.inl (W 83 rfl)) (by decide) (t := (.array .int)) (t' := (.array .long)) (by decide) (by decide)))).keep K9 nin0).other W12 (Or.inr (slot_ne (Or.inr (W 45 rfl)) (Or.inl (W 83 rfl)) (by decide) (t := (.array .int)) (t' := (.array .long)) (by decide) (by decide))))
  have f22 := ((((p_N_count.other W2 (Or.inr (slot_ne (Or.inr (W 47 rfl)) (Or.inl (W 54 rfl)) (by decide) (t := (.array .int)) (t' := .boolean) (by decide) (by decide)))).other W6 (Or.inr (slot_ne (Or.inr (W 47 rfl)) (Or.inl (W 83 rfl)) (by decide) (t := (.array .int)) (t' := (.array .long)) (by decide) (by decide)))).keep K9 nin0).other W12 (Or.inr (slot_ne (Or.inr (W 47 rfl)) (Or.inl (W 83 rfl)) (by decide) (t := (.array .int)) (t' := (.array .long)) (by decide) (by decide))))
  have f23 := ((f7.keep K9 nin0).other W12 (Or.inr (slot_ne (Or.inl (W 70 rfl)) (Or.inl (W 83 rfl)) (by decide) (t := .long) (t' := (.array .long)) (by decide) (by decide))))
  have f24 := (((f2_.other W6 (Or.inr (slot_ne (Or.inl (W 54 rfl)) (Or.inl (W 83 rfl)) (by decide) (t := .boolean) (t' := (.array .long)) (by decide) (by decide)))).keep K9 nin0).other W12 (Or.inr (slot_ne (Or.inl (W 54 rfl)) (Or.inl (W 83 rfl)) (by decide) (t := .boolean) (t' := (.array .long)) (by decide) (by decide))))
  have f25 := ((((p_N_built.other W2 (Or.inr (slot_ne (Or.inl (W 61 rfl)) (Or.inl (W 54 rfl)) (by decide) (t := .boolean) (t' := .boolean) (by decide) (by decide)))).other W6 (Or.inr (slot_ne (Or.inl (W 61 rfl)) (Or.inl (W 83 rfl)) (by decide) (t := .boolean) (t' := (.array .long)) (by decide) (by decide)))).keep K9 nin0).other W12 (Or.inr (slot_ne (Or.inl (W 61 rfl)) (Or.inl (W 83 rfl)) (by decide) (t := .boolean) (t' := (.array .long)) (by decide) (by decide))))
  have ne_a_ar : a ≠ ar := own_neA p_N_E (W 5 rfl) p_ar
  have f26 := ((((p_ar.keep K2 (ninS (Ne.symm ne_a_ar) nin0)).keep K6 (ninS (Ne.symm ne_a_ar) nin0)).keep K9 nin0).keep K12 (ninS (Ne.symm ne_a_ar) nin0))
  have f27 := ((((p_as.keep K2 (ninS (Ne.symm ne_a_as_) nin0)).keep K6 (ninS (Ne.symm ne_a_as_) nin0)).keep K9 nin0).keep K12 (ninS (Ne.symm ne_a_as_) nin0))
  have f28 := ((((p_ac.keep K2 (ninS (Ne.symm ne_a_ac) nin0)).keep K6 (ninS (Ne.symm ne_a_ac) nin0)).keep K9 nin0).keep K12 (ninS (Ne.symm ne_a_ac) nin0))
  refine own_b1_l hw a dist kr ks kc xr xt xc n cc bits ceil cap ar ap as_ ac tl 0 0 (.ref a9) ⟨f14, f15, f16, f17, f18, f19, f20, f21, f22, f23, f24, f25, f12_⟩ f26 q_as_ac ne_a_as_ ne_a_ac ne_ar_as_ ne_ar_ac p_nas p_nac p_lr p_lt p_lc p_b (fun {T30} {h30} X30 K30 A30 B30 => ?_) n 0 (by omega) (own_mono X12 (by decide : 1 ≤ 1) (by decide : 8 ≤ 8)) (Keep.refl _ _) (by rw [e_as]; exact f27) (by simpa using f28)
  rw [List.take_of_length_le (by simp), List.drop_eq_nil_of_le (by omega), List.append_nil] at A30
  rw [List.take_of_length_le (by simp), List.drop_eq_nil_of_le (by omega), List.append_nil] at B30
  refine own_iconst (pc' := 102) X30 dd_prog_7_method_7_101 rfl (z := (0 : Int32)) (by decide) ?_
  refine own_istore_n (pc' := 103) X30 dd_prog_7_method_7_102 rfl (Ls' := #[.val (.ref a), .val (.ref dist), .val (.int (0 : Int32)), .unset, .unset]) rfl ?_
  refine own_iload_n (pc' := 104) X30 dd_prog_7_method_7_103 rfl rfl ?_
  refine own_aload_n (pc' := 105) X30 dd_prog_7_method_7_104 rfl rfl rfl ?_
  have f41 := (f15.keep K30 (ninS ne_a_as_ (ninS ne_a_ac nin0)))
  refine own_get (pc' := 108) X30 (host := "") (Or.inl (W 14 rfl)) Via.refl f41 dd_prog_7_method_7_105 rfl ?_
  intro T42 X42
  rw [p_cc]
  refine own_icmpN (pc' := 111) X42 dd_prog_7_method_7_108 rfl ((tlt (by decide)).2.1) ?_
  refine own_aload_n (pc' := 112) X42 dd_prog_7_method_7_111 rfl rfl rfl ?_
  refine own_iload_n (pc' := 113) X42 dd_prog_7_method_7_112 rfl rfl ?_
  have ne_a_dist : a ≠ dist := own_neA p_N_E (W 5 rfl) p_di
  have ne_dist_as_ : dist ≠ as_ := own_neT p_di p_as (by decide)
  have ne_dist_ac : dist ≠ ac := own_neT p_di p_ac (by decide)
  have f43 := (((((p_di.keep K2 (ninS (Ne.symm ne_a_dist) nin0)).keep K6 (ninS (Ne.symm ne_a_dist) nin0)).keep K9 nin0).keep K12 (ninS (Ne.symm ne_a_dist) nin0)).keep K30 (ninS ne_dist_as_ (ninS ne_dist_ac nin0)))
  refine own_aaload (pc' := 114) (i := 0) (v := (.ref rw0)) X42 f43 rfl (by decide) rfl dd_prog_7_method_7_113 rfl ?_
  refine own_astore_n (pc' := 115) X42 dd_prog_7_method_7_114 rfl rfl (Ls' := #[.val (.ref a), .val (.ref dist), .val (.int (0 : Int32)), .val (.ref rw0), .unset]) rfl ?_
  refine own_iconst (pc' := 116) X42 dd_prog_7_method_7_115 rfl (z := (0 : Int32)) (by decide) ?_
  refine own_istore (pc' := 118) X42 dd_prog_7_method_7_116 rfl (Ls' := #[.val (.ref a), .val (.ref dist), .val (.int (0 : Int32)), .val (.ref rw0), .val (.int (0 : Int32))]) rfl ?_
  have age_a9 : h0.size ≤ a9 := Nat.le_trans (Nat.le_trans K2.1 (Nat.le_trans K6.1 (Nat.le_refl _))) (Nat.le_of_eq (Eq.symm g9))
  have ne_ar_a9 : ar ≠ a9 := own_ne p_ar.lt (Nat.le_trans K2.1 (Nat.le_trans K6.1 (Nat.le_refl _))) (Nat.le_of_eq (Eq.symm g9))
  have ne_ap_a9 : ap ≠ a9 := own_ne p_ap.lt (Nat.le_trans K2.1 (Nat.le_trans K6.1 (Nat.le_refl _))) (Nat.le_of_eq (Eq.symm g9))
  have ne_rw0_a9 : rw0 ≠ a9 := own_ne p_r0.lt (Nat.le_trans K2.1 (Nat.le_trans K6.1 (Nat.le_refl _))) (Nat.le_of_eq (Eq.symm g9))
  have ne_rw1_a9 : rw1 ≠ a9 := own_ne p_r1.lt (Nat.le_trans K2.1 (Nat.le_trans K6.1 (Nat.le_refl _))) (Nat.le_of_eq (Eq.symm g9))
  have f44 := (f14.keep K30)
  have f45 := (f16.keep K30 (ninS ne_a_as_ (ninS ne_a_ac nin0)))
  have f46 := (f17.keep K30 (ninS ne_a_as_ (ninS ne_a_ac nin0)))
  have f47 := (f18.keep K30 (ninS ne_a_as_ (ninS ne_a_ac nin0)))
  have f48 := (f19.keep K30 (ninS ne_a_as_ (ninS ne_a_ac nin0)))
  have f49 := (f20.keep K30 (ninS ne_a_as_ (ninS ne_a_ac nin0)))
  have f50 := (f21.keep K30 (ninS ne_a_as_ (ninS ne_a_ac nin0)))
  have f51 := (f22.keep K30 (ninS ne_a_as_ (ninS ne_a_ac nin0)))
  have f52 := (f23.keep K30 (ninS ne_a_as_ (ninS ne_a_ac nin0)))
  have f53 := (f24.keep K30 (ninS ne_a_as_ (ninS ne_a_ac nin0)))
  have f54 := (f25.keep K30 (ninS ne_a_as_ (ninS ne_a_ac nin0)))
  have f55 := (f12_.keep K30 (ninS ne_a_as_ (ninS ne_a_ac nin0)))
  have f56 := (f26.keep K30 (ninS ne_ar_as_ (ninS ne_ar_ac nin0)))
  have ne_a_ap : a ≠ ap := own_neA p_N_E (W 5 rfl) p_ap
  have ne_ap_as_ : ap ≠ as_ := own_neT p_ap p_as (by decide)
  have ne_ap_ac : ap ≠ ac := own_neT p_ap p_ac (by decide)
  have f57 := (((((p_ap.keep K2 (ninS (Ne.symm ne_a_ap) nin0)).keep K6 (ninS (Ne.symm ne_a_ap) nin0)).keep K9 nin0).keep K12 (ninS (Ne.symm ne_a_ap) nin0)).keep K30 (ninS ne_ap_as_ (ninS ne_ap_ac nin0)))
  have ne_as__a9 : as_ ≠ a9 := own_ne p_as.lt (Nat.le_trans K2.1 (Nat.le_trans K6.1 (Nat.le_refl _))) (Nat.le_of_eq (Eq.symm g9))
  have ne_ac_a9 : ac ≠ a9 := own_ne p_ac.lt (Nat.le_trans K2.1 (Nat.le_trans K6.1 (Nat.le_refl _))) (Nat.le_of_eq (Eq.symm g9))
  have f58 := (e_ae.keep K30 (ninS (Ne.symm ne_as__a9) (ninS (Ne.symm ne_ac_a9) nin0)))
  have ne_a_rw0 : a ≠ rw0 := own_neA p_N_E (W 5 rfl) p_r0
  have ne_rw0_as_ : rw0 ≠ as_ := own_neT p_r0 p_as (by decide)
  have ne_rw0_ac : rw0 ≠ ac := own_neT p_r0 p_ac (by decide)
  have f59 := (((((p_r0.keep K2 (ninS (Ne.symm ne_a_rw0) nin0)).keep K6 (ninS (Ne.symm ne_a_rw0) nin0)).keep K9 nin0).keep K12 (ninS (Ne.symm ne_a_rw0) nin0)).keep K30 (ninS ne_rw0_as_ (ninS ne_rw0_ac nin0)))
  have ne_a_rw1 : a ≠ rw1 := own_neA p_N_E (W 5 rfl) p_r1
  have ne_rw1_as_ : rw1 ≠ as_ := own_neT p_r1 p_as (by decide)
  have ne_rw1_ac : rw1 ≠ ac := own_neT p_r1 p_ac (by decide)
  have f60 := (((((p_r1.keep K2 (ninS (Ne.symm ne_a_rw1) nin0)).keep K6 (ninS (Ne.symm ne_a_rw1) nin0)).keep K9 nin0).keep K12 (ninS (Ne.symm ne_a_rw1) nin0)).keep K30 (ninS ne_rw1_as_ (ninS ne_rw1_ac nin0)))
  subst p_xp p_xc p_Ln
  obtain ⟨ct, hct⟩ := own_yc (c0 := c0) (c1 := c1) p_2
  rw [hct] at B30
  exact own_e00 hw a dist rw0 rw1 kr kp ks kc k9 kd k0 k1 xr pr (List.replicate (c0 + c1) (0 : Int64)) x0 x1 y0 y1 p0 p1 c0 c1 n 0 c0 ct cc bits ceil cap ar ap as_ ac tl a9 (own_mono X42 (by decide : 1 ≤ 1) (by decide : 8 ≤ 8)) hGe ((((((Keep.refl h0 [a, as_, ac]).trans K2 (allS (Or.inl (List.mem_of_getElem? (i := 0) rfl)) all0)).trans K6 (allS (Or.inl (List.mem_of_getElem? (i := 0) rfl)) all0)).trans K9 all0).trans K12 (allS (Or.inl (List.mem_of_getElem? (i := 0) rfl)) all0)).trans K30 (allS (Or.inl (List.mem_of_getElem? (i := 1) rfl)) (allS (Or.inl (List.mem_of_getElem? (i := 2) rfl)) all0))) ⟨f44, f41, f45, f46, f47, f48, f49, f50, f51, f52, f53, f54, f55⟩ f56 f57 A30 B30 f58 f43 f59 f60 n_a9 p_nar p_na age_a9 q_ar_ap ne_ar_a9 ne_ap_a9 p_nac q_as_ac ne_rw0_a9 ne_rw1_a9 p_cc p_2 p_lr p_lp (by simp) p_b p_c0 p_c1 (by omega) (by omega)
theorem own_n (k : Int32) : ∃ n : Nat, 2 ≤ n ∧ n ≤ 9 ∧ 2 + (k &&& 7) = Int32.ofNat n := by
  have h := c_mask k 7 3 (by decide) (by decide)
  have q := c_iadd 2 (k &&& 7); have r := rng32 (2 + (k &&& 7)); rw [show (2 : Int32).toInt = 2 from by decide] at q
  refine ⟨(2 + k.toInt % 8).toNat, by omega, by omega, ?_⟩
  apply Int32.toInt_inj.mp
  rw [own_i32 (by omega)]; omega
theorem own_half {n : Nat} (h : n ≤ 9) : Int32.ofNat n / 2 = Int32.ofNat (n / 2) := (by decide : ∀ n : Fin 10, Int32.ofNat n.val / 2 = Int32.ofNat (n.val / 2)) ⟨n, by omega⟩
theorem own_capn {n : Nat} (h : n ≤ 9) : (if (2147483639 : Int64) < (((2 : Int64) * (Int32.ofNat n).toInt64) / (4 : Int64)) then (2147483639 : Int64) else (((2 : Int64) * (Int32.ofNat n).toInt64) / (4 : Int64))) = Int64.ofNat (n / 2) := (by decide : ∀ n : Fin 10, (if (2147483639 : Int64) < (((2 : Int64) * (Int32.ofNat n.val).toInt64) / (4 : Int64)) then (2147483639 : Int64) else (((2 : Int64) * (Int32.ofNat n.val).toInt64) / (4 : Int64))) = Int64.ofNat (n.val / 2)) ⟨n, by omega⟩
theorem own_pvm (r : Int32) : own_pv 4611686018427387903 r.toInt64 = if r.toInt64 < 0 then 0 else r.toInt64 := by
  unfold own_pv
  have hr := rng32 r
  generalize hm : (if r.toInt64 < 0 then (0 : Int64) else r.toInt64) = q
  have h0 : 0 ≤ q.toInt ∧ q.toInt < 2147483648 := by
    subst hm; split
    · decide
    · rename_i h; rw [Int64.lt_iff_toInt_lt, show (0 : Int64).toInt = 0 from by decide] at h; rw [c_i2l] at h ⊢; omega
  have h : 0 < 4611686018427387903 - q := by
    rw [Int64.lt_iff_toInt_lt, show (0 : Int64).toInt = 0 from by decide]
    have a := c_lsub 4611686018427387903 q; have b := rng64 (4611686018427387903 - q); rw [show (4611686018427387903 : Int64).toInt = 4611686018427387903 from by decide] at a; omega
  rw [if_pos h]
  apply Int64.toInt_inj.mp
  have a := c_ladd q 0; have b := rng64 (q + 0); rw [show (0 : Int64).toInt = 0 from by decide] at a; omega
theorem own_take {n : Nat} {f : Int64 → Int64} {x y : Int64} {r : List Int64} (h : 2 ≤ n) : ((x :: y :: r).take n).map f = f x :: f y :: ((r.take (n - 2)).map f) := by
  obtain ⟨k, rfl⟩ : ∃ k, n = k + 2 := ⟨n - 2, by omega⟩
  simp
theorem own_rep {n : Nat} (h : 2 ≤ n) : List.replicate n (0 : Int32) = own_cl n 0 0 := by
  obtain ⟨k, rfl⟩ : ∃ k, n = k + 2 := ⟨n - 2, by omega⟩
  simp [own_cl, List.replicate_succ]
set_option maxRecDepth 65536 in
set_option maxHeartbeats 40000000 in
theorem own_227 {G : State → JFrame → Prop} {p : Program} {l : Launch} {e : Env} {s : State} {m : MethodId} {args : Array Value} {below : List Frame} {meth : Method} {c : Code} {Z : State} {a0 : Array Value} {n0 : Nat} {T0 : State} {h0 : Heap} (hw : ∀ d ∈ tables_1, d.before a0 Z = true) (k r0 r1 : Int32) (xa xb xc xd : Int64) (n : Nat) (aR aA aB aD nc : Addr) (t2 : Int32) (bl : Int64) (to0 to1 : Int32) (P0 P1 : Int64) (w00 w01 w10 w11 : Nat)
    (X0 : own_At G p l e room_1 s m args below meth c Z n0 "com/example/kentro/kentro/bound/NearestCandidatesTallyPinLaw" "law" code maxLocals ret T0 h0 13 120) (hGe : G = own_Fin p e below s Z n0 (fun v h => v = some (.int 1)) room_1.cells room_1.slots) (p_n2 : 2 ≤ n) (p_n9 : n ≤ 9) (p_t2 : t2 = if n / 2 < 0 + w00 + w01 then 0 else 1) (p_bl : bl = if (¬ n / 2 < 0 + w00 + w01 ∧ ¬ n / 2 < 0 + w00 + w01 + w10 + w11) then 2 * (Int32.ofNat n).toInt64 else 0) (p_to0 : to0 = if (¬ n / 2 < 0 + w00 + w01 ∧ ¬ n / 2 < 0 + w00 + w01 + w10 + w11) then Int32.ofNat (w00 + w10) else 0) (p_to1 : to1 = if (¬ n / 2 < 0 + w00 + w01 ∧ ¬ n / 2 < 0 + w00 + w01 + w10 + w11) then Int32.ofNat (w00 + w10 + (w01 + w11)) else 0) (q00 : w00 ≤ 1) (q01 : w01 ≤ 1) (q10 : w10 ≤ 1) (q11 : w11 ≤ 1) :
    G T0 (mkF m 227 #[.val (.int k), .val (.int r0), .val (.int r1), .val (.long xa), .second, .val (.long xb), .second, .val (.long xc), .second, .val (.int (Int32.ofNat n)), .val (.long xd), .second, .val (.ref aR), .val (.ref aA), .val (.ref aB), .val (.ref aD), .val (.ref nc), .val (.int (0 : Int32)), .val (.int (1 : Int32)), .val (.int t2), .val (.long bl), .second, .val (.int to0), .val (.int to1), .val (.long P0), .second, .val (.long P1), .second, .val (.int (Int32.ofNat w00)), .val (.int (Int32.ofNat w01)), .val (.int (Int32.ofNat w10)), .val (.int (Int32.ofNat w11)), .unset, .unset, .unset, .unset, .unset, .unset, .unset, .unset, .unset] []) := by
  have W : ∀ (k : Nat) {d : Jvm.Cond}, tables_1[k]? = some d → d.before a0 Z = true := fun k d q => hw d (List.mem_of_getElem? q)
  refine own_iload (pc' := 229) X0 at_227 rfl rfl ?_
  refine own_iconst (pc' := 230) X0 at_229 rfl (z := (2 : Int32)) (by decide) ?_
  have e_h := own_half p_n9
  refine own_idiv (pc' := 231) X0 at_230 rfl (by decide) ?_
  rw [e_h]
  refine own_istore (pc' := 233) X0 at_231 rfl (Ls' := #[.val (.int k), .val (.int r0), .val (.int r1), .val (.long xa), .second, .val (.long xb), .second, .val (.long xc), .second, .val (.int (Int32.ofNat n)), .val (.long xd), .second, .val (.ref aR), .val (.ref aA), .val (.ref aB), .val (.ref aD), .val (.ref nc), .val (.int (0 : Int32)), .val (.int (1 : Int32)), .val (.int t2), .val (.long bl), .second, .val (.int to0), .val (.int to1), .val (.long P0), .second, .val (.long P1), .second, .val (.int (Int32.ofNat w00)), .val (.int (Int32.ofNat w01)), .val (.int (Int32.ofNat w10)), .val (.int (Int32.ofNat w11)), .val (.int (Int32.ofNat (n / 2))), .unset, .unset, .unset, .unset, .unset, .unset, .unset, .unset]) rfl ?_
  refine own_iload (pc' := 235) X0 at_233 rfl rfl ?_
  refine own_iload (pc' := 237) X0 at_235 rfl rfl ?_
  refine own_iadd (pc' := 238) X0 at_237 rfl (r := (Int32.ofNat (w00 + w01))) (own_add32 (by omega) (by omega)) ?_
  refine own_istore (pc' := 240) X0 at_238 rfl (Ls' := #[.val (.int k), .val (.int r0), .val (.int r1), .val (.long xa), .second, .val (.long xb), .second, .val (.long xc), .second, .val (.int (Int32.ofNat n)), .val (.long xd), .second, .val (.ref aR), .val (.ref aA), .val (.ref aB), .val (.ref aD), .val (.ref nc), .val (.int (0 : Int32)), .val (.int (1 : Int32)), .val (.int t2), .val (.long bl), .second, .val (.int to0), .val (.int to1), .val (.long P0), .second, .val (.long P1), .second, .val (.int (Int32.ofNat w00)), .val (.int (Int32.ofNat w01)), .val (.int (Int32.ofNat w10)), .val (.int (Int32.ofNat w11)), .val (.int (Int32.ofNat (n / 2))), .val (.int (Int32.ofNat (w00 + w01))), .unset, .unset, .unset, .unset, .unset, .unset, .unset]) rfl ?_
  refine own_iload (pc' := 242) X0 at_240 rfl rfl ?_
  refine own_iload (pc' := 244) X0 at_242 rfl rfl ?_
  refine own_iadd (pc' := 245) X0 at_244 rfl (r := (Int32.ofNat (w10 + w11))) (own_add32 (by omega) (by omega)) ?_
  refine own_istore (pc' := 247) X0 at_245 rfl (Ls' := #[.val (.int k), .val (.int r0), .val (.int r1), .val (.long xa), .second, .val (.long xb), .second, .val (.long xc), .second, .val (.int (Int32.ofNat n)), .val (.long xd), .second, .val (.ref aR), .val (.ref aA), .val (.ref aB), .val (.ref aD), .val (.ref nc), .val (.int (0 : Int32)), .val (.int (1 : Int32)), .val (.int t2), .val (.long bl), .second, .val (.int to0), .val (.int to1), .val (.long P0), .second, .val (.long P1), .second, .val (.int (Int32.ofNat w00)), .val (.int (Int32.ofNat w01)), .val (.int (Int32.ofNat w10)), .val (.int (Int32.ofNat w11)), .val (.int (Int32.ofNat (n / 2))), .val (.int (Int32.ofNat (w00 + w01))), .val (.int (Int32.ofNat (w10 + w11))), .unset, .unset, .unset, .unset, .unset, .unset]) rfl ?_
  refine own_iload (pc' := 249) X0 at_247 rfl rfl ?_
  refine own_iload (pc' := 251) X0 at_249 rfl rfl ?_
  by_cases h251 : (Int32.ofNat (n / 2)) < (Int32.ofNat (w00 + w01))
  · refine own_icmpY (pc' := 258) X0 at_251 ((tlt h251).2.2.1) (by decide) (by decide) ?_
    have f1 : n / 2 < w00 + w01 := by rw [Int32.lt_iff_toInt_lt, own_i32 (by omega), own_i32 (by omega)] at h251; omega
    refine own_iconst (pc' := 259) X0 at_258 rfl (z := (0 : Int32)) (by decide) ?_
    refine own_istore (pc' := 261) X0 at_259 rfl (Ls' := #[.val (.int k), .val (.int r0), .val (.int r1), .val (.long xa), .second, .val (.long xb), .second, .val (.long xc), .second, .val (.int (Int32.ofNat n)), .val (.long xd), .second, .val (.ref aR), .val (.ref aA), .val (.ref aB), .val (.ref aD), .val (.ref nc), .val (.int (0 : Int32)), .val (.int (1 : Int32)), .val (.int t2), .val (.long bl), .second, .val (.int to0), .val (.int to1), .val (.long P0), .second, .val (.long P1), .second, .val (.int (Int32.ofNat w00)), .val (.int (Int32.ofNat w01)), .val (.int (Int32.ofNat w10)), .val (.int (Int32.ofNat w11)), .val (.int (Int32.ofNat (n / 2))), .val (.int (Int32.ofNat (w00 + w01))), .val (.int (Int32.ofNat (w10 + w11))), .val (.int (0 : Int32)), .unset, .unset, .unset, .unset, .unset]) rfl ?_
    refine own_iload (pc' := 263) X0 at_261 rfl rfl ?_
    refine own_ifY (pc' := 280) X0 at_263 ((teq rfl).1) (by decide) (by decide) ?_
    refine own_iconst (pc' := 281) X0 at_280 rfl (z := (0 : Int32)) (by decide) ?_
    refine own_istore (pc' := 283) X0 at_281 rfl (Ls' := #[.val (.int k), .val (.int r0), .val (.int r1), .val (.long xa), .second, .val (.long xb), .second, .val (.long xc), .second, .val (.int (Int32.ofNat n)), .val (.long xd), .second, .val (.ref aR), .val (.ref aA), .val (.ref aB), .val (.ref aD), .val (.ref nc), .val (.int (0 : Int32)), .val (.int (1 : Int32)), .val (.int t2), .val (.long bl), .second, .val (.int to0), .val (.int to1), .val (.long P0), .second, .val (.long P1), .second, .val (.int (Int32.ofNat w00)), .val (.int (Int32.ofNat w01)), .val (.int (Int32.ofNat w10)), .val (.int (Int32.ofNat w11)), .val (.int (Int32.ofNat (n / 2))), .val (.int (Int32.ofNat (w00 + w01))), .val (.int (Int32.ofNat (w10 + w11))), .val (.int (0 : Int32)), .val (.int (0 : Int32)), .unset, .unset, .unset, .unset]) rfl ?_
    refine own_iload (pc' := 285) X0 at_283 rfl rfl ?_
    refine own_ifY (pc' := 298) X0 at_285 ((teq rfl).1) (by decide) (by decide) ?_
    refine own_lconst (pc' := 299) X0 at_298 rfl (z := (0 : Int64)) (by decide) ?_
    refine own_lstore (pc' := 301) X0 at_299 rfl (Ls' := #[.val (.int k), .val (.int r0), .val (.int r1), .val (.long xa), .second, .val (.long xb), .second, .val (.long xc), .second, .val (.int (Int32.ofNat n)), .val (.long xd), .second, .val (.ref aR), .val (.ref aA), .val (.ref aB), .val (.ref aD), .val (.ref nc), .val (.int (0 : Int32)), .val (.int (1 : Int32)), .val (.int t2), .val (.long bl), .second, .val (.int to0), .val (.int to1), .val (.long P0), .second, .val (.long P1), .second, .val (.int (Int32.ofNat w00)), .val (.int (Int32.ofNat w01)), .val (.int (Int32.ofNat w10)), .val (.int (Int32.ofNat w11)), .val (.int (Int32.ofNat (n / 2))), .val (.int (Int32.ofNat (w00 + w01))), .val (.int (Int32.ofNat (w10 + w11))), .val (.int (0 : Int32)), .val (.int (0 : Int32)), .val (.long (0 : Int64)), .second, .unset, .unset]) rfl ?_
    refine own_iload (pc' := 303) X0 at_301 rfl rfl ?_
    refine own_ifY (pc' := 314) X0 at_303 ((teq rfl).1) (by decide) (by decide) ?_
    refine own_iconst (pc' := 315) X0 at_314 rfl (z := (0 : Int32)) (by decide) ?_
    refine own_istore (pc' := 317) X0 at_315 rfl (Ls' := #[.val (.int k), .val (.int r0), .val (.int r1), .val (.long xa), .second, .val (.long xb), .second, .val (.long xc), .second, .val (.int (Int32.ofNat n)), .val (.long xd), .second, .val (.ref aR), .val (.ref aA), .val (.ref aB), .val (.ref aD), .val (.ref nc), .val (.int (0 : Int32)), .val (.int (1 : Int32)), .val (.int t2), .val (.long bl), .second, .val (.int to0), .val (.int to1), .val (.long P0), .second, .val (.long P1), .second, .val (.int (Int32.ofNat w00)), .val (.int (Int32.ofNat w01)), .val (.int (Int32.ofNat w10)), .val (.int (Int32.ofNat w11)), .val (.int (Int32.ofNat (n / 2))), .val (.int (Int32.ofNat (w00 + w01))), .val (.int (Int32.ofNat (w10 + w11))), .val (.int (0 : Int32)), .val (.int (0 : Int32)), .val (.long (0 : Int64)), .second, .val (.int (0 : Int32)), .unset]) rfl ?_
    refine own_iload (pc' := 319) X0 at_317 rfl rfl ?_
    refine own_ifY (pc' := 333) X0 at_319 ((teq rfl).1) (by decide) (by decide) ?_
    refine own_iconst (pc' := 334) X0 at_333 rfl (z := (0 : Int32)) (by decide) ?_
    refine own_istore (pc' := 336) X0 at_334 rfl (Ls' := #[.val (.int k), .val (.int r0), .val (.int r1), .val (.long xa), .second, .val (.long xb), .second, .val (.long xc), .second, .val (.int (Int32.ofNat n)), .val (.long xd), .second, .val (.ref aR), .val (.ref aA), .val (.ref aB), .val (.ref aD), .val (.ref nc), .val (.int (0 : Int32)), .val (.int (1 : Int32)), .val (.int t2), .val (.long bl), .second, .val (.int to0), .val (.int to1), .val (.long P0), .second, .val (.long P1), .second, .val (.int (Int32.ofNat w00)), .val (.int (Int32.ofNat w01)), .val (.int (Int32.ofNat w10)), .val (.int (Int32.ofNat w11)), .val (.int (Int32.ofNat (n / 2))), .val (.int (Int32.ofNat (w00 + w01))), .val (.int (Int32.ofNat (w10 + w11))), .val (.int (0 : Int32)), .val (.int (0 : Int32)), .val (.long (0 : Int64)), .second, .val (.int (0 : Int32)), .val (.int (0 : Int32))]) rfl ?_
    refine own_iload (pc' := 338) X0 at_336 rfl rfl ?_
    refine own_ifN (pc' := 341) X0 at_338 rfl ((teq rfl).2) ?_
    refine own_iload (pc' := 343) X0 at_341 rfl rfl ?_
    refine own_ifN (pc' := 346) X0 at_343 rfl ((feq (by decide)).1) ?_
    refine own_iload (pc' := 348) X0 at_346 rfl rfl ?_
    refine own_iload (pc' := 350) X0 at_348 rfl rfl ?_
    refine own_icmpN (pc' := 353) X0 at_350 rfl ((teq (by rw [p_t2, if_pos (by omega)])).2) ?_
    refine own_lload (pc' := 355) X0 at_353 rfl rfl ?_
    refine own_lload (pc' := 357) X0 at_355 rfl rfl ?_
    refine own_lcmp (pc' := 358) X0 at_357 rfl ?_
    refine own_ifN (pc' := 361) X0 at_358 rfl ((own_lc_eq (by rw [p_bl, if_neg (fun q => by omega)])).2) ?_
    refine own_iload (pc' := 363) X0 at_361 rfl rfl ?_
    refine own_iload (pc' := 365) X0 at_363 rfl rfl ?_
    refine own_icmpN (pc' := 368) X0 at_365 rfl ((teq (by rw [p_to0, if_neg (fun q => by omega)])).2) ?_
    refine own_iload (pc' := 370) X0 at_368 rfl rfl ?_
    refine own_iload (pc' := 372) X0 at_370 rfl rfl ?_
    refine own_icmpN (pc' := 375) X0 at_372 rfl ((teq (by rw [p_to1, if_neg (fun q => by omega)])).2) ?_
    refine own_iconst (pc' := 376) X0 at_375 rfl (z := (1 : Int32)) (by decide) ?_
    refine own_goto (pc' := 380) X0 at_376 (by decide) (by decide) ?_
    exact own_ret X0 hGe (t := .boolean) rfl rfl (Or.inl ⟨rfl, by simp, _, rfl⟩) at_380 (by decide) (by decide) rfl
  · refine own_icmpN (pc' := 254) X0 at_251 rfl ((flt h251).2.2.1) ?_
    have f1 : ¬ n / 2 < w00 + w01 := fun q => h251 (own_i32lt q (by omega))
    refine own_iconst (pc' := 255) X0 at_254 rfl (z := (1 : Int32)) (by decide) ?_
    refine own_goto (pc' := 259) X0 at_255 (by decide) (by decide) ?_
    refine own_istore (pc' := 261) X0 at_259 rfl (Ls' := #[.val (.int k), .val (.int r0), .val (.int r1), .val (.long xa), .second, .val (.long xb), .second, .val (.long xc), .second, .val (.int (Int32.ofNat n)), .val (.long xd), .second, .val (.ref aR), .val (.ref aA), .val (.ref aB), .val (.ref aD), .val (.ref nc), .val (.int (0 : Int32)), .val (.int (1 : Int32)), .val (.int t2), .val (.long bl), .second, .val (.int to0), .val (.int to1), .val (.long P0), .second, .val (.long P1), .second, .val (.int (Int32.ofNat w00)), .val (.int (Int32.ofNat w01)), .val (.int (Int32.ofNat w10)), .val (.int (Int32.ofNat w11)), .val (.int (Int32.ofNat (n / 2))), .val (.int (Int32.ofNat (w00 + w01))), .val (.int (Int32.ofNat (w10 + w11))), .val (.int (1 : Int32)), .unset, .unset, .unset, .unset, .unset]) rfl ?_
    refine own_iload (pc' := 263) X0 at_261 rfl rfl ?_
    refine own_ifN (pc' := 266) X0 at_263 rfl ((feq (by decide)).1) ?_
    refine own_iload (pc' := 268) X0 at_266 rfl rfl ?_
    refine own_iload (pc' := 270) X0 at_268 rfl rfl ?_
    refine own_iadd (pc' := 271) X0 at_270 rfl (r := (Int32.ofNat (w00 + w01 + (w10 + w11)))) (own_add32 (by omega) (by omega)) ?_
    refine own_iload (pc' := 273) X0 at_271 rfl rfl ?_
    by_cases h273 : (Int32.ofNat (n / 2)) < (Int32.ofNat (w00 + w01 + (w10 + w11)))
    · refine own_icmpY (pc' := 280) X0 at_273 ((tlt h273).2.2.1) (by decide) (by decide) ?_
      have f2 : n / 2 < w00 + w01 + (w10 + w11) := by rw [Int32.lt_iff_toInt_lt, own_i32 (by omega), own_i32 (by omega)] at h273; omega
      refine own_iconst (pc' := 281) X0 at_280 rfl (z := (0 : Int32)) (by decide) ?_
      refine own_istore (pc' := 283) X0 at_281 rfl (Ls' := #[.val (.int k), .val (.int r0), .val (.int r1), .val (.long xa), .second, .val (.long xb), .second, .val (.long xc), .second, .val (.int (Int32.ofNat n)), .val (.long xd), .second, .val (.ref aR), .val (.ref aA), .val (.ref aB), .val (.ref aD), .val (.ref nc), .val (.int (0 : Int32)), .val (.int (1 : Int32)), .val (.int t2), .val (.long bl), .second, .val (.int to0), .val (.int to1), .val (.long P0), .second, .val (.long P1), .second, .val (.int (Int32.ofNat w00)), .val (.int (Int32.ofNat w01)), .val (.int (Int32.ofNat w10)), .val (.int (Int32.ofNat w11)), .val (.int (Int32.ofNat (n / 2))), .val (.int (Int32.ofNat (w00 + w01))), .val (.int (Int32.ofNat (w10 + w11))), .val (.int (1 : Int32)), .val (.int (0 : Int32)), .unset, .unset, .unset, .unset]) rfl ?_
      refine own_iload (pc' := 285) X0 at_283 rfl rfl ?_
      refine own_ifY (pc' := 298) X0 at_285 ((teq rfl).1) (by decide) (by decide) ?_
      refine own_lconst (pc' := 299) X0 at_298 rfl (z := (0 : Int64)) (by decide) ?_
      refine own_lstore (pc' := 301) X0 at_299 rfl (Ls' := #[.val (.int k), .val (.int r0), .val (.int r1), .val (.long xa), .second, .val (.long xb), .second, .val (.long xc), .second, .val (.int (Int32.ofNat n)), .val (.long xd), .second, .val (.ref aR), .val (.ref aA), .val (.ref aB), .val (.ref aD), .val (.ref nc), .val (.int (0 : Int32)), .val (.int (1 : Int32)), .val (.int t2), .val (.long bl), .second, .val (.int to0), .val (.int to1), .val (.long P0), .second, .val (.long P1), .second, .val (.int (Int32.ofNat w00)), .val (.int (Int32.ofNat w01)), .val (.int (Int32.ofNat w10)), .val (.int (Int32.ofNat w11)), .val (.int (Int32.ofNat (n / 2))), .val (.int (Int32.ofNat (w00 + w01))), .val (.int (Int32.ofNat (w10 + w11))), .val (.int (1 : Int32)), .val (.int (0 : Int32)), .val (.long (0 : Int64)), .second, .unset, .unset]) rfl ?_
      refine own_iload (pc' := 303) X0 at_301 rfl rfl ?_
      refine own_ifY (pc' := 314) X0 at_303 ((teq rfl).1) (by decide) (by decide) ?_
      refine own_iconst (pc' := 315) X0 at_314 rfl (z := (0 : Int32)) (by decide) ?_
      refine own_istore (pc' := 317) X0 at_315 rfl (Ls' := #[.val (.int k), .val (.int r0), .val (.int r1), .val (.long xa), .second, .val (.long xb), .second, .val (.long xc), .second, .val (.int (Int32.ofNat n)), .val (.long xd), .second, .val (.ref aR), .val (.ref aA), .val (.ref aB), .val (.ref aD), .val (.ref nc), .val (.int (0 : Int32)), .val (.int (1 : Int32)), .val (.int t2), .val (.long bl), .second, .val (.int to0), .val (.int to1), .val (.long P0), .second, .val (.long P1), .second, .val (.int (Int32.ofNat w00)), .val (.int (Int32.ofNat w01)), .val (.int (Int32.ofNat w10)), .val (.int (Int32.ofNat w11)), .val (.int (Int32.ofNat (n / 2))), .val (.int (Int32.ofNat (w00 + w01))), .val (.int (Int32.ofNat (w10 + w11))), .val (.int (1 : Int32)), .val (.int (0 : Int32)), .val (.long (0 : Int64)), .second, .val (.int (0 : Int32)), .unset]) rfl ?_
      refine own_iload (pc' := 319) X0 at_317 rfl rfl ?_
      refine own_ifY (pc' := 333) X0 at_319 ((teq rfl).1) (by decide) (by decide) ?_
      refine own_iconst (pc' := 334) X0 at_333 rfl (z := (0 : Int32)) (by decide) ?_
      refine own_istore (pc' := 336) X0 at_334 rfl (Ls' := #[.val (.int k), .val (.int r0), .val (.int r1), .val (.long xa), .second, .val (.long xb), .second, .val (.long xc), .second, .val (.int (Int32.ofNat n)), .val (.long xd), .second, .val (.ref aR), .val (.ref aA), .val (.ref aB), .val (.ref aD), .val (.ref nc), .val (.int (0 : Int32)), .val (.int (1 : Int32)), .val (.int t2), .val (.long bl), .second, .val (.int to0), .val (.int to1), .val (.long P0), .second, .val (.long P1), .second, .val (.int (Int32.ofNat w00)), .val (.int (Int32.ofNat w01)), .val (.int (Int32.ofNat w10)), .val (.int (Int32.ofNat w11)), .val (.int (Int32.ofNat (n / 2))), .val (.int (Int32.ofNat (w00 + w01))), .val (.int (Int32.ofNat (w10 + w11))), .val (.int (1 : Int32)), .val (.int (0 : Int32)), .val (.long (0 : Int64)), .second, .val (.int (0 : Int32)), .val (.int (0 : Int32))]) rfl ?_
      refine own_iload (pc' := 338) X0 at_336 rfl rfl ?_
      refine own_ifN (pc' := 341) X0 at_338 rfl ((teq rfl).2) ?_
      refine own_iload (pc' := 343) X0 at_341 rfl rfl ?_
      refine own_ifN (pc' := 346) X0 at_343 rfl ((feq (by decide)).1) ?_
      refine own_iload (pc' := 348) X0 at_346 rfl rfl ?_
      refine own_iload (pc' := 350) X0 at_348 rfl rfl ?_
      refine own_icmpN (pc' := 353) X0 at_350 rfl ((teq (by rw [p_t2, if_neg (by omega)])).2) ?_
      refine own_lload (pc' := 355) X0 at_353 rfl rfl ?_
      refine own_lload (pc' := 357) X0 at_355 rfl rfl ?_
      refine own_lcmp (pc' := 358) X0 at_357 rfl ?_
      refine own_ifN (pc' := 361) X0 at_358 rfl ((own_lc_eq (by rw [p_bl, if_neg (fun q => by omega)])).2) ?_
      refine own_iload (pc' := 363) X0 at_361 rfl rfl ?_
      refine own_iload (pc' := 365) X0 at_363 rfl rfl ?_
      refine own_icmpN (pc' := 368) X0 at_365 rfl ((teq (by rw [p_to0, if_neg (fun q => by omega)])).2) ?_
      refine own_iload (pc' := 370) X0 at_368 rfl rfl ?_
      refine own_iload (pc' := 372) X0 at_370 rfl rfl ?_
      refine own_icmpN (pc' := 375) X0 at_372 rfl ((teq (by rw [p_to1, if_neg (fun q => by omega)])).2) ?_
      refine own_iconst (pc' := 376) X0 at_375 rfl (z := (1 : Int32)) (by decide) ?_
      refine own_goto (pc' := 380) X0 at_376 (by decide) (by decide) ?_
      exact own_ret X0 hGe (t := .boolean) rfl rfl (Or.inl ⟨rfl, by simp, _, rfl⟩) at_380 (by decide) (by decide) rfl
    · refine own_icmpN (pc' := 276) X0 at_273 rfl ((flt h273).2.2.1) ?_
      have f2 : ¬ n / 2 < w00 + w01 + (w10 + w11) := fun q => h273 (own_i32lt q (by omega))
      refine own_iconst (pc' := 277) X0 at_276 rfl (z := (1 : Int32)) (by decide) ?_
      refine own_goto (pc' := 281) X0 at_277 (by decide) (by decide) ?_
      refine own_istore (pc' := 283) X0 at_281 rfl (Ls' := #[.val (.int k), .val (.int r0), .val (.int r1), .val (.long xa), .second, .val (.long xb), .second, .val (.long xc), .second, .val (.int (Int32.ofNat n)), .val (.long xd), .second, .val (.ref aR), .val (.ref aA), .val (.ref aB), .val (.ref aD), .val (.ref nc), .val (.int (0 : Int32)), .val (.int (1 : Int32)), .val (.int t2), .val (.long bl), .second, .val (.int to0), .val (.int to1), .val (.long P0), .second, .val (.long P1), .second, .val (.int (Int32.ofNat w00)), .val (.int (Int32.ofNat w01)), .val (.int (Int32.ofNat w10)), .val (.int (Int32.ofNat w11)), .val (.int (Int32.ofNat (n / 2))), .val (.int (Int32.ofNat (w00 + w01))), .val (.int (Int32.ofNat (w10 + w11))), .val (.int (1 : Int32)), .val (.int (1 : Int32)), .unset, .unset, .unset, .unset]) rfl ?_
      refine own_iload (pc' := 285) X0 at_283 rfl rfl ?_
      refine own_ifN (pc' := 288) X0 at_285 rfl ((feq (by decide)).1) ?_
      refine own_ldc2 (pc' := 291) X0 (v := (2 : Int64)) (W 104 rfl) at_288 rfl ?_
      refine own_iload (pc' := 293) X0 at_291 rfl rfl ?_
      refine own_i2l (pc' := 294) X0 at_293 rfl (r := (Int32.ofNat n).toInt64) rfl ?_
      refine own_lmul (pc' := 295) X0 at_294 rfl (r := ((2 : Int64) * (Int32.ofNat n).toInt64)) rfl ?_
      refine own_goto (pc' := 299) X0 at_295 (by decide) (by decide) ?_
      refine own_lstore (pc' := 301) X0 at_299 rfl (Ls' := #[.val (.int k), .val (.int r0), .val (.int r1), .val (.long xa), .second, .val (.long xb), .second, .val (.long xc), .second, .val (.int (Int32.ofNat n)), .val (.long xd), .second, .val (.ref aR), .val (.ref aA), .val (.ref aB), .val (.ref aD), .val (.ref nc), .val (.int (0 : Int32)), .val (.int (1 : Int32)), .val (.int t2), .val (.long bl), .second, .val (.int to0), .val (.int to1), .val (.long P0), .second, .val (.long P1), .second, .val (.int (Int32.ofNat w00)), .val (.int (Int32.ofNat w01)), .val (.int (Int32.ofNat w10)), .val (.int (Int32.ofNat w11)), .val (.int (Int32.ofNat (n / 2))), .val (.int (Int32.ofNat (w00 + w01))), .val (.int (Int32.ofNat (w10 + w11))), .val (.int (1 : Int32)), .val (.int (1 : Int32)), .val (.long ((2 : Int64) * (Int32.ofNat n).toInt64)), .second, .unset, .unset]) rfl ?_
      refine own_iload (pc' := 303) X0 at_301 rfl rfl ?_
      refine own_ifN (pc' := 306) X0 at_303 rfl ((feq (by decide)).1) ?_
      refine own_iload (pc' := 308) X0 at_306 rfl rfl ?_
      refine own_iload (pc' := 310) X0 at_308 rfl rfl ?_
      refine own_iadd (pc' := 311) X0 at_310 rfl (r := (Int32.ofNat (w00 + w10))) (own_add32 (by omega) (by omega)) ?_
      refine own_goto (pc' := 315) X0 at_311 (by decide) (by decide) ?_
      refine own_istore (pc' := 317) X0 at_315 rfl (Ls' := #[.val (.int k), .val (.int r0), .val (.int r1), .val (.long xa), .second, .val (.long xb), .second, .val (.long xc), .second, .val (.int (Int32.ofNat n)), .val (.long xd), .second, .val (.ref aR), .val (.ref aA), .val (.ref aB), .val (.ref aD), .val (.ref nc), .val (.int (0 : Int32)), .val (.int (1 : Int32)), .val (.int t2), .val (.long bl), .second, .val (.int to0), .val (.int to1), .val (.long P0), .second, .val (.long P1), .second, .val (.int (Int32.ofNat w00)), .val (.int (Int32.ofNat w01)), .val (.int (Int32.ofNat w10)), .val (.int (Int32.ofNat w11)), .val (.int (Int32.ofNat (n / 2))), .val (.int (Int32.ofNat (w00 + w01))), .val (.int (Int32.ofNat (w10 + w11))), .val (.int (1 : Int32)), .val (.int (1 : Int32)), .val (.long ((2 : Int64) * (Int32.ofNat n).toInt64)), .second, .val (.int (Int32.ofNat (w00 + w10))), .unset]) rfl ?_
      refine own_iload (pc' := 319) X0 at_317 rfl rfl ?_
      refine own_ifN (pc' := 322) X0 at_319 rfl ((feq (by decide)).1) ?_
      refine own_iload (pc' := 324) X0 at_322 rfl rfl ?_
      refine own_iload (pc' := 326) X0 at_324 rfl rfl ?_
      refine own_iadd (pc' := 327) X0 at_326 rfl (r := (Int32.ofNat (w00 + w10 + w01))) (own_add32 (by omega) (by omega)) ?_
      refine own_iload (pc' := 329) X0 at_327 rfl rfl ?_
      refine own_iadd (pc' := 330) X0 at_329 rfl (r := (Int32.ofNat (w00 + w10 + (w01 + w11)))) (by rw [own_add32 (by omega) (by omega), show w00 + w10 + w01 + w11 = w00 + w10 + (w01 + w11) from by omega]) ?_
      refine own_goto (pc' := 334) X0 at_330 (by decide) (by decide) ?_
      refine own_istore (pc' := 336) X0 at_334 rfl (Ls' := #[.val (.int k), .val (.int r0), .val (.int r1), .val (.long xa), .second, .val (.long xb), .second, .val (.long xc), .second, .val (.int (Int32.ofNat n)), .val (.long xd), .second, .val (.ref aR), .val (.ref aA), .val (.ref aB), .val (.ref aD), .val (.ref nc), .val (.int (0 : Int32)), .val (.int (1 : Int32)), .val (.int t2), .val (.long bl), .second, .val (.int to0), .val (.int to1), .val (.long P0), .second, .val (.long P1), .second, .val (.int (Int32.ofNat w00)), .val (.int (Int32.ofNat w01)), .val (.int (Int32.ofNat w10)), .val (.int (Int32.ofNat w11)), .val (.int (Int32.ofNat (n / 2))), .val (.int (Int32.ofNat (w00 + w01))), .val (.int (Int32.ofNat (w10 + w11))), .val (.int (1 : Int32)), .val (.int (1 : Int32)), .val (.long ((2 : Int64) * (Int32.ofNat n).toInt64)), .second, .val (.int (Int32.ofNat (w00 + w10))), .val (.int (Int32.ofNat (w00 + w10 + (w01 + w11))))]) rfl ?_
      refine own_iload (pc' := 338) X0 at_336 rfl rfl ?_
      refine own_ifN (pc' := 341) X0 at_338 rfl ((teq rfl).2) ?_
      refine own_iload (pc' := 343) X0 at_341 rfl rfl ?_
      refine own_ifN (pc' := 346) X0 at_343 rfl ((feq (by decide)).1) ?_
      refine own_iload (pc' := 348) X0 at_346 rfl rfl ?_
      refine own_iload (pc' := 350) X0 at_348 rfl rfl ?_
      refine own_icmpN (pc' := 353) X0 at_350 rfl ((teq (by rw [p_t2, if_neg (by omega)])).2) ?_
      refine own_lload (pc' := 355) X0 at_353 rfl rfl ?_
      refine own_lload (pc' := 357) X0 at_355 rfl rfl ?_
      refine own_lcmp (pc' := 358) X0 at_357 rfl ?_
      refine own_ifN (pc' := 361) X0 at_358 rfl ((own_lc_eq (by rw [p_bl, if_pos ⟨by omega, by omega⟩])).2) ?_
      refine own_iload (pc' := 363) X0 at_361 rfl rfl ?_
      refine own_iload (pc' := 365) X0 at_363 rfl rfl ?_
      refine own_icmpN (pc' := 368) X0 at_365 rfl ((teq (by rw [p_to0, if_pos ⟨by omega, by omega⟩])).2) ?_
      refine own_iload (pc' := 370) X0 at_368 rfl rfl ?_
      refine own_iload (pc' := 372) X0 at_370 rfl rfl ?_
      refine own_icmpN (pc' := 375) X0 at_372 rfl ((teq (by rw [p_to1, if_pos ⟨by omega, by omega⟩])).2) ?_
      refine own_iconst (pc' := 376) X0 at_375 rfl (z := (1 : Int32)) (by decide) ?_
      refine own_goto (pc' := 380) X0 at_376 (by decide) (by decide) ?_
      exact own_ret X0 hGe (t := .boolean) rfl rfl (Or.inl ⟨rfl, by simp, _, rfl⟩) at_380 (by decide) (by decide) rfl
set_option maxRecDepth 65536 in
set_option maxHeartbeats 40000000 in
theorem own_fl3 {G : State → JFrame → Prop} {p : Program} {l : Launch} {e : Env} {s : State} {m : MethodId} {args : Array Value} {below : List Frame} {meth : Method} {c : Code} {Z : State} {a0 : Array Value} {n0 : Nat} {T0 : State} {h0 : Heap} (hw : ∀ d ∈ tables_1, d.before a0 Z = true) (k r0 r1 : Int32) (xa xb xc xd : Int64) (n : Nat) (aR aA aB aD nc : Addr) (t2 : Int32) (bl : Int64) (to0 to1 : Int32) (P0 P1 : Int64)
    (X0 : own_At G p l e room_1 s m args below meth c Z n0 "com/example/kentro/kentro/bound/NearestCandidatesTallyPinLaw" "law" code maxLocals ret T0 h0 13 120) (hGe : G = own_Fin p e below s Z n0 (fun v h => v = some (.int 1)) room_1.cells room_1.slots) (p_n2 : 2 ≤ n) (p_n9 : n ≤ 9) (p_t2 : t2 = if n / 2 < 0 + (own_in P0 xa) + (own_in P1 xb) then 0 else 1) (p_bl : bl = if (¬ n / 2 < 0 + (own_in P0 xa) + (own_in P1 xb) ∧ ¬ n / 2 < 0 + (own_in P0 xa) + (own_in P1 xb) + (own_in P0 xc) + (own_in P1 xd)) then 2 * (Int32.ofNat n).toInt64 else 0) (p_to0 : to0 = if (¬ n / 2 < 0 + (own_in P0 xa) + (own_in P1 xb) ∧ ¬ n / 2 < 0 + (own_in P0 xa) + (own_in P1 xb) + (own_in P0 xc) + (own_in P1 xd)) then Int32.ofNat ((own_in P0 xa) + (own_in P0 xc)) else 0) (p_to1 : to1 = if (¬ n / 2 < 0 + (own_in P0 xa) + (own_in P1 xb) ∧ ¬ n / 2 < 0 + (own_in P0 xa) + (own_in P1 xb) + (own_in P0 xc) + (own_in P1 xd)) then Int32.ofNat ((own_in P0 xa) + (own_in P0 xc) + ((own_in P1 xb) + (own_in P1 xd))) else 0) :
    G T0 (mkF m 212 #[.val (.int k), .val (.int r0), .val (.int r1), .val (.long xa), .second, .val (.long xb), .second, .val (.long xc), .second, .val (.int (Int32.ofNat n)), .val (.long xd), .second, .val (.ref aR), .val (.ref aA), .val (.ref aB), .val (.ref aD), .val (.ref nc), .val (.int (0 : Int32)), .val (.int (1 : Int32)), .val (.int t2), .val (.long bl), .second, .val (.int to0), .val (.int to1), .val (.long P0), .second, .val (.long P1), .second, .val (.int (Int32.ofNat (own_in P0 xa))), .val (.int (Int32.ofNat (own_in P1 xb))), .val (.int (Int32.ofNat (own_in P0 xc))), .unset, .unset, .unset, .unset, .unset, .unset, .unset, .unset, .unset, .unset] []) := by
  have W : ∀ (k : Nat) {d : Jvm.Cond}, tables_1[k]? = some d → d.before a0 Z = true := fun k d q => hw d (List.mem_of_getElem? q)
  refine own_lload (pc' := 214) X0 at_212 rfl rfl ?_
  refine own_lload (pc' := 216) X0 at_214 rfl rfl ?_
  refine own_lcmp (pc' := 217) X0 at_216 rfl ?_
  by_cases hq : P1 < xd
  · refine own_ifY (pc' := 224) X0 at_217 ((own_lc_gt hq).1) (by decide) (by decide) ?_
    refine own_iconst (pc' := 225) X0 at_224 rfl (z := (Int32.ofNat (own_in P1 xd))) (by unfold own_in; rw [if_pos hq]; decide) ?_
    refine own_istore (pc' := 227) X0 at_225 rfl (Ls' := #[.val (.int k), .val (.int r0), .val (.int r1), .val (.long xa), .second, .val (.long xb), .second, .val (.long xc), .second, .val (.int (Int32.ofNat n)), .val (.long xd), .second, .val (.ref aR), .val (.ref aA), .val (.ref aB), .val (.ref aD), .val (.ref nc), .val (.int (0 : Int32)), .val (.int (1 : Int32)), .val (.int t2), .val (.long bl), .second, .val (.int to0), .val (.int to1), .val (.long P0), .second, .val (.long P1), .second, .val (.int (Int32.ofNat (own_in P0 xa))), .val (.int (Int32.ofNat (own_in P1 xb))), .val (.int (Int32.ofNat (own_in P0 xc))), .val (.int (Int32.ofNat (own_in P1 xd))), .unset, .unset, .unset, .unset, .unset, .unset, .unset, .unset, .unset]) rfl ?_
    exact own_227 hw k r0 r1 xa xb xc xd n aR aA aB aD nc t2 bl to0 to1 P0 P1 (own_in P0 xa) (own_in P1 xb) (own_in P0 xc) (own_in P1 xd) (own_mono X0 (by decide : 13 ≤ 13) (by decide : 120 ≤ 120)) hGe p_n2 p_n9 p_t2 p_bl p_to0 p_to1 (own_in1 _ _) (own_in1 _ _) (own_in1 _ _) (own_in1 _ _)
  · refine own_ifN (pc' := 220) X0 at_217 rfl ((own_lc_ngt hq).1) ?_
    refine own_iconst (pc' := 221) X0 at_220 rfl (z := (Int32.ofNat (own_in P1 xd))) (by unfold own_in; rw [if_neg hq]; decide) ?_
    refine own_goto (pc' := 225) X0 at_221 (by decide) (by decide) ?_
    refine own_istore (pc' := 227) X0 at_225 rfl (Ls' := #[.val (.int k), .val (.int r0), .val (.int r1), .val (.long xa), .second, .val (.long xb), .second, .val (.long xc), .second, .val (.int (Int32.ofNat n)), .val (.long xd), .second, .val (.ref aR), .val (.ref aA), .val (.ref aB), .val (.ref aD), .val (.ref nc), .val (.int (0 : Int32)), .val (.int (1 : Int32)), .val (.int t2), .val (.long bl), .second, .val (.int to0), .val (.int to1), .val (.long P0), .second, .val (.long P1), .second, .val (.int (Int32.ofNat (own_in P0 xa))), .val (.int (Int32.ofNat (own_in P1 xb))), .val (.int (Int32.ofNat (own_in P0 xc))), .val (.int (Int32.ofNat (own_in P1 xd))), .unset, .unset, .unset, .unset, .unset, .unset, .unset, .unset, .unset]) rfl ?_
    exact own_227 hw k r0 r1 xa xb xc xd n aR aA aB aD nc t2 bl to0 to1 P0 P1 (own_in P0 xa) (own_in P1 xb) (own_in P0 xc) (own_in P1 xd) (own_mono X0 (by decide : 13 ≤ 13) (by decide : 120 ≤ 120)) hGe p_n2 p_n9 p_t2 p_bl p_to0 p_to1 (own_in1 _ _) (own_in1 _ _) (own_in1 _ _) (own_in1 _ _)
set_option maxRecDepth 65536 in
set_option maxHeartbeats 40000000 in
theorem own_fl2 {G : State → JFrame → Prop} {p : Program} {l : Launch} {e : Env} {s : State} {m : MethodId} {args : Array Value} {below : List Frame} {meth : Method} {c : Code} {Z : State} {a0 : Array Value} {n0 : Nat} {T0 : State} {h0 : Heap} (hw : ∀ d ∈ tables_1, d.before a0 Z = true) (k r0 r1 : Int32) (xa xb xc xd : Int64) (n : Nat) (aR aA aB aD nc : Addr) (t2 : Int32) (bl : Int64) (to0 to1 : Int32) (P0 P1 : Int64)
    (X0 : own_At G p l e room_1 s m args below meth c Z n0 "com/example/kentro/kentro/bound/NearestCandidatesTallyPinLaw" "law" code maxLocals ret T0 h0 13 120) (hGe : G = own_Fin p e below s Z n0 (fun v h => v = some (.int 1)) room_1.cells room_1.slots) (p_n2 : 2 ≤ n) (p_n9 : n ≤ 9) (p_t2 : t2 = if n / 2 < 0 + (own_in P0 xa) + (own_in P1 xb) then 0 else 1) (p_bl : bl = if (¬ n / 2 < 0 + (own_in P0 xa) + (own_in P1 xb) ∧ ¬ n / 2 < 0 + (own_in P0 xa) + (own_in P1 xb) + (own_in P0 xc) + (own_in P1 xd)) then 2 * (Int32.ofNat n).toInt64 else 0) (p_to0 : to0 = if (¬ n / 2 < 0 + (own_in P0 xa) + (own_in P1 xb) ∧ ¬ n / 2 < 0 + (own_in P0 xa) + (own_in P1 xb) + (own_in P0 xc) + (own_in P1 xd)) then Int32.ofNat ((own_in P0 xa) + (own_in P0 xc)) else 0) (p_to1 : to1 = if (¬ n / 2 < 0 + (own_in P0 xa) + (own_in P1 xb) ∧ ¬ n / 2 < 0 + (own_in P0 xa) + (own_in P1 xb) + (own_in P0 xc) + (own_in P1 xd)) then Int32.ofNat ((own_in P0 xa) + (own_in P0 xc) + ((own_in P1 xb) + (own_in P1 xd))) else 0) :
    G T0 (mkF m 197 #[.val (.int k), .val (.int r0), .val (.int r1), .val (.long xa), .second, .val (.long xb), .second, .val (.long xc), .second, .val (.int (Int32.ofNat n)), .val (.long xd), .second, .val (.ref aR), .val (.ref aA), .val (.ref aB), .val (.ref aD), .val (.ref nc), .val (.int (0 : Int32)), .val (.int (1 : Int32)), .val (.int t2), .val (.long bl), .second, .val (.int to0), .val (.int to1), .val (.long P0), .second, .val (.long P1), .second, .val (.int (Int32.ofNat (own_in P0 xa))), .val (.int (Int32.ofNat (own_in P1 xb))), .unset, .unset, .unset, .unset, .unset, .unset, .unset, .unset, .unset, .unset, .unset] []) := by
  have W : ∀ (k : Nat) {d : Jvm.Cond}, tables_1[k]? = some d → d.before a0 Z = true := fun k d q => hw d (List.mem_of_getElem? q)
  refine own_lload (pc' := 199) X0 at_197 rfl rfl ?_
  refine own_lload (pc' := 201) X0 at_199 rfl rfl ?_
  refine own_lcmp (pc' := 202) X0 at_201 rfl ?_
  by_cases hq : P0 < xc
  · refine own_ifY (pc' := 209) X0 at_202 ((own_lc_gt hq).1) (by decide) (by decide) ?_
    refine own_iconst (pc' := 210) X0 at_209 rfl (z := (Int32.ofNat (own_in P0 xc))) (by unfold own_in; rw [if_pos hq]; decide) ?_
    refine own_istore (pc' := 212) X0 at_210 rfl (Ls' := #[.val (.int k), .val (.int r0), .val (.int r1), .val (.long xa), .second, .val (.long xb), .second, .val (.long xc), .second, .val (.int (Int32.ofNat n)), .val (.long xd), .second, .val (.ref aR), .val (.ref aA), .val (.ref aB), .val (.ref aD), .val (.ref nc), .val (.int (0 : Int32)), .val (.int (1 : Int32)), .val (.int t2), .val (.long bl), .second, .val (.int to0), .val (.int to1), .val (.long P0), .second, .val (.long P1), .second, .val (.int (Int32.ofNat (own_in P0 xa))), .val (.int (Int32.ofNat (own_in P1 xb))), .val (.int (Int32.ofNat (own_in P0 xc))), .unset, .unset, .unset, .unset, .unset, .unset, .unset, .unset, .unset, .unset]) rfl ?_
    exact own_fl3 hw k r0 r1 xa xb xc xd n aR aA aB aD nc t2 bl to0 to1 P0 P1 (own_mono X0 (by decide : 13 ≤ 13) (by decide : 120 ≤ 120)) hGe p_n2 p_n9 p_t2 p_bl p_to0 p_to1
  · refine own_ifN (pc' := 205) X0 at_202 rfl ((own_lc_ngt hq).1) ?_
    refine own_iconst (pc' := 206) X0 at_205 rfl (z := (Int32.ofNat (own_in P0 xc))) (by unfold own_in; rw [if_neg hq]; decide) ?_
    refine own_goto (pc' := 210) X0 at_206 (by decide) (by decide) ?_
    refine own_istore (pc' := 212) X0 at_210 rfl (Ls' := #[.val (.int k), .val (.int r0), .val (.int r1), .val (.long xa), .second, .val (.long xb), .second, .val (.long xc), .second, .val (.int (Int32.ofNat n)), .val (.long xd), .second, .val (.ref aR), .val (.ref aA), .val (.ref aB), .val (.ref aD), .val (.ref nc), .val (.int (0 : Int32)), .val (.int (1 : Int32)), .val (.int t2), .val (.long bl), .second, .val (.int to0), .val (.int to1), .val (.long P0), .second, .val (.long P1), .second, .val (.int (Int32.ofNat (own_in P0 xa))), .val (.int (Int32.ofNat (own_in P1 xb))), .val (.int (Int32.ofNat (own_in P0 xc))), .unset, .unset, .unset, .unset, .unset, .unset, .unset, .unset, .unset, .unset]) rfl ?_
    exact own_fl3 hw k r0 r1 xa xb xc xd n aR aA aB aD nc t2 bl to0 to1 P0 P1 (own_mono X0 (by decide : 13 ≤ 13) (by decide : 120 ≤ 120)) hGe p_n2 p_n9 p_t2 p_bl p_to0 p_to1
set_option maxRecDepth 65536 in
set_option maxHeartbeats 40000000 in
theorem own_fl1 {G : State → JFrame → Prop} {p : Program} {l : Launch} {e : Env} {s : State} {m : MethodId} {args : Array Value} {below : List Frame} {meth : Method} {c : Code} {Z : State} {a0 : Array Value} {n0 : Nat} {T0 : State} {h0 : Heap} (hw : ∀ d ∈ tables_1, d.before a0 Z = true) (k r0 r1 : Int32) (xa xb xc xd : Int64) (n : Nat) (aR aA aB aD nc : Addr) (t2 : Int32) (bl : Int64) (to0 to1 : Int32) (P0 P1 : Int64)
    (X0 : own_At G p l e room_1 s m args below meth c Z n0 "com/example/kentro/kentro/bound/NearestCandidatesTallyPinLaw" "law" code maxLocals ret T0 h0 13 120) (hGe : G = own_Fin p e below s Z n0 (fun v h => v = some (.int 1)) room_1.cells room_1.slots) (p_n2 : 2 ≤ n) (p_n9 : n ≤ 9) (p_t2 : t2 = if n / 2 < 0 + (own_in P0 xa) + (own_in P1 xb) then 0 else 1) (p_bl : bl = if (¬ n / 2 < 0 + (own_in P0 xa) + (own_in P1 xb) ∧ ¬ n / 2 < 0 + (own_in P0 xa) + (own_in P1 xb) + (own_in P0 xc) + (own_in P1 xd)) then 2 * (Int32.ofNat n).toInt64 else 0) (p_to0 : to0 = if (¬ n / 2 < 0 + (own_in P0 xa) + (own_in P1 xb) ∧ ¬ n / 2 < 0 + (own_in P0 xa) + (own_in P1 xb) + (own_in P0 xc) + (own_in P1 xd)) then Int32.ofNat ((own_in P0 xa) + (own_in P0 xc)) else 0) (p_to1 : to1 = if (¬ n / 2 < 0 + (own_in P0 xa) + (own_in P1 xb) ∧ ¬ n / 2 < 0 + (own_in P0 xa) + (own_in P1 xb) + (own_in P0 xc) + (own_in P1 xd)) then Int32.ofNat ((own_in P0 xa) + (own_in P0 xc) + ((own_in P1 xb) + (own_in P1 xd))) else 0) :
    G T0 (mkF m 182 #[.val (.int k), .val (.int r0), .val (.int r1), .val (.long xa), .second, .val (.long xb), .second, .val (.long xc), .second, .val (.int (Int32.ofNat n)), .val (.long xd), .second, .val (.ref aR), .val (.ref aA), .val (.ref aB), .val (.ref aD), .val (.ref nc), .val (.int (0 : Int32)), .val (.int (1 : Int32)), .val (.int t2), .val (.long bl), .second, .val (.int to0), .val (.int to1), .val (.long P0), .second, .val (.long P1), .second, .val (.int (Int32.ofNat (own_in P0 xa))), .unset, .unset, .unset, .unset, .unset, .unset, .unset, .unset, .unset, .unset, .unset, .unset] []) := by
  have W : ∀ (k : Nat) {d : Jvm.Cond}, tables_1[k]? = some d → d.before a0 Z = true := fun k d q => hw d (List.mem_of_getElem? q)
  refine own_lload (pc' := 184) X0 at_182 rfl rfl ?_
  refine own_lload (pc' := 186) X0 at_184 rfl rfl ?_
  refine own_lcmp (pc' := 187) X0 at_186 rfl ?_
  by_cases hq : P1 < xb
  · refine own_ifY (pc' := 194) X0 at_187 ((own_lc_gt hq).1) (by decide) (by decide) ?_
    refine own_iconst (pc' := 195) X0 at_194 rfl (z := (Int32.ofNat (own_in P1 xb))) (by unfold own_in; rw [if_pos hq]; decide) ?_
    refine own_istore (pc' := 197) X0 at_195 rfl (Ls' := #[.val (.int k), .val (.int r0), .val (.int r1), .val (.long xa), .second, .val (.long xb), .second, .val (.long xc), .second, .val (.int (Int32.ofNat n)), .val (.long xd), .second, .val (.ref aR), .val (.ref aA), .val (.ref aB), .val (.ref aD), .val (.ref nc), .val (.int (0 : Int32)), .val (.int (1 : Int32)), .val (.int t2), .val (.long bl), .second, .val (.int to0), .val (.int to1), .val (.long P0), .second, .val (.long P1), .second, .val (.int (Int32.ofNat (own_in P0 xa))), .val (.int (Int32.ofNat (own_in P1 xb))), .unset, .unset, .unset, .unset, .unset, .unset, .unset, .unset, .unset, .unset, .unset]) rfl ?_
    exact own_fl2 hw k r0 r1 xa xb xc xd n aR aA aB aD nc t2 bl to0 to1 P0 P1 (own_mono X0 (by decide : 13 ≤ 13) (by decide : 120 ≤ 120)) hGe p_n2 p_n9 p_t2 p_bl p_to0 p_to1
  · refine own_ifN (pc' := 190) X0 at_187 rfl ((own_lc_ngt hq).1) ?_
    refine own_iconst (pc' := 191) X0 at_190 rfl (z := (Int32.ofNat (own_in P1 xb))) (by unfold own_in; rw [if_neg hq]; decide) ?_
    refine own_goto (pc' := 195) X0 at_191 (by decide) (by decide) ?_
    refine own_istore (pc' := 197) X0 at_195 rfl (Ls' := #[.val (.int k), .val (.int r0), .val (.int r1), .val (.long xa), .second, .val (.long xb), .second, .val (.long xc), .second, .val (.int (Int32.ofNat n)), .val (.long xd), .second, .val (.ref aR), .val (.ref aA), .val (.ref aB), .val (.ref aD), .val (.ref nc), .val (.int (0 : Int32)), .val (.int (1 : Int32)), .val (.int t2), .val (.long bl), .second, .val (.int to0), .val (.int to1), .val (.long P0), .second, .val (.long P1), .second, .val (.int (Int32.ofNat (own_in P0 xa))), .val (.int (Int32.ofNat (own_in P1 xb))), .unset, .unset, .unset, .unset, .unset, .unset, .unset, .unset, .unset, .unset, .unset]) rfl ?_
    exact own_fl2 hw k r0 r1 xa xb xc xd n aR aA aB aD nc t2 bl to0 to1 P0 P1 (own_mono X0 (by decide : 13 ≤ 13) (by decide : 120 ≤ 120)) hGe p_n2 p_n9 p_t2 p_bl p_to0 p_to1
set_option maxRecDepth 65536 in
set_option maxHeartbeats 40000000 in
theorem own_fl0 {G : State → JFrame → Prop} {p : Program} {l : Launch} {e : Env} {s : State} {m : MethodId} {args : Array Value} {below : List Frame} {meth : Method} {c : Code} {Z : State} {a0 : Array Value} {n0 : Nat} {T0 : State} {h0 : Heap} (hw : ∀ d ∈ tables_1, d.before a0 Z = true) (k r0 r1 : Int32) (xa xb xc xd : Int64) (n : Nat) (aR aA aB aD nc : Addr) (t2 : Int32) (bl : Int64) (to0 to1 : Int32) (P0 P1 : Int64)
    (X0 : own_At G p l e room_1 s m args below meth c Z n0 "com/example/kentro/kentro/bound/NearestCandidatesTallyPinLaw" "law" code maxLocals ret T0 h0 13 120) (hGe : G = own_Fin p e below s Z n0 (fun v h => v = some (.int 1)) room_1.cells room_1.slots) (p_n2 : 2 ≤ n) (p_n9 : n ≤ 9) (p_t2 : t2 = if n / 2 < 0 + (own_in P0 xa) + (own_in P1 xb) then 0 else 1) (p_bl : bl = if (¬ n / 2 < 0 + (own_in P0 xa) + (own_in P1 xb) ∧ ¬ n / 2 < 0 + (own_in P0 xa) + (own_in P1 xb) + (own_in P0 xc) + (own_in P1 xd)) then 2 * (Int32.ofNat n).toInt64 else 0) (p_to0 : to0 = if (¬ n / 2 < 0 + (own_in P0 xa) + (own_in P1 xb) ∧ ¬ n / 2 < 0 + (own_in P0 xa) + (own_in P1 xb) + (own_in P0 xc) + (own_in P1 xd)) then Int32.ofNat ((own_in P0 xa) + (own_in P0 xc)) else 0) (p_to1 : to1 = if (¬ n / 2 < 0 + (own_in P0 xa) + (own_in P1 xb) ∧ ¬ n / 2 < 0 + (own_in P0 xa) + (own_in P1 xb) + (own_in P0 xc) + (own_in P1 xd)) then Int32.ofNat ((own_in P0 xa) + (own_in P0 xc) + ((own_in P1 xb) + (own_in P1 xd))) else 0) :
    G T0 (mkF m 168 #[.val (.int k), .val (.int r0), .val (.int r1), .val (.long xa), .second, .val (.long xb), .second, .val (.long xc), .second, .val (.int (Int32.ofNat n)), .val (.long xd), .second, .val (.ref aR), .val (.ref aA), .val (.ref aB), .val (.ref aD), .val (.ref nc), .val (.int (0 : Int32)), .val (.int (1 : Int32)), .val (.int t2), .val (.long bl), .second, .val (.int to0), .val (.int to1), .val (.long P0), .second, .val (.long P1), .second, .unset, .unset, .unset, .unset, .unset, .unset, .unset, .unset, .unset, .unset, .unset, .unset, .unset] []) := by
  have W : ∀ (k : Nat) {d : Jvm.Cond}, tables_1[k]? = some d → d.before a0 Z = true := fun k d q => hw d (List.mem_of_getElem? q)
  refine own_lload_n (pc' := 169) X0 at_168 rfl rfl ?_
  refine own_lload (pc' := 171) X0 at_169 rfl rfl ?_
  refine own_lcmp (pc' := 172) X0 at_171 rfl ?_
  by_cases hq : P0 < xa
  · refine own_ifY (pc' := 179) X0 at_172 ((own_lc_gt hq).1) (by decide) (by decide) ?_
    refine own_iconst (pc' := 180) X0 at_179 rfl (z := (Int32.ofNat (own_in P0 xa))) (by unfold own_in; rw [if_pos hq]; decide) ?_
    refine own_istore (pc' := 182) X0 at_180 rfl (Ls' := #[.val (.int k), .val (.int r0), .val (.int r1), .val (.long xa), .second, .val (.long xb), .second, .val (.long xc), .second, .val (.int (Int32.ofNat n)), .val (.long xd), .second, .val (.ref aR), .val (.ref aA), .val (.ref aB), .val (.ref aD), .val (.ref nc), .val (.int (0 : Int32)), .val (.int (1 : Int32)), .val (.int t2), .val (.long bl), .second, .val (.int to0), .val (.int to1), .val (.long P0), .second, .val (.long P1), .second, .val (.int (Int32.ofNat (own_in P0 xa))), .unset, .unset, .unset, .unset, .unset, .unset, .unset, .unset, .unset, .unset, .unset, .unset]) rfl ?_
    exact own_fl1 hw k r0 r1 xa xb xc xd n aR aA aB aD nc t2 bl to0 to1 P0 P1 (own_mono X0 (by decide : 13 ≤ 13) (by decide : 120 ≤ 120)) hGe p_n2 p_n9 p_t2 p_bl p_to0 p_to1
  · refine own_ifN (pc' := 175) X0 at_172 rfl ((own_lc_ngt hq).1) ?_
    refine own_iconst (pc' := 176) X0 at_175 rfl (z := (Int32.ofNat (own_in P0 xa))) (by unfold own_in; rw [if_neg hq]; decide) ?_
    refine own_goto (pc' := 180) X0 at_176 (by decide) (by decide) ?_
    refine own_istore (pc' := 182) X0 at_180 rfl (Ls' := #[.val (.int k), .val (.int r0), .val (.int r1), .val (.long xa), .second, .val (.long xb), .second, .val (.long xc), .second, .val (.int (Int32.ofNat n)), .val (.long xd), .second, .val (.ref aR), .val (.ref aA), .val (.ref aB), .val (.ref aD), .val (.ref nc), .val (.int (0 : Int32)), .val (.int (1 : Int32)), .val (.int t2), .val (.long bl), .second, .val (.int to0), .val (.int to1), .val (.long P0), .second, .val (.long P1), .second, .val (.int (Int32.ofNat (own_in P0 xa))), .unset, .unset, .unset, .unset, .unset, .unset, .unset, .unset, .unset, .unset, .unset, .unset]) rfl ?_
    exact own_fl1 hw k r0 r1 xa xb xc xd n aR aA aB aD nc t2 bl to0 to1 P0 P1 (own_mono X0 (by decide : 13 ≤ 13) (by decide : 120 ≤ 120)) hGe p_n2 p_n9 p_t2 p_bl p_to0 p_to1
set_option maxRecDepth 65536 in
set_option maxHeartbeats 40000000 in
theorem own_152 {G : State → JFrame → Prop} {p : Program} {l : Launch} {e : Env} {s : State} {m : MethodId} {args : Array Value} {below : List Frame} {meth : Method} {c : Code} {Z : State} {a0 : Array Value} {n0 : Nat} {T0 : State} {h0 : Heap} (hw : ∀ d ∈ tables_1, d.before a0 Z = true) (k r0 r1 : Int32) (xa xb xc xd : Int64) (n : Nat) (aR aA aB aD nc : Addr) (t2 : Int32) (bl : Int64) (to0 to1 : Int32)
    (X0 : own_At G p l e room_1 s m args below meth c Z n0 "com/example/kentro/kentro/bound/NearestCandidatesTallyPinLaw" "law" code maxLocals ret T0 h0 13 120) (hGe : G = own_Fin p e below s Z n0 (fun v h => v = some (.int 1)) room_1.cells room_1.slots) (p_n2 : 2 ≤ n) (p_n9 : n ≤ 9) (p_t2 : t2 = if n / 2 < 0 + (own_in (if r0.toInt64 < 0 then 0 else r0.toInt64) xa) + (own_in (if r1.toInt64 < 0 then 0 else r1.toInt64) xb) then 0 else 1) (p_bl : bl = if (¬ n / 2 < 0 + (own_in (if r0.toInt64 < 0 then 0 else r0.toInt64) xa) + (own_in (if r1.toInt64 < 0 then 0 else r1.toInt64) xb) ∧ ¬ n / 2 < 0 + (own_in (if r0.toInt64 < 0 then 0 else r0.toInt64) xa) + (own_in (if r1.toInt64 < 0 then 0 else r1.toInt64) xb) + (own_in (if r0.toInt64 < 0 then 0 else r0.toInt64) xc) + (own_in (if r1.toInt64 < 0 then 0 else r1.toInt64) xd)) then 2 * (Int32.ofNat n).toInt64 else 0) (p_to0 : to0 = if (¬ n / 2 < 0 + (own_in (if r0.toInt64 < 0 then 0 else r0.toInt64) xa) + (own_in (if r1.toInt64 < 0 then 0 else r1.toInt64) xb) ∧ ¬ n / 2 < 0 + (own_in (if r0.toInt64 < 0 then 0 else r0.toInt64) xa) + (own_in (if r1.toInt64 < 0 then 0 else r1.toInt64) xb) + (own_in (if r0.toInt64 < 0 then 0 else r0.toInt64) xc) + (own_in (if r1.toInt64 < 0 then 0 else r1.toInt64) xd)) then Int32.ofNat ((own_in (if r0.toInt64 < 0 then 0 else r0.toInt64) xa) + (own_in (if r0.toInt64 < 0 then 0 else r0.toInt64) xc)) else 0) (p_to1 : to1 = if (¬ n / 2 < 0 + (own_in (if r0.toInt64 < 0 then 0 else r0.toInt64) xa) + (own_in (if r1.toInt64 < 0 then 0 else r1.toInt64) xb) ∧ ¬ n / 2 < 0 + (own_in (if r0.toInt64 < 0 then 0 else r0.toInt64) xa) + (own_in (if r1.toInt64 < 0 then 0 else r1.toInt64) xb) + (own_in (if r0.toInt64 < 0 then 0 else r0.toInt64) xc) + (own_in (if r1.toInt64 < 0 then 0 else r1.toInt64) xd)) then Int32.ofNat ((own_in (if r0.toInt64 < 0 then 0 else r0.toInt64) xa) + (own_in (if r0.toInt64 < 0 then 0 else r0.toInt64) xc) + ((own_in (if r1.toInt64 < 0 then 0 else r1.toInt64) xb) + (own_in (if r1.toInt64 < 0 then 0 else r1.toInt64) xd))) else 0) :
    G T0 (mkF m 152 #[.val (.int k), .val (.int r0), .val (.int r1), .val (.long xa), .second, .val (.long xb), .second, .val (.long xc), .second, .val (.int (Int32.ofNat n)), .val (.long xd), .second, .val (.ref aR), .val (.ref aA), .val (.ref aB), .val (.ref aD), .val (.ref nc), .val (.int (0 : Int32)), .val (.int (1 : Int32)), .val (.int t2), .val (.long bl), .second, .val (.int to0), .val (.int to1), .unset, .unset, .unset, .unset, .unset, .unset, .unset, .unset, .unset, .unset, .unset, .unset, .unset, .unset, .unset, .unset, .unset] []) := by
  have W : ∀ (k : Nat) {d : Jvm.Cond}, tables_1[k]? = some d → d.before a0 Z = true := fun k d q => hw d (List.mem_of_getElem? q)
  refine own_iload_n (pc' := 153) X0 at_152 rfl rfl ?_
  refine own_i2l (pc' := 154) X0 at_153 rfl (r := r0.toInt64) rfl ?_
  refine own_lconst (pc' := 155) X0 at_154 rfl (z := (0 : Int64)) (by decide) ?_
  refine own_callSM (pc' := 158) (cells' := 13) (slots' := 120) (argsL := [(.long r0.toInt64), (.long (0 : Int64))]) (rest := []) (W := 0) (y := (⟨"java/lang/Math", "max", "(JJ)J"⟩ : MethodName)) X0 (W 81 rfl) (W 63 rfl) (by decide) (own_max l Z a0 hw n0 r0.toInt64 (0 : Int64) h0 (own_old X0)) (W 64 rfl) (W 28 rfl) (by decide) (by decide) rfl (lenOf pd_0 rfl) rfl rfl at_155 rfl rfl rfl rfl (by decide) (by decide) ?_
  intro v1 T1 h1 X1 q1
  obtain ⟨rfl, rfl⟩ := q1
  show G T1 (mkF m 158 #[.val (.int k), .val (.int r0), .val (.int r1), .val (.long xa), .second, .val (.long xb), .second, .val (.long xc), .second, .val (.int (Int32.ofNat n)), .val (.long xd), .second, .val (.ref aR), .val (.ref aA), .val (.ref aB), .val (.ref aD), .val (.ref nc), .val (.int (0 : Int32)), .val (.int (1 : Int32)), .val (.int t2), .val (.long bl), .second, .val (.int to0), .val (.int to1), .unset, .unset, .unset, .unset, .unset, .unset, .unset, .unset, .unset, .unset, .unset, .unset, .unset, .unset, .unset, .unset, .unset] [(.long (if r0.toInt64 < (0 : Int64) then (0 : Int64) else r0.toInt64))])
  refine own_lstore (pc' := 160) X1 at_158 rfl (Ls' := #[.val (.int k), .val (.int r0), .val (.int r1), .val (.long xa), .second, .val (.long xb), .second, .val (.long xc), .second, .val (.int (Int32.ofNat n)), .val (.long xd), .second, .val (.ref aR), .val (.ref aA), .val (.ref aB), .val (.ref aD), .val (.ref nc), .val (.int (0 : Int32)), .val (.int (1 : Int32)), .val (.int t2), .val (.long bl), .second, .val (.int to0), .val (.int to1), .val (.long (if r0.toInt64 < (0 : Int64) then (0 : Int64) else r0.toInt64)), .second, .unset, .unset, .unset, .unset, .unset, .unset, .unset, .unset, .unset, .unset, .unset, .unset, .unset, .unset, .unset]) rfl ?_
  refine own_iload_n (pc' := 161) X1 at_160 rfl rfl ?_
  refine own_i2l (pc' := 162) X1 at_161 rfl (r := r1.toInt64) rfl ?_
  refine own_lconst (pc' := 163) X1 at_162 rfl (z := (0 : Int64)) (by decide) ?_
  refine own_callSM (pc' := 166) (cells' := 13) (slots' := 120) (argsL := [(.long r1.toInt64), (.long (0 : Int64))]) (rest := []) (W := 0) (y := (⟨"java/lang/Math", "max", "(JJ)J"⟩ : MethodName)) X1 (W 81 rfl) (W 63 rfl) (by decide) (own_max l Z a0 hw n0 r1.toInt64 (0 : Int64) h0 (own_old X1)) (W 64 rfl) (W 28 rfl) (by decide) (by decide) rfl (lenOf pd_0 rfl) rfl rfl at_163 rfl rfl rfl rfl (by decide) (by decide) ?_
  intro v2 T2 h2 X2 q2
  obtain ⟨rfl, rfl⟩ := q2
  show G T2 (mkF m 166 #[.val (.int k), .val (.int r0), .val (.int r1), .val (.long xa), .second, .val (.long xb), .second, .val (.long xc), .second, .val (.int (Int32.ofNat n)), .val (.long xd), .second, .val (.ref aR), .val (.ref aA), .val (.ref aB), .val (.ref aD), .val (.ref nc), .val (.int (0 : Int32)), .val (.int (1 : Int32)), .val (.int t2), .val (.long bl), .second, .val (.int to0), .val (.int to1), .val (.long (if r0.toInt64 < (0 : Int64) then (0 : Int64) else r0.toInt64)), .second, .unset, .unset, .unset, .unset, .unset, .unset, .unset, .unset, .unset, .unset, .unset, .unset, .unset, .unset, .unset] [(.long (if r1.toInt64 < (0 : Int64) then (0 : Int64) else r1.toInt64))])
  refine own_lstore (pc' := 168) X2 at_166 rfl (Ls' := #[.val (.int k), .val (.int r0), .val (.int r1), .val (.long xa), .second, .val (.long xb), .second, .val (.long xc), .second, .val (.int (Int32.ofNat n)), .val (.long xd), .second, .val (.ref aR), .val (.ref aA), .val (.ref aB), .val (.ref aD), .val (.ref nc), .val (.int (0 : Int32)), .val (.int (1 : Int32)), .val (.int t2), .val (.long bl), .second, .val (.int to0), .val (.int to1), .val (.long (if r0.toInt64 < (0 : Int64) then (0 : Int64) else r0.toInt64)), .second, .val (.long (if r1.toInt64 < (0 : Int64) then (0 : Int64) else r1.toInt64)), .second, .unset, .unset, .unset, .unset, .unset, .unset, .unset, .unset, .unset, .unset, .unset, .unset, .unset]) rfl ?_
  exact own_fl0 hw k r0 r1 xa xb xc xd n aR aA aB aD nc t2 bl to0 to1 (if r0.toInt64 < 0 then 0 else r0.toInt64) (if r1.toInt64 < 0 then 0 else r1.toInt64) (own_mono X2 (by decide : 13 ≤ 13) (by decide : 120 ≤ 120)) hGe p_n2 p_n9 p_t2 p_bl p_to0 p_to1
theorem pd_8 : parseMethodDescriptor "(IIJ)V" = some ⟨[.int, .int, .long], none⟩ := by decide +kernel
theorem pd_9 : parseMethodDescriptor "([J)Z" = some ⟨[(.array .long)], some .boolean⟩ := by decide +kernel
theorem pd_10 : parseMethodDescriptor "([JJ)V" = some ⟨[(.array .long), .long], none⟩ := by decide +kernel
theorem pd_11 : parseMethodDescriptor "([[J)J" = some ⟨[(.array (.array .long))], some .long⟩ := by decide +kernel
theorem pn_6 : plainName "com/example/kentro/kentro/bound/NearestCandidatesTallyPinLaw" = true := by first | (simp [plainName, overriddenIn]; done) | decide +kernel
theorem ef_own_law (m : MethodId) (x0 : Int32) (x1 : Int32) (x2 : Int32) (x3 : Int64) (x4 : Int64) (x5 : Int64) : entryFrame m #[(.int x0), (.int x1), (.int x2), (.long x3), (.long x4), (.long x5)] maxLocals = mkF m 0 #[.val (.int x0), .val (.int x1), .val (.int x2), .val (.long x3), .second, .val (.long x4), .second, .val (.long x5), .second, .unset, .unset, .unset, .unset, .unset, .unset, .unset, .unset, .unset, .unset, .unset, .unset, .unset, .unset, .unset, .unset, .unset, .unset, .unset, .unset, .unset, .unset, .unset, .unset, .unset, .unset, .unset, .unset, .unset, .unset, .unset, .unset] [] := by first | (simp [entryFrame, mkF, argsToLocals, Value.category, maxLocals]; done) | rfl
set_option maxRecDepth 65536 in
set_option maxHeartbeats 40000000 in
theorem own_law (l : Launch) (Z : State) (a0 : Array Value) (hw : ∀ d ∈ tables_1, d.before a0 Z = true) (n0 : Nat) (k r0 r1 : Int32) (xa xb xc : Int64) (h0 : Heap) (O0 : Old Z n0 h0)  :
    own_Met l Z n0 x code maxLocals ret room_1 #[(.int k), (.int r0), (.int r1), (.long xa), (.long xb), (.long xc)] h0 (fun v h => v = some (.int 1)) := by
  refine own_enter (own := "com/example/kentro/kentro/bound/NearestCandidatesTallyPinLaw") (nm := "law") (plainFor_of_name pn_6) rfl rfl O0 ?_
  have W : ∀ (k : Nat) {d : Jvm.Cond}, tables_1[k]? = some d → d.before a0 Z = true := fun k d q => hw d (List.mem_of_getElem? q)
  intro G p e s m below meth c T0 hGe X0
  rw [ef_own_law m k r0 r1 xa xb xc]
  obtain ⟨n, p_n2, p_n9, e_n⟩ := own_n k
  refine own_iconst (pc' := 1) X0 at_0 rfl (z := (2 : Int32)) (by decide) ?_
  refine own_iload_n (pc' := 2) X0 at_1 rfl rfl ?_
  refine own_bipush (pc' := 4) X0 at_2 rfl (z := (7 : Int32)) (by decide) ?_
  refine own_iand (pc' := 5) X0 at_4 rfl (r := (k &&& (7 : Int32))) rfl ?_
  refine own_iadd (pc' := 6) X0 at_5 rfl (r := (Int32.ofNat n)) e_n ?_
  refine own_istore (pc' := 8) X0 at_6 rfl (Ls' := #[.val (.int k), .val (.int r0), .val (.int r1), .val (.long xa), .second, .val (.long xb), .second, .val (.long xc), .second, .val (.int (Int32.ofNat n)), .unset, .unset, .unset, .unset, .unset, .unset, .unset, .unset, .unset, .unset, .unset, .unset, .unset, .unset, .unset, .unset, .unset, .unset, .unset, .unset, .unset, .unset, .unset, .unset, .unset, .unset, .unset, .unset, .unset, .unset, .unset]) rfl ?_
  refine own_iload_n (pc' := 9) X0 at_8 rfl rfl ?_
  refine own_iconst (pc' := 10) X0 at_9 rfl (z := (3 : Int32)) (by decide) ?_
  refine own_ishr (pc' := 11) X0 at_10 rfl (r := (k >>> ((3 : Int32) &&& 31))) rfl ?_
  refine own_i2l (pc' := 12) X0 at_11 rfl (r := (k >>> ((3 : Int32) &&& 31)).toInt64) rfl ?_
  generalize (k >>> ((3 : Int32) &&& 31)).toInt64 = xd
  refine own_lstore (pc' := 14) X0 at_12 rfl (Ls' := #[.val (.int k), .val (.int r0), .val (.int r1), .val (.long xa), .second, .val (.long xb), .second, .val (.long xc), .second, .val (.int (Int32.ofNat n)), .val (.long xd), .second, .unset, .unset, .unset, .unset, .unset, .unset, .unset, .unset, .unset, .unset, .unset, .unset, .unset, .unset, .unset, .unset, .unset, .unset, .unset, .unset, .unset, .unset, .unset, .unset, .unset, .unset, .unset, .unset, .unset]) rfl ?_
  refine own_bipush (pc' := 16) X0 at_14 rfl (z := (10 : Int32)) (by decide) ?_
  refine own_newarray (pc' := 18) (cells' := 1) (slots' := 10) (n := 10) (cap := 10) (dv := (.long 0)) X0 (W 0 rfl) rfl rfl (by decide) (by decide) at_16 rfl rfl (by decide) (by decide) rfl (by decide) (by decide) ?_
  intro T1 h1 a1 k1 g1 X1 K1 A1
  have n_a1 : n0 ≤ a1 := by rw [g1]; exact own_n0 X0
  have A1' : own_Arr Z h1 a1 k1 .long [(.long 0), (.long 0), (.long 0), (.long 0), (.long 0), (.long 0), (.long 0), (.long 0), (.long 0), (.long 0)] := A1
  refine own_astore (pc' := 20) X1 at_18 rfl rfl (Ls' := #[.val (.int k), .val (.int r0), .val (.int r1), .val (.long xa), .second, .val (.long xb), .second, .val (.long xc), .second, .val (.int (Int32.ofNat n)), .val (.long xd), .second, .val (.ref a1), .unset, .unset, .unset, .unset, .unset, .unset, .unset, .unset, .unset, .unset, .unset, .unset, .unset, .unset, .unset, .unset, .unset, .unset, .unset, .unset, .unset, .unset, .unset, .unset, .unset, .unset, .unset, .unset]) rfl ?_
  refine own_aload (pc' := 22) X1 at_20 rfl rfl rfl ?_
  refine own_iconst (pc' := 23) X1 at_22 rfl (z := (0 : Int32)) (by decide) ?_
  refine own_iload_n (pc' := 24) X1 at_23 rfl rfl ?_
  refine own_i2l (pc' := 25) X1 at_24 rfl (r := r0.toInt64) rfl ?_
  refine own_lastore (pc' := 26) (i := 0) X1 A1' (by decide) (Nat.le_of_ble_eq_true rfl) n_a1 at_25 rfl ?_
  intro T2 h2 X2 K2 A2
  have A2' : own_Arr Z h2 a1 k1 .long [(.long r0.toInt64), (.long 0), (.long 0), (.long 0), (.long 0), (.long 0), (.long 0), (.long 0), (.long 0), (.long 0)] := A2
  refine own_aload (pc' := 28) X2 at_26 rfl rfl rfl ?_
  refine own_iconst (pc' := 29) X2 at_28 rfl (z := (1 : Int32)) (by decide) ?_
  refine own_iload_n (pc' := 30) X2 at_29 rfl rfl ?_
  refine own_i2l (pc' := 31) X2 at_30 rfl (r := r1.toInt64) rfl ?_
  refine own_lastore (pc' := 32) (i := 1) X2 A2' (by decide) (Nat.le_of_ble_eq_true rfl) n_a1 at_31 rfl ?_
  intro T3 h3 X3 K3 A3
  have A3' : own_Arr Z h3 a1 k1 .long [(.long r0.toInt64), (.long r1.toInt64), (.long 0), (.long 0), (.long 0), (.long 0), (.long 0), (.long 0), (.long 0), (.long 0)] := A3
  refine own_iconst (pc' := 33) X3 at_32 rfl (z := (2 : Int32)) (by decide) ?_
  refine own_newarrayE (pc' := 35) (cells' := 2) (slots' := 12) (n := 2) (cap := 2) (dv := (.long 0)) X3 (W 0 rfl) rfl (ad := "[J") (by decide) rfl (by decide) (by decide) at_33 rfl rfl (by decide) (by decide) rfl (by decide) (by decide) ?_
  intro T4 h4 a4 k4 g4 X4 K4 A4 E4
  have n_a4 : n0 ≤ a4 := by rw [g4]; exact own_n0 X3
  have A4' : own_Arr Z h4 a4 k4 .long [(.long 0), (.long 0)] := A4
  refine own_dup (pc' := 36) X4 at_35 rfl rfl ?_
  refine own_iconst (pc' := 37) X4 at_36 rfl (z := (0 : Int32)) (by decide) ?_
  refine own_lload_n (pc' := 38) X4 at_37 rfl rfl ?_
  refine own_lastore (pc' := 39) (i := 0) X4 A4' (by decide) (Nat.le_of_ble_eq_true rfl) n_a4 at_38 rfl ?_
  intro T5 h5 X5 K5 A5
  have A5' : own_Arr Z h5 a4 k4 .long [(.long xa), (.long 0)] := A5
  refine own_dup (pc' := 40) X5 at_39 rfl rfl ?_
  refine own_iconst (pc' := 41) X5 at_40 rfl (z := (1 : Int32)) (by decide) ?_
  refine own_lload (pc' := 43) X5 at_41 rfl rfl ?_
  refine own_lastore (pc' := 44) (i := 1) X5 A5' (by decide) (Nat.le_of_ble_eq_true rfl) n_a4 at_43 rfl ?_
  intro T6 h6 X6 K6 A6
  have A6' : own_Arr Z h6 a4 k4 .long [(.long xa), (.long xb)] := A6
  refine own_astore (pc' := 46) X6 at_44 rfl rfl (Ls' := #[.val (.int k), .val (.int r0), .val (.int r1), .val (.long xa), .second, .val (.long xb), .second, .val (.long xc), .second, .val (.int (Int32.ofNat n)), .val (.long xd), .second, .val (.ref a1), .val (.ref a4), .unset, .unset, .unset, .unset, .unset, .unset, .unset, .unset, .unset, .unset, .unset, .unset, .unset, .unset, .unset, .unset, .unset, .unset, .unset, .unset, .unset, .unset, .unset, .unset, .unset, .unset, .unset]) rfl ?_
  refine own_iconst (pc' := 47) X6 at_46 rfl (z := (2 : Int32)) (by decide) ?_
  refine own_newarrayE (pc' := 49) (cells' := 3) (slots' := 14) (n := 2) (cap := 2) (dv := (.long 0)) X6 (W 0 rfl) rfl (ad := "[J") (by decide) rfl (by decide) (by decide) at_47 rfl rfl (by decide) (by decide) rfl (by decide) (by decide) ?_
  intro T7 h7 a7 k7 g7 X7 K7 A7 E7
  have n_a7 : n0 ≤ a7 := by rw [g7]; exact own_n0 X6
  have A7' : own_Arr Z h7 a7 k7 .long [(.long 0), (.long 0)] := A7
  refine own_dup (pc' := 50) X7 at_49 rfl rfl ?_
  refine own_iconst (pc' := 51) X7 at_50 rfl (z := (0 : Int32)) (by decide) ?_
  refine own_lload (pc' := 53) X7 at_51 rfl rfl ?_
  refine own_lastore (pc' := 54) (i := 0) X7 A7' (by decide) (Nat.le_of_ble_eq_true rfl) n_a7 at_53 rfl ?_
  intro T8 h8 X8 K8 A8
  have A8' : own_Arr Z h8 a7 k7 .long [(.long xc), (.long 0)] := A8
  refine own_dup (pc' := 55) X8 at_54 rfl rfl ?_
  refine own_iconst (pc' := 56) X8 at_55 rfl (z := (1 : Int32)) (by decide) ?_
  refine own_lload (pc' := 58) X8 at_56 rfl rfl ?_
  refine own_lastore (pc' := 59) (i := 1) X8 A8' (by decide) (Nat.le_of_ble_eq_true rfl) n_a7 at_58 rfl ?_
  intro T9 h9 X9 K9 A9
  have A9' : own_Arr Z h9 a7 k7 .long [(.long xc), (.long xd)] := A9
  refine own_astore (pc' := 61) X9 at_59 rfl rfl (Ls' := #[.val (.int k), .val (.int r0), .val (.int r1), .val (.long xa), .second, .val (.long xb), .second, .val (.long xc), .second, .val (.int (Int32.ofNat n)), .val (.long xd), .second, .val (.ref a1), .val (.ref a4), .val (.ref a7), .unset, .unset, .unset, .unset, .unset, .unset, .unset, .unset, .unset, .unset, .unset, .unset, .unset, .unset, .unset, .unset, .unset, .unset, .unset, .unset, .unset, .unset, .unset, .unset, .unset, .unset]) rfl ?_
  refine own_iconst (pc' := 62) X9 at_61 rfl (z := (2 : Int32)) (by decide) ?_
  refine own_anewA (pc' := 65) (cells' := 4) (slots' := 16) (n := 2) (cap := 2) (ad := "[[J") X9 (ty := .long) (by decide) (W 1 rfl) (W 2 rfl) (by decide) (by decide) (by decide) at_62 rfl rfl (by decide) (by decide) rfl (by decide) (by decide) ?_
  intro T10 h10 a10 k10 g10 X10 K10 A10 E10 V10
  have n_a10 : n0 ≤ a10 := by rw [g10]; exact own_n0 X9
  have A10' : own_Arr Z h10 a10 k10 (.array .long) [.null, .null] := A10
  refine own_dup (pc' := 66) X10 at_65 rfl rfl ?_
  refine own_iconst (pc' := 67) X10 at_66 rfl (z := (0 : Int32)) (by decide) ?_
  refine own_aload (pc' := 69) X10 at_67 rfl rfl rfl ?_
  have f11 := ((((((E4.keep K5).keep K6).keep K7).keep K8).keep K9).keep K10)
  refine own_aastore (pc' := 70) (i := 0) X10 A10' rfl rfl (own_stoA A10' V10 (Ins.self f11)) (by decide) (Nat.le_of_ble_eq_true rfl) n_a10 at_69 rfl ?_
  intro T12 h12 X12 K12 A12
  have A12' : own_Arr Z h12 a10 k10 (.array .long) [(.ref a4), .null] := A12
  refine own_dup (pc' := 71) X12 at_70 rfl rfl ?_
  refine own_iconst (pc' := 72) X12 at_71 rfl (z := (1 : Int32)) (by decide) ?_
  refine own_aload (pc' := 74) X12 at_72 rfl rfl rfl ?_
  have f13 := ((((E7.keep K8).keep K9).keep K10).keep K12)
  refine own_aastore (pc' := 75) (i := 1) X12 A12' rfl rfl (own_stoA A12' V10 (Ins.self f13)) (by decide) (Nat.le_of_ble_eq_true rfl) n_a10 at_74 rfl ?_
  intro T14 h14 X14 K14 A14
  have A14' : own_Arr Z h14 a10 k10 (.array .long) [(.ref a4), (.ref a7)] := A14
  refine own_astore (pc' := 77) X14 at_75 rfl rfl (Ls' := #[.val (.int k), .val (.int r0), .val (.int r1), .val (.long xa), .second, .val (.long xb), .second, .val (.long xc), .second, .val (.int (Int32.ofNat n)), .val (.long xd), .second, .val (.ref a1), .val (.ref a4), .val (.ref a7), .val (.ref a10), .unset, .unset, .unset, .unset, .unset, .unset, .unset, .unset, .unset, .unset, .unset, .unset, .unset, .unset, .unset, .unset, .unset, .unset, .unset, .unset, .unset, .unset, .unset, .unset, .unset]) rfl ?_
  refine own_new (pc' := 80) (cells' := 5) (slots' := 29) X14 (W 4 rfl) (W 5 rfl) (W 6 rfl) at_77 rfl rfl rfl (by decide) (by decide) ?_
  intro T15 h15 a15 g15 X15 K15 E15 D15 U15
  have n_a15 : n0 ≤ a15 := by rw [g15]; exact own_n0 X14
  have F15_candidateCount : Fld Z h15 a15 "com/example/kentro/kentro/bound/NearestCandidates" "candidateCount" "I" (.int (0 : Int32)) := D15 (Or.inr (W 15 rfl)) (ty := .int) (by decide)
  have F15_bits : Fld Z h15 a15 "com/example/kentro/kentro/bound/NearestCandidates" "bits" "I" (.int (0 : Int32)) := D15 (Or.inr (W 22 rfl)) (ty := .int) (by decide)
  have F15_mask : Fld Z h15 a15 "com/example/kentro/kentro/bound/NearestCandidates" "mask" "J" (.long (0 : Int64)) := D15 (Or.inr (W 24 rfl)) (ty := .long) (by decide)
  have F15_ceiling : Fld Z h15 a15 "com/example/kentro/kentro/bound/NearestCandidates" "ceiling" "J" (.long (0 : Int64)) := D15 (Or.inr (W 31 rfl)) (ty := .long) (by decide)
  have F15_capacity : Fld Z h15 a15 "com/example/kentro/kentro/bound/NearestCandidates" "capacity" "J" (.long (0 : Int64)) := D15 (Or.inr (W 38 rfl)) (ty := .long) (by decide)
  have F15_radius : Fld Z h15 a15 "com/example/kentro/kentro/bound/NearestCandidates" "radius" "[J" .null := D15 (Or.inr (W 40 rfl)) (ty := (.array .long)) (by decide)
  have F15_proposed : Fld Z h15 a15 "com/example/kentro/kentro/bound/NearestCandidates" "proposed" "[J" .null := D15 (Or.inr (W 42 rfl)) (ty := (.array .long)) (by decide)
  have F15_start : Fld Z h15 a15 "com/example/kentro/kentro/bound/NearestCandidates" "start" "[I" .null := D15 (Or.inr (W 45 rfl)) (ty := (.array .int)) (by decide)
  have F15_count : Fld Z h15 a15 "com/example/kentro/kentro/bound/NearestCandidates" "count" "[I" .null := D15 (Or.inr (W 47 rfl)) (ty := (.array .int)) (by decide)
  have F15_tallying : Fld Z h15 a15 "com/example/kentro/kentro/bound/NearestCandidates" "tallying" "Z" (.int (0 : Int32)) := D15 (Or.inl (W 54 rfl)) (ty := .boolean) (by decide)
  have F15_built : Fld Z h15 a15 "com/example/kentro/kentro/bound/NearestCandidates" "built" "Z" (.int (0 : Int32)) := D15 (Or.inl (W 61 rfl)) (ty := .boolean) (by decide)
  have F15_tallied : Fld Z h15 a15 "com/example/kentro/kentro/bound/NearestCandidates" "tallied" "J" (.long (0 : Int64)) := D15 (Or.inl (W 70 rfl)) (ty := .long) (by decide)
  have F15_entry : Fld Z h15 a15 "com/example/kentro/kentro/bound/NearestCandidates" "entry" "[J" .null := D15 (Or.inl (W 83 rfl)) (ty := (.array .long)) (by decide)
  refine own_dup (pc' := 81) X15 at_80 rfl rfl ?_
  refine own_iconst (pc' := 82) X15 at_81 rfl (z := (2 : Int32)) (by decide) ?_
  refine own_iload (pc' := 84) X15 at_82 rfl rfl ?_
  refine own_ldc2 (pc' := 87) X15 (v := (9223372036854775807 : Int64)) (W 7 rfl) at_84 rfl ?_
  refine own_callIM (pc' := 90) (cells' := 9) (slots' := 94) (argsL := [(.int (2 : Int32)), (.int (Int32.ofNat n)), (.long (9223372036854775807 : Int64))]) (rest := [(.ref a15)]) (W := 1) (y := (⟨"com/example/kentro/kentro/bound/NearestCandidates", "<init>", "(IIJ)V"⟩ : MethodName)) (a := a15) X15 (W 8 rfl) (W 9 rfl) rfl (by decide) (own_init l Z a0 hw n0 a15 n h15 (own_old X15) n_a15 (by omega) E15 F15_candidateCount F15_bits F15_ceiling F15_capacity F15_radius F15_proposed F15_start F15_count F15_tallied F15_tallying F15_built F15_entry F15_mask) (W 10 rfl) (W 6 rfl) (by decide) (by decide) rfl (lenOf pd_8 rfl) rfl rfl at_87 rfl rfl rfl rfl (by decide) (by decide) ?_
  intro v16 T16 h16 X16 q16
  obtain ⟨rfl, K16, ar, ap, as_, ac, kr, kp, ks, kc, z_ar, z_ap, z_as, z_ac, p_N, p_ar, p_ap, p_as, p_ac⟩ := q16
  rw [own_capn p_n9] at p_N
  obtain ⟨p_N_E, p_N_candidateCount, p_N_bits, p_N_ceiling, p_N_capacity, p_N_radius, p_N_proposed, p_N_start, p_N_count, p_N_tallied, p_N_tallying, p_N_built, p_N_entry⟩ := p_N
  have z2_ap := Nat.le_trans z_ar (Nat.le_of_lt z_ap)
  have z2_as := Nat.le_trans z2_ap (Nat.le_of_lt z_as)
  have z2_ac := Nat.le_trans z2_as (Nat.le_of_lt z_ac)
  have q_ar_ap : ar ≠ ap := Nat.ne_of_lt z_ap
  have q_as_ac : as_ ≠ ac := Nat.ne_of_lt z_ac
  have n_ar : n0 ≤ ar := Nat.le_trans (own_n0 X15) z_ar
  have n_ap : n0 ≤ ap := Nat.le_trans (own_n0 X15) z2_ap
  have n_as_ : n0 ≤ as_ := Nat.le_trans (own_n0 X15) z2_as
  have n_ac : n0 ≤ ac := Nat.le_trans (own_n0 X15) z2_ac
  show G T16 (mkF m 90 #[.val (.int k), .val (.int r0), .val (.int r1), .val (.long xa), .second, .val (.long xb), .second, .val (.long xc), .second, .val (.int (Int32.ofNat n)), .val (.long xd), .second, .val (.ref a1), .val (.ref a4), .val (.ref a7), .val (.ref a10), .unset, .unset, .unset, .unset, .unset, .unset, .unset, .unset, .unset, .unset, .unset, .unset, .unset, .unset, .unset, .unset, .unset, .unset, .unset, .unset, .unset, .unset, .unset, .unset, .unset] [(.ref a15)])
  refine own_astore (pc' := 92) X16 at_90 rfl rfl (Ls' := #[.val (.int k), .val (.int r0), .val (.int r1), .val (.long xa), .second, .val (.long xb), .second, .val (.long xc), .second, .val (.int (Int32.ofNat n)), .val (.long xd), .second, .val (.ref a1), .val (.ref a4), .val (.ref a7), .val (.ref a10), .val (.ref a15), .unset, .unset, .unset, .unset, .unset, .unset, .unset, .unset, .unset, .unset, .unset, .unset, .unset, .unset, .unset, .unset, .unset, .unset, .unset, .unset, .unset, .unset, .unset, .unset]) rfl ?_
  refine own_aload (pc' := 94) X16 at_92 rfl rfl rfl ?_
  refine own_aload (pc' := 96) X16 at_94 rfl rfl rfl ?_
  refine own_callVM (pc' := 99) (cells' := 9) (slots' := 94) (argsL := [(.ref a4)]) (rest := []) (W := 0) (y := (⟨"com/example/kentro/kentro/bound/NearestCandidates", "tally", "([J)Z"⟩ : MethodName)) (z := (⟨"com/example/kentro/kentro/bound/NearestCandidates", "tally", "([J)Z"⟩ : MethodName)) (a := a15) X16 (W 48 rfl) (W 49 rfl) (fun s' hZ' => notFace_of_selects (args := #[]) (mvT hZ' (W 51 rfl))) (W 51 rfl) (W 50 rfl) (by decide) p_N_E (own_tal0 l Z a0 hw n0 a15 a4 (2 : Int32) (1 : Int32) (4611686018427387903 : Int64) (Int64.ofNat (n / 2)) ar ap as_ ac (0 : Int64) (0 : Int32) .null h16 (own_old X16) ⟨p_N_E, p_N_candidateCount, p_N_bits, p_N_ceiling, p_N_capacity, p_N_radius, p_N_proposed, p_N_start, p_N_count, p_N_tallied, p_N_tallying, p_N_built, p_N_entry⟩) (W 52 rfl) (W 6 rfl) (by decide) (by decide) rfl (lenOf pd_9 rfl) rfl rfl at_96 rfl rfl rfl rfl (by decide) (by decide) ?_
  intro v17 T17 h17 X17 q17
  obtain ⟨rfl, rfl⟩ := q17
  show G T17 (mkF m 99 #[.val (.int k), .val (.int r0), .val (.int r1), .val (.long xa), .second, .val (.long xb), .second, .val (.long xc), .second, .val (.int (Int32.ofNat n)), .val (.long xd), .second, .val (.ref a1), .val (.ref a4), .val (.ref a7), .val (.ref a10), .val (.ref a15), .unset, .unset, .unset, .unset, .unset, .unset, .unset, .unset, .unset, .unset, .unset, .unset, .unset, .unset, .unset, .unset, .unset, .unset, .unset, .unset, .unset, .unset, .unset, .unset] [(.int (0 : Int32))])
  refine own_istore (pc' := 101) X17 at_99 rfl (Ls' := #[.val (.int k), .val (.int r0), .val (.int r1), .val (.long xa), .second, .val (.long xb), .second, .val (.long xc), .second, .val (.int (Int32.ofNat n)), .val (.long xd), .second, .val (.ref a1), .val (.ref a4), .val (.ref a7), .val (.ref a10), .val (.ref a15), .val (.int (0 : Int32)), .unset, .unset, .unset, .unset, .unset, .unset, .unset, .unset, .unset, .unset, .unset, .unset, .unset, .unset, .unset, .unset, .unset, .unset, .unset, .unset, .unset, .unset, .unset]) rfl ?_
  refine own_aload (pc' := 103) X17 at_101 rfl rfl rfl ?_
  refine own_aload (pc' := 105) X17 at_103 rfl rfl rfl ?_
  refine own_lconst (pc' := 106) X17 at_105 rfl (z := (0 : Int64)) (by decide) ?_
  have ne_a1_a4 : a1 ≠ a4 := own_ne A1'.lt (Nat.le_trans K2.1 (Nat.le_trans K3.1 (Nat.le_refl _))) (Nat.le_of_eq (Eq.symm g4))
  have ne_a1_a7 : a1 ≠ a7 := own_ne A1'.lt (Nat.le_trans K2.1 (Nat.le_trans K3.1 (Nat.le_trans K4.1 (Nat.le_trans K5.1 (Nat.le_trans K6.1 (Nat.le_refl _)))))) (Nat.le_of_eq (Eq.symm g7))
  have ne_a1_a10 : a1 ≠ a10 := own_ne A1'.lt (Nat.le_trans K2.1 (Nat.le_trans K3.1 (Nat.le_trans K4.1 (Nat.le_trans K5.1 (Nat.le_trans K6.1 (Nat.le_trans K7.1 (Nat.le_trans K8.1 (Nat.le_trans K9.1 (Nat.le_refl _))))))))) (Nat.le_of_eq (Eq.symm g10))
  have ne_a1_a15 : a1 ≠ a15 := own_ne A1'.lt (Nat.le_trans K2.1 (Nat.le_trans K3.1 (Nat.le_trans K4.1 (Nat.le_trans K5.1 (Nat.le_trans K6.1 (Nat.le_trans K7.1 (Nat.le_trans K8.1 (Nat.le_trans K9.1 (Nat.le_trans K10.1 (Nat.le_trans K12.1 (Nat.le_trans K14.1 (Nat.le_refl _)))))))))))) (Nat.le_of_eq (Eq.symm g15))
  have f18 := (((((((((((A3'.keep K4 nin0).keep K5 (ninS ne_a1_a4 nin0)).keep K6 (ninS ne_a1_a4 nin0)).keep K7 nin0).keep K8 (ninS ne_a1_a7 nin0)).keep K9 (ninS ne_a1_a7 nin0)).keep K10 nin0).keep K12 (ninS ne_a1_a10 nin0)).keep K14 (ninS ne_a1_a10 nin0)).keep K15 nin0).keep K16 (ninS ne_a1_a15 nin0))
  have ne_a1_ap : a1 ≠ ap := own_ne A1'.lt (Nat.le_trans K2.1 (Nat.le_trans K3.1 (Nat.le_trans K4.1 (Nat.le_trans K5.1 (Nat.le_trans K6.1 (Nat.le_trans K7.1 (Nat.le_trans K8.1 (Nat.le_trans K9.1 (Nat.le_trans K10.1 (Nat.le_trans K12.1 (Nat.le_trans K14.1 (Nat.le_trans K15.1 (Nat.le_refl _))))))))))))) z2_ap
  refine own_callVM (pc' := 109) (cells' := 9) (slots' := 94) (argsL := [(.ref a1), (.long (0 : Int64))]) (rest := []) (W := 0) (y := (⟨"com/example/kentro/kentro/bound/NearestCandidates", "propose", "([JJ)V"⟩ : MethodName)) (z := (⟨"com/example/kentro/kentro/bound/NearestCandidates", "propose", "([JJ)V"⟩ : MethodName)) (a := a15) X17 (W 55 rfl) (W 56 rfl) (fun s' hZ' => notFace_of_selects (args := #[]) (mvT hZ' (W 58 rfl))) (W 58 rfl) (W 57 rfl) (by decide) p_N_E (own_prop l Z a0 hw n0 a15 a1 kr kp kc k1 (List.replicate n (0 : Int64)) (List.replicate n (0 : Int64)) [r0.toInt64, r1.toInt64, 0, 0, 0, 0, 0, 0, 0, 0] (List.replicate n (0 : Int32)) n (2 : Int32) (1 : Int32) (4611686018427387903 : Int64) (Int64.ofNat (n / 2)) ar ap as_ ac (0 : Int64) (0 : Int32) (0 : Int32) .null h16 (own_old X17) ⟨p_N_E, p_N_candidateCount, p_N_bits, p_N_ceiling, p_N_capacity, p_N_radius, p_N_proposed, p_N_start, p_N_count, p_N_tallied, p_N_tallying, p_N_built, p_N_entry⟩ p_ar p_ap p_ac f18 q_ar_ap ne_a1_ap n_a15 n_ap n_ac (by simp) (by simp) (by simp) (by simp; omega) (by omega)) (W 59 rfl) (W 6 rfl) (by decide) (by decide) rfl (lenOf pd_10 rfl) rfl rfl at_106 rfl rfl rfl rfl (by decide) (by decide) ?_
  intro v19 T19 h19 X19 q19
  obtain ⟨rfl, K19, p_M, p_ap2, p_ac2⟩ := q19
  rw [own_take p_n2, own_pvm, own_pvm] at p_ap2
  rw [own_rep p_n2] at p_ac2
  obtain ⟨p_M_E, p_M_candidateCount, p_M_bits, p_M_ceiling, p_M_capacity, p_M_radius, p_M_proposed, p_M_start, p_M_count, p_M_tallied, p_M_tallying, p_M_built, p_M_entry⟩ := p_M
  show G T19 (mkF m 109 #[.val (.int k), .val (.int r0), .val (.int r1), .val (.long xa), .second, .val (.long xb), .second, .val (.long xc), .second, .val (.int (Int32.ofNat n)), .val (.long xd), .second, .val (.ref a1), .val (.ref a4), .val (.ref a7), .val (.ref a10), .val (.ref a15), .val (.int (0 : Int32)), .unset, .unset, .unset, .unset, .unset, .unset, .unset, .unset, .unset, .unset, .unset, .unset, .unset, .unset, .unset, .unset, .unset, .unset, .unset, .unset, .unset, .unset, .unset] [])
  refine own_aload (pc' := 111) X19 at_109 rfl rfl rfl ?_
  refine own_aload (pc' := 113) X19 at_111 rfl rfl rfl ?_
  have ia0 := own_in1 (if r0.toInt64 < 0 then 0 else r0.toInt64) xa
  have ia1 := own_in1 (if r1.toInt64 < 0 then 0 else r1.toInt64) xb
  have ne_a4_a7 : a4 ≠ a7 := own_ne E4.lt (Nat.le_trans K5.1 (Nat.le_trans K6.1 (Nat.le_refl _))) (Nat.le_of_eq (Eq.symm g7))
  have ne_a4_a10 : a4 ≠ a10 := own_ne E4.lt (Nat.le_trans K5.1 (Nat.le_trans K6.1 (Nat.le_trans K7.1 (Nat.le_trans K8.1 (Nat.le_trans K9.1 (Nat.le_refl _)))))) (Nat.le_of_eq (Eq.symm g10))
  have ne_a4_a15 : a4 ≠ a15 := own_ne E4.lt (Nat.le_trans K5.1 (Nat.le_trans K6.1 (Nat.le_trans K7.1 (Nat.le_trans K8.1 (Nat.le_trans K9.1 (Nat.le_trans K10.1 (Nat.le_trans K12.1 (Nat.le_trans K14.1 (Nat.le_refl _))))))))) (Nat.le_of_eq (Eq.symm g15))
  have ne_a4_ap : a4 ≠ ap := own_ne E4.lt (Nat.le_trans K5.1 (Nat.le_trans K6.1 (Nat.le_trans K7.1 (Nat.le_trans K8.1 (Nat.le_trans K9.1 (Nat.le_trans K10.1 (Nat.le_trans K12.1 (Nat.le_trans K14.1 (Nat.le_trans K15.1 (Nat.le_refl _)))))))))) z2_ap
  have ne_a4_ac : a4 ≠ ac := own_ne E4.lt (Nat.le_trans K5.1 (Nat.le_trans K6.1 (Nat.le_trans K7.1 (Nat.le_trans K8.1 (Nat.le_trans K9.1 (Nat.le_trans K10.1 (Nat.le_trans K12.1 (Nat.le_trans K14.1 (Nat.le_trans K15.1 (Nat.le_refl _)))))))))) z2_ac
  have f20 := (((((((((A6'.keep K7 nin0).keep K8 (ninS ne_a4_a7 nin0)).keep K9 (ninS ne_a4_a7 nin0)).keep K10 nin0).keep K12 (ninS ne_a4_a10 nin0)).keep K14 (ninS ne_a4_a10 nin0)).keep K15 nin0).keep K16 (ninS ne_a4_a15 nin0)).keep K19 (ninS ne_a4_a15 (ninS ne_a4_ap (ninS ne_a4_ac nin0))))
  refine own_callVM (pc' := 116) (cells' := 9) (slots' := 94) (argsL := [(.ref a4)]) (rest := []) (W := 0) (y := (⟨"com/example/kentro/kentro/bound/NearestCandidates", "tally", "([J)Z"⟩ : MethodName)) (z := (⟨"com/example/kentro/kentro/bound/NearestCandidates", "tally", "([J)Z"⟩ : MethodName)) (a := a15) X19 (W 48 rfl) (W 49 rfl) (fun s' hZ' => notFace_of_selects (args := #[]) (mvT hZ' (W 51 rfl))) (W 51 rfl) (W 50 rfl) (by decide) p_M_E (own_tal1 l Z a0 hw n0 a15 a4 kp kc k4 xa xb (if r0.toInt64 < 0 then 0 else r0.toInt64) (if r1.toInt64 < 0 then 0 else r1.toInt64) ((([0, 0, 0, 0, 0, 0, 0, 0] : List Int64).take (n - 2)).map (own_pv 4611686018427387903)) n (n / 2) 0 0 0 2 1 (4611686018427387903 : Int64) ar ap as_ ac 0 .null h19 (own_old X19) ⟨p_M_E, p_M_candidateCount, p_M_bits, p_M_ceiling, p_M_capacity, p_M_radius, p_M_proposed, p_M_start, p_M_count, p_M_tallied, p_M_tallying, p_M_built, p_M_entry⟩ p_ap2 p_ac2 f20 n_a15 n_ac p_n2 (by omega) (by omega) (by omega) (by omega)) (W 52 rfl) (W 6 rfl) (by decide) (by decide) rfl (lenOf pd_9 rfl) rfl rfl at_113 rfl rfl rfl rfl (by decide) (by decide) ?_
  intro v21 T21 h21 X21 q21
  obtain ⟨rfl, K21, p_Ta, p_ca⟩ := q21
  obtain ⟨p_Ta_E, p_Ta_candidateCount, p_Ta_bits, p_Ta_ceiling, p_Ta_capacity, p_Ta_radius, p_Ta_proposed, p_Ta_start, p_Ta_count, p_Ta_tallied, p_Ta_tallying, p_Ta_built, p_Ta_entry⟩ := p_Ta
  show G T21 (mkF m 116 #[.val (.int k), .val (.int r0), .val (.int r1), .val (.long xa), .second, .val (.long xb), .second, .val (.long xc), .second, .val (.int (Int32.ofNat n)), .val (.long xd), .second, .val (.ref a1), .val (.ref a4), .val (.ref a7), .val (.ref a10), .val (.ref a15), .val (.int (0 : Int32)), .unset, .unset, .unset, .unset, .unset, .unset, .unset, .unset, .unset, .unset, .unset, .unset, .unset, .unset, .unset, .unset, .unset, .unset, .unset, .unset, .unset, .unset, .unset] [(.int (1 : Int32))])
  refine own_istore (pc' := 118) X21 at_116 rfl (Ls' := #[.val (.int k), .val (.int r0), .val (.int r1), .val (.long xa), .second, .val (.long xb), .second, .val (.long xc), .second, .val (.int (Int32.ofNat n)), .val (.long xd), .second, .val (.ref a1), .val (.ref a4), .val (.ref a7), .val (.ref a10), .val (.ref a15), .val (.int (0 : Int32)), .val (.int (1 : Int32)), .unset, .unset, .unset, .unset, .unset, .unset, .unset, .unset, .unset, .unset, .unset, .unset, .unset, .unset, .unset, .unset, .unset, .unset, .unset, .unset, .unset, .unset]) rfl ?_
  refine own_aload (pc' := 120) X21 at_118 rfl rfl rfl ?_
  refine own_aload (pc' := 122) X21 at_120 rfl rfl rfl ?_
  by_cases hF1 : n / 2 < 0 + own_in (if r0.toInt64 < 0 then 0 else r0.toInt64) xa + own_in (if r1.toInt64 < 0 then 0 else r1.toInt64) xb
  · rw [if_pos hF1] at p_Ta_tallying
    refine own_callVM (pc' := 125) (cells' := 9) (slots' := 94) (argsL := [(.ref a7)]) (rest := []) (W := 0) (y := (⟨"com/example/kentro/kentro/bound/NearestCandidates", "tally", "([J)Z"⟩ : MethodName)) (z := (⟨"com/example/kentro/kentro/bound/NearestCandidates", "tally", "([J)Z"⟩ : MethodName)) (a := a15) X21 (W 48 rfl) (W 49 rfl) (fun s' hZ' => notFace_of_selects (args := #[]) (mvT hZ' (W 51 rfl))) (W 51 rfl) (W 50 rfl) (by decide) p_Ta_E (own_tal0 l Z a0 hw n0 a15 a7 (2 : Int32) (1 : Int32) (4611686018427387903 : Int64) (Int64.ofNat (n / 2)) ar ap as_ ac (Int64.ofNat (0 + own_in (if r0.toInt64 < 0 then 0 else r0.toInt64) xa + own_in (if r1.toInt64 < 0 then 0 else r1.toInt64) xb)) (0 : Int32) .null h21 (own_old X21) ⟨p_Ta_E, p_Ta_candidateCount, p_Ta_bits, p_Ta_ceiling, p_Ta_capacity, p_Ta_radius, p_Ta_proposed, p_Ta_start, p_Ta_count, p_Ta_tallied, p_Ta_tallying, p_Ta_built, p_Ta_entry⟩) (W 52 rfl) (W 6 rfl) (by decide) (by decide) rfl (lenOf pd_9 rfl) rfl rfl at_122 rfl rfl rfl rfl (by decide) (by decide) ?_
    intro v22 T22 h22 X22 q22
    obtain ⟨rfl, rfl⟩ := q22
    show G T22 (mkF m 125 #[.val (.int k), .val (.int r0), .val (.int r1), .val (.long xa), .second, .val (.long xb), .second, .val (.long xc), .second, .val (.int (Int32.ofNat n)), .val (.long xd), .second, .val (.ref a1), .val (.ref a4), .val (.ref a7), .val (.ref a10), .val (.ref a15), .val (.int (0 : Int32)), .val (.int (1 : Int32)), .unset, .unset, .unset, .unset, .unset, .unset, .unset, .unset, .unset, .unset, .unset, .unset, .unset, .unset, .unset, .unset, .unset, .unset, .unset, .unset, .unset, .unset] [(.int (0 : Int32))])
    refine own_istore (pc' := 127) X22 at_125 rfl (Ls' := #[.val (.int k), .val (.int r0), .val (.int r1), .val (.long xa), .second, .val (.long xb), .second, .val (.long xc), .second, .val (.int (Int32.ofNat n)), .val (.long xd), .second, .val (.ref a1), .val (.ref a4), .val (.ref a7), .val (.ref a10), .val (.ref a15), .val (.int (0 : Int32)), .val (.int (1 : Int32)), .val (.int (0 : Int32)), .unset, .unset, .unset, .unset, .unset, .unset, .unset, .unset, .unset, .unset, .unset, .unset, .unset, .unset, .unset, .unset, .unset, .unset, .unset, .unset, .unset]) rfl ?_
    refine own_aload (pc' := 129) X22 at_127 rfl rfl rfl ?_
    refine own_aload (pc' := 131) X22 at_129 rfl rfl rfl ?_
    refine own_callVM (pc' := 134) (cells' := 9) (slots' := 94) (argsL := [(.ref a10)]) (rest := []) (W := 0) (y := (⟨"com/example/kentro/kentro/bound/NearestCandidates", "build", "([[J)J"⟩ : MethodName)) (z := (⟨"com/example/kentro/kentro/bound/NearestCandidates", "build", "([[J)J"⟩ : MethodName)) (a := a15) X22 (W 71 rfl) (W 72 rfl) (fun s' hZ' => notFace_of_selects (args := #[]) (mvT hZ' (W 74 rfl))) (W 74 rfl) (W 73 rfl) (by decide) p_Ta_E (own_build0 l Z a0 hw n0 a15 a10 (2 : Int32) (1 : Int32) (4611686018427387903 : Int64) (Int64.ofNat (n / 2)) ar ap as_ ac (Int64.ofNat (0 + own_in (if r0.toInt64 < 0 then 0 else r0.toInt64) xa + own_in (if r1.toInt64 < 0 then 0 else r1.toInt64) xb)) (0 : Int32) .null h21 (own_old X22) ⟨p_Ta_E, p_Ta_candidateCount, p_Ta_bits, p_Ta_ceiling, p_Ta_capacity, p_Ta_radius, p_Ta_proposed, p_Ta_start, p_Ta_count, p_Ta_tallied, p_Ta_tallying, p_Ta_built, p_Ta_entry⟩) (W 75 rfl) (W 6 rfl) (by decide) (by decide) rfl (lenOf pd_11 rfl) rfl rfl at_131 rfl rfl rfl rfl (by decide) (by decide) ?_
    intro v23 T23 h23 X23 q23
    obtain ⟨rfl, rfl⟩ := q23
    show G T23 (mkF m 134 #[.val (.int k), .val (.int r0), .val (.int r1), .val (.long xa), .second, .val (.long xb), .second, .val (.long xc), .second, .val (.int (Int32.ofNat n)), .val (.long xd), .second, .val (.ref a1), .val (.ref a4), .val (.ref a7), .val (.ref a10), .val (.ref a15), .val (.int (0 : Int32)), .val (.int (1 : Int32)), .val (.int (0 : Int32)), .unset, .unset, .unset, .unset, .unset, .unset, .unset, .unset, .unset, .unset, .unset, .unset, .unset, .unset, .unset, .unset, .unset, .unset, .unset, .unset, .unset] [(.long (0 : Int64))])
    refine own_lstore (pc' := 136) X23 at_134 rfl (Ls' := #[.val (.int k), .val (.int r0), .val (.int r1), .val (.long xa), .second, .val (.long xb), .second, .val (.long xc), .second, .val (.int (Int32.ofNat n)), .val (.long xd), .second, .val (.ref a1), .val (.ref a4), .val (.ref a7), .val (.ref a10), .val (.ref a15), .val (.int (0 : Int32)), .val (.int (1 : Int32)), .val (.int (0 : Int32)), .val (.long (0 : Int64)), .second, .unset, .unset, .unset, .unset, .unset, .unset, .unset, .unset, .unset, .unset, .unset, .unset, .unset, .unset, .unset, .unset, .unset, .unset, .unset]) rfl ?_
    refine own_aload (pc' := 138) X23 at_136 rfl rfl rfl ?_
    refine own_iconst (pc' := 139) X23 at_138 rfl (z := (0 : Int32)) (by decide) ?_
    have ne_a15_as_ : a15 ≠ as_ := own_ne E15.lt (Nat.le_refl _) z2_as
    have ne_as__ap : as_ ≠ ap := own_neT p_as p_ap (by decide)
    have f24 := ((p_as.keep K19 (ninS (Ne.symm ne_a15_as_) (ninS ne_as__ap (ninS q_as_ac nin0)))).keep K21 (ninS (Ne.symm ne_a15_as_) (ninS q_as_ac nin0)))
    refine own_callVM (pc' := 142) (cells' := 9) (slots' := 94) (argsL := [(.int (0 : Int32))]) (rest := []) (W := 0) (y := (⟨"com/example/kentro/kentro/bound/NearestCandidates", "to", "(I)I"⟩ : MethodName)) (z := (⟨"com/example/kentro/kentro/bound/NearestCandidates", "to", "(I)I"⟩ : MethodName)) (a := a15) X23 (W 76 rfl) (W 77 rfl) (fun s' hZ' => notFace_of_selects (args := #[]) (mvT hZ' (W 79 rfl))) (W 79 rfl) (W 78 rfl) (by decide) p_Ta_E (own_to l Z a0 hw n0 a15 0 ks (List.replicate (n + 1) (0 : Int32)) (0 : Int32) (2 : Int32) (1 : Int32) (4611686018427387903 : Int64) (Int64.ofNat (n / 2)) ar ap as_ ac (Int64.ofNat (0 + own_in (if r0.toInt64 < 0 then 0 else r0.toInt64) xa + own_in (if r1.toInt64 < 0 then 0 else r1.toInt64) xb)) (0 : Int32) (0 : Int32) .null h21 (own_old X23) ⟨p_Ta_E, p_Ta_candidateCount, p_Ta_bits, p_Ta_ceiling, p_Ta_capacity, p_Ta_radius, p_Ta_proposed, p_Ta_start, p_Ta_count, p_Ta_tallied, p_Ta_tallying, p_Ta_built, p_Ta_entry⟩ f24 (by simp; omega) (by simp; omega) (by simp [List.getD, show 1 < n + 1 by omega])) (W 80 rfl) (W 6 rfl) (by decide) (by decide) rfl (lenOf pd_1 rfl) rfl rfl at_139 rfl rfl rfl rfl (by decide) (by decide) ?_
    intro v25 T25 h25 X25 q25
    obtain ⟨rfl, rfl⟩ := q25
    show G T25 (mkF m 142 #[.val (.int k), .val (.int r0), .val (.int r1), .val (.long xa), .second, .val (.long xb), .second, .val (.long xc), .second, .val (.int (Int32.ofNat n)), .val (.long xd), .second, .val (.ref a1), .val (.ref a4), .val (.ref a7), .val (.ref a10), .val (.ref a15), .val (.int (0 : Int32)), .val (.int (1 : Int32)), .val (.int (0 : Int32)), .val (.long (0 : Int64)), .second, .unset, .unset, .unset, .unset, .unset, .unset, .unset, .unset, .unset, .unset, .unset, .unset, .unset, .unset, .unset, .unset, .unset, .unset, .unset] [(.int (0 : Int32))])
    refine own_istore (pc' := 144) X25 at_142 rfl (Ls' := #[.val (.int k), .val (.int r0), .val (.int r1), .val (.long xa), .second, .val (.long xb), .second, .val (.long xc), .second, .val (.int (Int32.ofNat n)), .val (.long xd), .second, .val (.ref a1), .val (.ref a4), .val (.ref a7), .val (.ref a10), .val (.ref a15), .val (.int (0 : Int32)), .val (.int (1 : Int32)), .val (.int (0 : Int32)), .val (.long (0 : Int64)), .second, .val (.int (0 : Int32)), .unset, .unset, .unset, .unset, .unset, .unset, .unset, .unset, .unset, .unset, .unset, .unset, .unset, .unset, .unset, .unset, .unset, .unset]) rfl ?_
    refine own_aload (pc' := 146) X25 at_144 rfl rfl rfl ?_
    refine own_iconst (pc' := 147) X25 at_146 rfl (z := (1 : Int32)) (by decide) ?_
    refine own_callVM (pc' := 150) (cells' := 9) (slots' := 94) (argsL := [(.int (1 : Int32))]) (rest := []) (W := 0) (y := (⟨"com/example/kentro/kentro/bound/NearestCandidates", "to", "(I)I"⟩ : MethodName)) (z := (⟨"com/example/kentro/kentro/bound/NearestCandidates", "to", "(I)I"⟩ : MethodName)) (a := a15) X25 (W 76 rfl) (W 77 rfl) (fun s' hZ' => notFace_of_selects (args := #[]) (mvT hZ' (W 79 rfl))) (W 79 rfl) (W 78 rfl) (by decide) p_Ta_E (own_to l Z a0 hw n0 a15 1 ks (List.replicate (n + 1) (0 : Int32)) (0 : Int32) (2 : Int32) (1 : Int32) (4611686018427387903 : Int64) (Int64.ofNat (n / 2)) ar ap as_ ac (Int64.ofNat (0 + own_in (if r0.toInt64 < 0 then 0 else r0.toInt64) xa + own_in (if r1.toInt64 < 0 then 0 else r1.toInt64) xb)) (0 : Int32) (0 : Int32) .null h21 (own_old X25) ⟨p_Ta_E, p_Ta_candidateCount, p_Ta_bits, p_Ta_ceiling, p_Ta_capacity, p_Ta_radius, p_Ta_proposed, p_Ta_start, p_Ta_count, p_Ta_tallied, p_Ta_tallying, p_Ta_built, p_Ta_entry⟩ f24 (by simp; omega) (by simp; omega) (by simp [List.getD, show 2 < n + 1 by omega])) (W 80 rfl) (W 6 rfl) (by decide) (by decide) rfl (lenOf pd_1 rfl) rfl rfl at_147 rfl rfl rfl rfl (by decide) (by decide) ?_
    intro v26 T26 h26 X26 q26
    obtain ⟨rfl, rfl⟩ := q26
    show G T26 (mkF m 150 #[.val (.int k), .val (.int r0), .val (.int r1), .val (.long xa), .second, .val (.long xb), .second, .val (.long xc), .second, .val (.int (Int32.ofNat n)), .val (.long xd), .second, .val (.ref a1), .val (.ref a4), .val (.ref a7), .val (.ref a10), .val (.ref a15), .val (.int (0 : Int32)), .val (.int (1 : Int32)), .val (.int (0 : Int32)), .val (.long (0 : Int64)), .second, .val (.int (0 : Int32)), .unset, .unset, .unset, .unset, .unset, .unset, .unset, .unset, .unset, .unset, .unset, .unset, .unset, .unset, .unset, .unset, .unset, .unset] [(.int (0 : Int32))])
    refine own_istore (pc' := 152) X26 at_150 rfl (Ls' := #[.val (.int k), .val (.int r0), .val (.int r1), .val (.long xa), .second, .val (.long xb), .second, .val (.long xc), .second, .val (.int (Int32.ofNat n)), .val (.long xd), .second, .val (.ref a1), .val (.ref a4), .val (.ref a7), .val (.ref a10), .val (.ref a15), .val (.int (0 : Int32)), .val (.int (1 : Int32)), .val (.int (0 : Int32)), .val (.long (0 : Int64)), .second, .val (.int (0 : Int32)), .val (.int (0 : Int32)), .unset, .unset, .unset, .unset, .unset, .unset, .unset, .unset, .unset, .unset, .unset, .unset, .unset, .unset, .unset, .unset, .unset]) rfl ?_
    exact own_152 hw k r0 r1 xa xb xc xd n a1 a4 a7 a10 a15 (0 : Int32) (0 : Int64) (0 : Int32) (0 : Int32) (own_mono X26 (by decide : 9 ≤ 13) (by decide : 94 ≤ 120)) hGe p_n2 p_n9 (if_pos (by omega)).symm (if_neg (fun q => by omega)).symm (if_neg (fun q => by omega)).symm (if_neg (fun q => by omega)).symm
  · rw [if_neg hF1] at p_Ta_tallying
    have ib0 := own_in1 (if r0.toInt64 < 0 then 0 else r0.toInt64) xc
    have ib1 := own_in1 (if r1.toInt64 < 0 then 0 else r1.toInt64) xd
    have ne_a15_ap : a15 ≠ ap := own_ne E15.lt (Nat.le_refl _) z2_ap
    have ne_ap_ac : ap ≠ ac := own_neT p_ap p_ac (by decide)
    have f27 := (p_ap2.keep K21 (ninS (Ne.symm ne_a15_ap) (ninS ne_ap_ac nin0)))
    have ne_a7_a10 : a7 ≠ a10 := own_ne E7.lt (Nat.le_trans K8.1 (Nat.le_trans K9.1 (Nat.le_refl _))) (Nat.le_of_eq (Eq.symm g10))
    have ne_a7_a15 : a7 ≠ a15 := own_ne E7.lt (Nat.le_trans K8.1 (Nat.le_trans K9.1 (Nat.le_trans K10.1 (Nat.le_trans K12.1 (Nat.le_trans K14.1 (Nat.le_refl _)))))) (Nat.le_of_eq (Eq.symm g15))
    have ne_a7_ap : a7 ≠ ap := own_ne E7.lt (Nat.le_trans K8.1 (Nat.le_trans K9.1 (Nat.le_trans K10.1 (Nat.le_trans K12.1 (Nat.le_trans K14.1 (Nat.le_trans K15.1 (Nat.le_refl _))))))) z2_ap
    have ne_a7_ac : a7 ≠ ac := own_ne E7.lt (Nat.le_trans K8.1 (Nat.le_trans K9.1 (Nat.le_trans K10.1 (Nat.le_trans K12.1 (Nat.le_trans K14.1 (Nat.le_trans K15.1 (Nat.le_refl _))))))) z2_ac
    have f28 := (((((((A9'.keep K10 nin0).keep K12 (ninS ne_a7_a10 nin0)).keep K14 (ninS ne_a7_a10 nin0)).keep K15 nin0).keep K16 (ninS ne_a7_a15 nin0)).keep K19 (ninS ne_a7_a15 (ninS ne_a7_ap (ninS ne_a7_ac nin0)))).keep K21 (ninS ne_a7_a15 (ninS ne_a7_ac nin0)))
    refine own_callVM (pc' := 125) (cells' := 9) (slots' := 94) (argsL := [(.ref a7)]) (rest := []) (W := 0) (y := (⟨"com/example/kentro/kentro/bound/NearestCandidates", "tally", "([J)Z"⟩ : MethodName)) (z := (⟨"com/example/kentro/kentro/bound/NearestCandidates", "tally", "([J)Z"⟩ : MethodName)) (a := a15) X21 (W 48 rfl) (W 49 rfl) (fun s' hZ' => notFace_of_selects (args := #[]) (mvT hZ' (W 51 rfl))) (W 51 rfl) (W 50 rfl) (by decide) p_Ta_E (own_tal1 l Z a0 hw n0 a15 a7 kp kc k7 xc xd (if r0.toInt64 < 0 then 0 else r0.toInt64) (if r1.toInt64 < 0 then 0 else r1.toInt64) ((([0, 0, 0, 0, 0, 0, 0, 0] : List Int64).take (n - 2)).map (own_pv 4611686018427387903)) n (n / 2) (0 + own_in (if r0.toInt64 < 0 then 0 else r0.toInt64) xa + own_in (if r1.toInt64 < 0 then 0 else r1.toInt64) xb) (0 + own_in (if r0.toInt64 < 0 then 0 else r0.toInt64) xa) (0 + own_in (if r1.toInt64 < 0 then 0 else r1.toInt64) xb) 2 1 (4611686018427387903 : Int64) ar ap as_ ac 0 .null h21 (own_old X21) ⟨p_Ta_E, p_Ta_candidateCount, p_Ta_bits, p_Ta_ceiling, p_Ta_capacity, p_Ta_radius, p_Ta_proposed, p_Ta_start, p_Ta_count, p_Ta_tallied, p_Ta_tallying, p_Ta_built, p_Ta_entry⟩ f27 p_ca f28 n_a15 n_ac p_n2 (by omega) (by omega) (by omega) (by omega)) (W 52 rfl) (W 6 rfl) (by decide) (by decide) rfl (lenOf pd_9 rfl) rfl rfl at_122 rfl rfl rfl rfl (by decide) (by decide) ?_
    intro v29 T29 h29 X29 q29
    obtain ⟨rfl, K29, p_Tb, p_cb⟩ := q29
    obtain ⟨p_Tb_E, p_Tb_candidateCount, p_Tb_bits, p_Tb_ceiling, p_Tb_capacity, p_Tb_radius, p_Tb_proposed, p_Tb_start, p_Tb_count, p_Tb_tallied, p_Tb_tallying, p_Tb_built, p_Tb_entry⟩ := p_Tb
    show G T29 (mkF m 125 #[.val (.int k), .val (.int r0), .val (.int r1), .val (.long xa), .second, .val (.long xb), .second, .val (.long xc), .second, .val (.int (Int32.ofNat n)), .val (.long xd), .second, .val (.ref a1), .val (.ref a4), .val (.ref a7), .val (.ref a10), .val (.ref a15), .val (.int (0 : Int32)), .val (.int (1 : Int32)), .unset, .unset, .unset, .unset, .unset, .unset, .unset, .unset, .unset, .unset, .unset, .unset, .unset, .unset, .unset, .unset, .unset, .unset, .unset, .unset, .unset, .unset] [(.int (1 : Int32))])
    refine own_istore (pc' := 127) X29 at_125 rfl (Ls' := #[.val (.int k), .val (.int r0), .val (.int r1), .val (.long xa), .second, .val (.long xb), .second, .val (.long xc), .second, .val (.int (Int32.ofNat n)), .val (.long xd), .second, .val (.ref a1), .val (.ref a4), .val (.ref a7), .val (.ref a10), .val (.ref a15), .val (.int (0 : Int32)), .val (.int (1 : Int32)), .val (.int (1 : Int32)), .unset, .unset, .unset, .unset, .unset, .unset, .unset, .unset, .unset, .unset, .unset, .unset, .unset, .unset, .unset, .unset, .unset, .unset, .unset, .unset, .unset]) rfl ?_
    refine own_aload (pc' := 129) X29 at_127 rfl rfl rfl ?_
    refine own_aload (pc' := 131) X29 at_129 rfl rfl rfl ?_
    by_cases hF2 : n / 2 < (0 + own_in (if r0.toInt64 < 0 then 0 else r0.toInt64) xa + own_in (if r1.toInt64 < 0 then 0 else r1.toInt64) xb) + own_in (if r0.toInt64 < 0 then 0 else r0.toInt64) xc + own_in (if r1.toInt64 < 0 then 0 else r1.toInt64) xd
    · rw [if_pos hF2] at p_Tb_tallying
      refine own_callVM (pc' := 134) (cells' := 9) (slots' := 94) (argsL := [(.ref a10)]) (rest := []) (W := 0) (y := (⟨"com/example/kentro/kentro/bound/NearestCandidates", "build", "([[J)J"⟩ : MethodName)) (z := (⟨"com/example/kentro/kentro/bound/NearestCandidates", "build", "([[J)J"⟩ : MethodName)) (a := a15) X29 (W 71 rfl) (W 72 rfl) (fun s' hZ' => notFace_of_selects (args := #[]) (mvT hZ' (W 74 rfl))) (W 74 rfl) (W 73 rfl) (by decide) p_Tb_E (own_build0 l Z a0 hw n0 a15 a10 (2 : Int32) (1 : Int32) (4611686018427387903 : Int64) (Int64.ofNat (n / 2)) ar ap as_ ac (Int64.ofNat ((0 + own_in (if r0.toInt64 < 0 then 0 else r0.toInt64) xa + own_in (if r1.toInt64 < 0 then 0 else r1.toInt64) xb) + own_in (if r0.toInt64 < 0 then 0 else r0.toInt64) xc + own_in (if r1.toInt64 < 0 then 0 else r1.toInt64) xd)) (0 : Int32) .null h29 (own_old X29) ⟨p_Tb_E, p_Tb_candidateCount, p_Tb_bits, p_Tb_ceiling, p_Tb_capacity, p_Tb_radius, p_Tb_proposed, p_Tb_start, p_Tb_count, p_Tb_tallied, p_Tb_tallying, p_Tb_built, p_Tb_entry⟩) (W 75 rfl) (W 6 rfl) (by decide) (by decide) rfl (lenOf pd_11 rfl) rfl rfl at_131 rfl rfl rfl rfl (by decide) (by decide) ?_
      intro v30 T30 h30 X30 q30
      obtain ⟨rfl, rfl⟩ := q30
      show G T30 (mkF m 134 #[.val (.int k), .val (.int r0), .val (.int r1), .val (.long xa), .second, .val (.long xb), .second, .val (.long xc), .second, .val (.int (Int32.ofNat n)), .val (.long xd), .second, .val (.ref a1), .val (.ref a4), .val (.ref a7), .val (.ref a10), .val (.ref a15), .val (.int (0 : Int32)), .val (.int (1 : Int32)), .val (.int (1 : Int32)), .unset, .unset, .unset, .unset, .unset, .unset, .unset, .unset, .unset, .unset, .unset, .unset, .unset, .unset, .unset, .unset, .unset, .unset, .unset, .unset, .unset] [(.long (0 : Int64))])
      refine own_lstore (pc' := 136) X30 at_134 rfl (Ls' := #[.val (.int k), .val (.int r0), .val (.int r1), .val (.long xa), .second, .val (.long xb), .second, .val (.long xc), .second, .val (.int (Int32.ofNat n)), .val (.long xd), .second, .val (.ref a1), .val (.ref a4), .val (.ref a7), .val (.ref a10), .val (.ref a15), .val (.int (0 : Int32)), .val (.int (1 : Int32)), .val (.int (1 : Int32)), .val (.long (0 : Int64)), .second, .unset, .unset, .unset, .unset, .unset, .unset, .unset, .unset, .unset, .unset, .unset, .unset, .unset, .unset, .unset, .unset, .unset, .unset, .unset]) rfl ?_
      refine own_aload (pc' := 138) X30 at_136 rfl rfl rfl ?_
      refine own_iconst (pc' := 139) X30 at_138 rfl (z := (0 : Int32)) (by decide) ?_
      have ne_a15_as_ : a15 ≠ as_ := own_ne E15.lt (Nat.le_refl _) z2_as
      have ne_as__ap : as_ ≠ ap := own_neT p_as p_ap (by decide)
      have f31 := (((p_as.keep K19 (ninS (Ne.symm ne_a15_as_) (ninS ne_as__ap (ninS q_as_ac nin0)))).keep K21 (ninS (Ne.symm ne_a15_as_) (ninS q_as_ac nin0))).keep K29 (ninS (Ne.symm ne_a15_as_) (ninS q_as_ac nin0)))
      refine own_callVM (pc' := 142) (cells' := 9) (slots' := 94) (argsL := [(.int (0 : Int32))]) (rest := []) (W := 0) (y := (⟨"com/example/kentro/kentro/bound/NearestCandidates", "to", "(I)I"⟩ : MethodName)) (z := (⟨"com/example/kentro/kentro/bound/NearestCandidates", "to", "(I)I"⟩ : MethodName)) (a := a15) X30 (W 76 rfl) (W 77 rfl) (fun s' hZ' => notFace_of_selects (args := #[]) (mvT hZ' (W 79 rfl))) (W 79 rfl) (W 78 rfl) (by decide) p_Tb_E (own_to l Z a0 hw n0 a15 0 ks (List.replicate (n + 1) (0 : Int32)) (0 : Int32) (2 : Int32) (1 : Int32) (4611686018427387903 : Int64) (Int64.ofNat (n / 2)) ar ap as_ ac (Int64.ofNat ((0 + own_in (if r0.toInt64 < 0 then 0 else r0.toInt64) xa + own_in (if r1.toInt64 < 0 then 0 else r1.toInt64) xb) + own_in (if r0.toInt64 < 0 then 0 else r0.toInt64) xc + own_in (if r1.toInt64 < 0 then 0 else r1.toInt64) xd)) (0 : Int32) (0 : Int32) .null h29 (own_old X30) ⟨p_Tb_E, p_Tb_candidateCount, p_Tb_bits, p_Tb_ceiling, p_Tb_capacity, p_Tb_radius, p_Tb_proposed, p_Tb_start, p_Tb_count, p_Tb_tallied, p_Tb_tallying, p_Tb_built, p_Tb_entry⟩ f31 (by simp; omega) (by simp; omega) (by simp [List.getD, show 1 < n + 1 by omega])) (W 80 rfl) (W 6 rfl) (by decide) (by decide) rfl (lenOf pd_1 rfl) rfl rfl at_139 rfl rfl rfl rfl (by decide) (by decide) ?_
      intro v32 T32 h32 X32 q32
      obtain ⟨rfl, rfl⟩ := q32
      show G T32 (mkF m 142 #[.val (.int k), .val (.int r0), .val (.int r1), .val (.long xa), .second, .val (.long xb), .second, .val (.long xc), .second, .val (.int (Int32.ofNat n)), .val (.long xd), .second, .val (.ref a1), .val (.ref a4), .val (.ref a7), .val (.ref a10), .val (.ref a15), .val (.int (0 : Int32)), .val (.int (1 : Int32)), .val (.int (1 : Int32)), .val (.long (0 : Int64)), .second, .unset, .unset, .unset, .unset, .unset, .unset, .unset, .unset, .unset, .unset, .unset, .unset, .unset, .unset, .unset, .unset, .unset, .unset, .unset] [(.int (0 : Int32))])
      refine own_istore (pc' := 144) X32 at_142 rfl (Ls' := #[.val (.int k), .val (.int r0), .val (.int r1), .val (.long xa), .second, .val (.long xb), .second, .val (.long xc), .second, .val (.int (Int32.ofNat n)), .val (.long xd), .second, .val (.ref a1), .val (.ref a4), .val (.ref a7), .val (.ref a10), .val (.ref a15), .val (.int (0 : Int32)), .val (.int (1 : Int32)), .val (.int (1 : Int32)), .val (.long (0 : Int64)), .second, .val (.int (0 : Int32)), .unset, .unset, .unset, .unset, .unset, .unset, .unset, .unset, .unset, .unset, .unset, .unset, .unset, .unset, .unset, .unset, .unset, .unset]) rfl ?_
      refine own_aload (pc' := 146) X32 at_144 rfl rfl rfl ?_
      refine own_iconst (pc' := 147) X32 at_146 rfl (z := (1 : Int32)) (by decide) ?_
      refine own_callVM (pc' := 150) (cells' := 9) (slots' := 94) (argsL := [(.int (1 : Int32))]) (rest := []) (W := 0) (y := (⟨"com/example/kentro/kentro/bound/NearestCandidates", "to", "(I)I"⟩ : MethodName)) (z := (⟨"com/example/kentro/kentro/bound/NearestCandidates", "to", "(I)I"⟩ : MethodName)) (a := a15) X32 (W 76 rfl) (W 77 rfl) (fun s' hZ' => notFace_of_selects (args := #[]) (mvT hZ' (W 79 rfl))) (W 79 rfl) (W 78 rfl) (by decide) p_Tb_E (own_to l Z a0 hw n0 a15 1 ks (List.replicate (n + 1) (0 : Int32)) (0 : Int32) (2 : Int32) (1 : Int32) (4611686018427387903 : Int64) (Int64.ofNat (n / 2)) ar ap as_ ac (Int64.ofNat ((0 + own_in (if r0.toInt64 < 0 then 0 else r0.toInt64) xa + own_in (if r1.toInt64 < 0 then 0 else r1.toInt64) xb) + own_in (if r0.toInt64 < 0 then 0 else r0.toInt64) xc + own_in (if r1.toInt64 < 0 then 0 else r1.toInt64) xd)) (0 : Int32) (0 : Int32) .null h29 (own_old X32) ⟨p_Tb_E, p_Tb_candidateCount, p_Tb_bits, p_Tb_ceiling, p_Tb_capacity, p_Tb_radius, p_Tb_proposed, p_Tb_start, p_Tb_count, p_Tb_tallied, p_Tb_tallying, p_Tb_built, p_Tb_entry⟩ f31 (by simp; omega) (by simp; omega) (by simp [List.getD, show 2 < n + 1 by omega])) (W 80 rfl) (W 6 rfl) (by decide) (by decide) rfl (lenOf pd_1 rfl) rfl rfl at_147 rfl rfl rfl rfl (by decide) (by decide) ?_
      intro v33 T33 h33 X33 q33
      obtain ⟨rfl, rfl⟩ := q33
      show G T33 (mkF m 150 #[.val (.int k), .val (.int r0), .val (.int r1), .val (.long xa), .second, .val (.long xb), .second, .val (.long xc), .second, .val (.int (Int32.ofNat n)), .val (.long xd), .second, .val (.ref a1), .val (.ref a4), .val (.ref a7), .val (.ref a10), .val (.ref a15), .val (.int (0 : Int32)), .val (.int (1 : Int32)), .val (.int (1 : Int32)), .val (.long (0 : Int64)), .second, .val (.int (0 : Int32)), .unset, .unset, .unset, .unset, .unset, .unset, .unset, .unset, .unset, .unset, .unset, .unset, .unset, .unset, .unset, .unset, .unset, .unset] [(.int (0 : Int32))])
      refine own_istore (pc' := 152) X33 at_150 rfl (Ls' := #[.val (.int k), .val (.int r0), .val (.int r1), .val (.long xa), .second, .val (.long xb), .second, .val (.long xc), .second, .val (.int (Int32.ofNat n)), .val (.long xd), .second, .val (.ref a1), .val (.ref a4), .val (.ref a7), .val (.ref a10), .val (.ref a15), .val (.int (0 : Int32)), .val (.int (1 : Int32)), .val (.int (1 : Int32)), .val (.long (0 : Int64)), .second, .val (.int (0 : Int32)), .val (.int (0 : Int32)), .unset, .unset, .unset, .unset, .unset, .unset, .unset, .unset, .unset, .unset, .unset, .unset, .unset, .unset, .unset, .unset, .unset]) rfl ?_
      exact own_152 hw k r0 r1 xa xb xc xd n a1 a4 a7 a10 a15 (1 : Int32) (0 : Int64) (0 : Int32) (0 : Int32) (own_mono X33 (by decide : 9 ≤ 13) (by decide : 94 ≤ 120)) hGe p_n2 p_n9 (if_neg (by omega)).symm (if_neg (fun q => by omega)).symm (if_neg (fun q => by omega)).symm (if_neg (fun q => by omega)).symm
    · rw [if_neg hF2] at p_Tb_tallying
      have e_S := own_Sok (n := n) (c0 := (0 + own_in (if r0.toInt64 < 0 then 0 else r0.toInt64) xa + own_in (if r0.toInt64 < 0 then 0 else r0.toInt64) xc)) (c1 := (0 + own_in (if r1.toInt64 < 0 then 0 else r1.toInt64) xb + own_in (if r1.toInt64 < 0 then 0 else r1.toInt64) xd)) (by omega) (by omega)
      have ne_a15_ar : a15 ≠ ar := own_ne E15.lt (Nat.le_refl _) z_ar
      have ne_ar_ac : ar ≠ ac := own_neT p_ar p_ac (by decide)
      have f34 := (((p_ar.keep K19 (ninS (Ne.symm ne_a15_ar) (ninS q_ar_ap (ninS ne_ar_ac nin0)))).keep K21 (ninS (Ne.symm ne_a15_ar) (ninS ne_ar_ac nin0))).keep K29 (ninS (Ne.symm ne_a15_ar) (ninS ne_ar_ac nin0)))
      have f35 := (f27.keep K29 (ninS (Ne.symm ne_a15_ap) (ninS ne_ap_ac nin0)))
      have ne_a15_as_ : a15 ≠ as_ := own_ne E15.lt (Nat.le_refl _) z2_as
      have ne_as__ap : as_ ≠ ap := own_neT p_as p_ap (by decide)
      have f36 := (((p_as.keep K19 (ninS (Ne.symm ne_a15_as_) (ninS ne_as__ap (ninS q_as_ac nin0)))).keep K21 (ninS (Ne.symm ne_a15_as_) (ninS q_as_ac nin0))).keep K29 (ninS (Ne.symm ne_a15_as_) (ninS q_as_ac nin0)))
      have ne_a10_a15 : a10 ≠ a15 := own_ne A10'.lt (Nat.le_trans K12.1 (Nat.le_trans K14.1 (Nat.le_refl _))) (Nat.le_of_eq (Eq.symm g15))
      have ne_a10_ap : a10 ≠ ap := own_ne A10'.lt (Nat.le_trans K12.1 (Nat.le_trans K14.1 (Nat.le_trans K15.1 (Nat.le_refl _)))) z2_ap
      have ne_a10_ac : a10 ≠ ac := own_ne A10'.lt (Nat.le_trans K12.1 (Nat.le_trans K14.1 (Nat.le_trans K15.1 (Nat.le_refl _)))) z2_ac
      have f37 := (((((A14'.keep K15 nin0).keep K16 (ninS ne_a10_a15 nin0)).keep K19 (ninS ne_a10_a15 (ninS ne_a10_ap (ninS ne_a10_ac nin0)))).keep K21 (ninS ne_a10_a15 (ninS ne_a10_ac nin0))).keep K29 (ninS ne_a10_a15 (ninS ne_a10_ac nin0)))
      have f38 := ((f20.keep K21 (ninS ne_a4_a15 (ninS ne_a4_ac nin0))).keep K29 (ninS ne_a4_a15 (ninS ne_a4_ac nin0)))
      have f39 := (f28.keep K29 (ninS ne_a7_a15 (ninS ne_a7_ac nin0)))
      have ne_a4_ar : a4 ≠ ar := own_ne E4.lt (Nat.le_trans K5.1 (Nat.le_trans K6.1 (Nat.le_trans K7.1 (Nat.le_trans K8.1 (Nat.le_trans K9.1 (Nat.le_trans K10.1 (Nat.le_trans K12.1 (Nat.le_trans K14.1 (Nat.le_trans K15.1 (Nat.le_refl _)))))))))) z_ar
      have ne_a7_ar : a7 ≠ ar := own_ne E7.lt (Nat.le_trans K8.1 (Nat.le_trans K9.1 (Nat.le_trans K10.1 (Nat.le_trans K12.1 (Nat.le_trans K14.1 (Nat.le_trans K15.1 (Nat.le_refl _))))))) z_ar
      refine own_callVM (pc' := 134) (cells' := 10) (slots' := 102) (argsL := [(.ref a10)]) (rest := []) (W := 0) (y := (⟨"com/example/kentro/kentro/bound/NearestCandidates", "build", "([[J)J"⟩ : MethodName)) (z := (⟨"com/example/kentro/kentro/bound/NearestCandidates", "build", "([[J)J"⟩ : MethodName)) (a := a15) X29 (W 71 rfl) (W 72 rfl) (fun s' hZ' => notFace_of_selects (args := #[]) (mvT hZ' (W 74 rfl))) (W 74 rfl) (W 73 rfl) (by decide) p_Tb_E (own_build1 l Z a0 hw n0 a15 a10 kr kp ks kc (List.replicate n (0 : Int64)) ((if r0.toInt64 < 0 then 0 else r0.toInt64) :: (if r1.toInt64 < 0 then 0 else r1.toInt64) :: ((([0, 0, 0, 0, 0, 0, 0, 0] : List Int64).take (n - 2)).map (own_pv 4611686018427387903))) (List.replicate (n + 1) (0 : Int32)) (own_cl n (0 + own_in (if r0.toInt64 < 0 then 0 else r0.toInt64) xa + own_in (if r0.toInt64 < 0 then 0 else r0.toInt64) xc) (0 + own_in (if r1.toInt64 < 0 then 0 else r1.toInt64) xb + own_in (if r1.toInt64 < 0 then 0 else r1.toInt64) xd)) n ((0 + own_in (if r0.toInt64 < 0 then 0 else r0.toInt64) xa + own_in (if r0.toInt64 < 0 then 0 else r0.toInt64) xc) + (0 + own_in (if r1.toInt64 < 0 then 0 else r1.toInt64) xb + own_in (if r1.toInt64 < 0 then 0 else r1.toInt64) xd)) 2 1 (4611686018427387903 : Int64) (Int64.ofNat (n / 2)) ar ap as_ ac (Int64.ofNat ((0 + own_in (if r0.toInt64 < 0 then 0 else r0.toInt64) xa + own_in (if r1.toInt64 < 0 then 0 else r1.toInt64) xb) + own_in (if r0.toInt64 < 0 then 0 else r0.toInt64) xc + own_in (if r1.toInt64 < 0 then 0 else r1.toInt64) xd)) a4 a7 k10 k4 k7 xa xb xc xd (if r0.toInt64 < 0 then 0 else r0.toInt64) (if r1.toInt64 < 0 then 0 else r1.toInt64) ((([0, 0, 0, 0, 0, 0, 0, 0] : List Int64).take (n - 2)).map (own_pv 4611686018427387903)) (0 + own_in (if r0.toInt64 < 0 then 0 else r0.toInt64) xa + own_in (if r0.toInt64 < 0 then 0 else r0.toInt64) xc) (0 + own_in (if r1.toInt64 < 0 then 0 else r1.toInt64) xb + own_in (if r1.toInt64 < 0 then 0 else r1.toInt64) xd) h29 (own_old X29) ⟨p_Tb_E, p_Tb_candidateCount, p_Tb_bits, p_Tb_ceiling, p_Tb_capacity, p_Tb_radius, p_Tb_proposed, p_Tb_start, p_Tb_count, p_Tb_tallied, p_Tb_tallying, p_Tb_built, p_Tb_entry⟩ f34 f35 f36 p_cb n_a15 n_ar n_as_ n_ac q_ar_ap q_as_ac (by simp) (by simp; omega) (by simp) (own_cll p_n2) (by simp) (by omega) (by omega) (by rw [own_Ji (by omega)]; congr 1; omega) e_S rfl p_n2 f37 f38 f39 ne_a4_ar ne_a7_ar rfl rfl rfl (by omega) (by omega) (by omega) (by omega)) (W 75 rfl) (W 6 rfl) (by decide) (by decide) rfl (lenOf pd_11 rfl) rfl rfl at_131 rfl rfl rfl rfl (by decide) (by decide) ?_
      intro v40 T40 h40 X40 q40
      obtain ⟨rfl, K40, ae, p_B, p_ar3, p_as3⟩ := q40
      obtain ⟨p_B_E, p_B_candidateCount, p_B_bits, p_B_ceiling, p_B_capacity, p_B_radius, p_B_proposed, p_B_start, p_B_count, p_B_tallied, p_B_tallying, p_B_built, p_B_entry⟩ := p_B
      show G T40 (mkF m 134 #[.val (.int k), .val (.int r0), .val (.int r1), .val (.long xa), .second, .val (.long xb), .second, .val (.long xc), .second, .val (.int (Int32.ofNat n)), .val (.long xd), .second, .val (.ref a1), .val (.ref a4), .val (.ref a7), .val (.ref a10), .val (.ref a15), .val (.int (0 : Int32)), .val (.int (1 : Int32)), .val (.int (1 : Int32)), .unset, .unset, .unset, .unset, .unset, .unset, .unset, .unset, .unset, .unset, .unset, .unset, .unset, .unset, .unset, .unset, .unset, .unset, .unset, .unset, .unset] [(.long ((2 : Int32).toInt64 * (Int32.ofNat n).toInt64))])
      rw [show (2 : Int32).toInt64 = 2 from by decide]
      refine own_lstore (pc' := 136) X40 at_134 rfl (Ls' := #[.val (.int k), .val (.int r0), .val (.int r1), .val (.long xa), .second, .val (.long xb), .second, .val (.long xc), .second, .val (.int (Int32.ofNat n)), .val (.long xd), .second, .val (.ref a1), .val (.ref a4), .val (.ref a7), .val (.ref a10), .val (.ref a15), .val (.int (0 : Int32)), .val (.int (1 : Int32)), .val (.int (1 : Int32)), .val (.long (2 * (Int32.ofNat n).toInt64)), .second, .unset, .unset, .unset, .unset, .unset, .unset, .unset, .unset, .unset, .unset, .unset, .unset, .unset, .unset, .unset, .unset, .unset, .unset, .unset]) rfl ?_
      refine own_aload (pc' := 138) X40 at_136 rfl rfl rfl ?_
      refine own_iconst (pc' := 139) X40 at_138 rfl (z := (0 : Int32)) (by decide) ?_
      refine own_callVM (pc' := 142) (cells' := 10) (slots' := 102) (argsL := [(.int (0 : Int32))]) (rest := []) (W := 0) (y := (⟨"com/example/kentro/kentro/bound/NearestCandidates", "to", "(I)I"⟩ : MethodName)) (z := (⟨"com/example/kentro/kentro/bound/NearestCandidates", "to", "(I)I"⟩ : MethodName)) (a := a15) X40 (W 76 rfl) (W 77 rfl) (fun s' hZ' => notFace_of_selects (args := #[]) (mvT hZ' (W 79 rfl))) (W 79 rfl) (W 78 rfl) (by decide) p_B_E (own_to l Z a0 hw n0 a15 0 ks ((List.range (n + 1)).map (own_S (own_cl n (0 + own_in (if r0.toInt64 < 0 then 0 else r0.toInt64) xa + own_in (if r0.toInt64 < 0 then 0 else r0.toInt64) xc) (0 + own_in (if r1.toInt64 < 0 then 0 else r1.toInt64) xb + own_in (if r1.toInt64 < 0 then 0 else r1.toInt64) xd)))) (Int32.ofNat (own_in (if r0.toInt64 < 0 then 0 else r0.toInt64) xa + own_in (if r0.toInt64 < 0 then 0 else r0.toInt64) xc)) (2 : Int32) (1 : Int32) (4611686018427387903 : Int64) (Int64.ofNat (n / 2)) ar ap as_ ac (Int64.ofNat ((0 + own_in (if r0.toInt64 < 0 then 0 else r0.toInt64) xa + own_in (if r1.toInt64 < 0 then 0 else r1.toInt64) xb) + own_in (if r0.toInt64 < 0 then 0 else r0.toInt64) xc + own_in (if r1.toInt64 < 0 then 0 else r1.toInt64) xd)) (0 : Int32) (1 : Int32) (.ref ae) h40 (own_old X40) ⟨p_B_E, p_B_candidateCount, p_B_bits, p_B_ceiling, p_B_capacity, p_B_radius, p_B_proposed, p_B_start, p_B_count, p_B_tallied, p_B_tallying, p_B_built, p_B_entry⟩ p_as3 (by simp; omega) (by simp; omega) (by simp [List.getD, show 1 < n + 1 by omega, own_S, own_cl])) (W 80 rfl) (W 6 rfl) (by decide) (by decide) rfl (lenOf pd_1 rfl) rfl rfl at_139 rfl rfl rfl rfl (by decide) (by decide) ?_
      intro v41 T41 h41 X41 q41
      obtain ⟨rfl, rfl⟩ := q41
      show G T41 (mkF m 142 #[.val (.int k), .val (.int r0), .val (.int r1), .val (.long xa), .second, .val (.long xb), .second, .val (.long xc), .second, .val (.int (Int32.ofNat n)), .val (.long xd), .second, .val (.ref a1), .val (.ref a4), .val (.ref a7), .val (.ref a10), .val (.ref a15), .val (.int (0 : Int32)), .val (.int (1 : Int32)), .val (.int (1 : Int32)), .val (.long (2 * (Int32.ofNat n).toInt64)), .second, .unset, .unset, .unset, .unset, .unset, .unset, .unset, .unset, .unset, .unset, .unset, .unset, .unset, .unset, .unset, .unset, .unset, .unset, .unset] [(.int (Int32.ofNat (own_in (if r0.toInt64 < 0 then 0 else r0.toInt64) xa + own_in (if r0.toInt64 < 0 then 0 else r0.toInt64) xc)))])
      refine own_istore (pc' := 144) X41 at_142 rfl (Ls' := #[.val (.int k), .val (.int r0), .val (.int r1), .val (.long xa), .second, .val (.long xb), .second, .val (.long xc), .second, .val (.int (Int32.ofNat n)), .val (.long xd), .second, .val (.ref a1), .val (.ref a4), .val (.ref a7), .val (.ref a10), .val (.ref a15), .val (.int (0 : Int32)), .val (.int (1 : Int32)), .val (.int (1 : Int32)), .val (.long (2 * (Int32.ofNat n).toInt64)), .second, .val (.int (Int32.ofNat (own_in (if r0.toInt64 < 0 then 0 else r0.toInt64) xa + own_in (if r0.toInt64 < 0 then 0 else r0.toInt64) xc))), .unset, .unset, .unset, .unset, .unset, .unset, .unset, .unset, .unset, .unset, .unset, .unset, .unset, .unset, .unset, .unset, .unset, .unset]) rfl ?_
      refine own_aload (pc' := 146) X41 at_144 rfl rfl rfl ?_
      refine own_iconst (pc' := 147) X41 at_146 rfl (z := (1 : Int32)) (by decide) ?_
      refine own_callVM (pc' := 150) (cells' := 10) (slots' := 102) (argsL := [(.int (1 : Int32))]) (rest := []) (W := 0) (y := (⟨"com/example/kentro/kentro/bound/NearestCandidates", "to", "(I)I"⟩ : MethodName)) (z := (⟨"com/example/kentro/kentro/bound/NearestCandidates", "to", "(I)I"⟩ : MethodName)) (a := a15) X41 (W 76 rfl) (W 77 rfl) (fun s' hZ' => notFace_of_selects (args := #[]) (mvT hZ' (W 79 rfl))) (W 79 rfl) (W 78 rfl) (by decide) p_B_E (own_to l Z a0 hw n0 a15 1 ks ((List.range (n + 1)).map (own_S (own_cl n (0 + own_in (if r0.toInt64 < 0 then 0 else r0.toInt64) xa + own_in (if r0.toInt64 < 0 then 0 else r0.toInt64) xc) (0 + own_in (if r1.toInt64 < 0 then 0 else r1.toInt64) xb + own_in (if r1.toInt64 < 0 then 0 else r1.toInt64) xd)))) (Int32.ofNat (own_in (if r0.toInt64 < 0 then 0 else r0.toInt64) xa + own_in (if r0.toInt64 < 0 then 0 else r0.toInt64) xc + (own_in (if r1.toInt64 < 0 then 0 else r1.toInt64) xb + own_in (if r1.toInt64 < 0 then 0 else r1.toInt64) xd))) (2 : Int32) (1 : Int32) (4611686018427387903 : Int64) (Int64.ofNat (n / 2)) ar ap as_ ac (Int64.ofNat ((0 + own_in (if r0.toInt64 < 0 then 0 else r0.toInt64) xa + own_in (if r1.toInt64 < 0 then 0 else r1.toInt64) xb) + own_in (if r0.toInt64 < 0 then 0 else r0.toInt64) xc + own_in (if r1.toInt64 < 0 then 0 else r1.toInt64) xd)) (0 : Int32) (1 : Int32) (.ref ae) h40 (own_old X41) ⟨p_B_E, p_B_candidateCount, p_B_bits, p_B_ceiling, p_B_capacity, p_B_radius, p_B_proposed, p_B_start, p_B_count, p_B_tallied, p_B_tallying, p_B_built, p_B_entry⟩ p_as3 (by simp; omega) (by simp; omega) (by rw [List.getD, own_YSi (by omega)]; show own_S _ (0 + 2) = _; rw [own_S2, own_add32 (by omega) (by omega)]; congr 1; omega)) (W 80 rfl) (W 6 rfl) (by decide) (by decide) rfl (lenOf pd_1 rfl) rfl rfl at_147 rfl rfl rfl rfl (by decide) (by decide) ?_
      intro v42 T42 h42 X42 q42
      obtain ⟨rfl, rfl⟩ := q42
      show G T42 (mkF m 150 #[.val (.int k), .val (.int r0), .val (.int r1), .val (.long xa), .second, .val (.long xb), .second, .val (.long xc), .second, .val (.int (Int32.ofNat n)), .val (.long xd), .second, .val (.ref a1), .val (.ref a4), .val (.ref a7), .val (.ref a10), .val (.ref a15), .val (.int (0 : Int32)), .val (.int (1 : Int32)), .val (.int (1 : Int32)), .val (.long (2 * (Int32.ofNat n).toInt64)), .second, .val (.int (Int32.ofNat (own_in (if r0.toInt64 < 0 then 0 else r0.toInt64) xa + own_in (if r0.toInt64 < 0 then 0 else r0.toInt64) xc))), .unset, .unset, .unset, .unset, .unset, .unset, .unset, .unset, .unset, .unset, .unset, .unset, .unset, .unset, .unset, .unset, .unset, .unset] [(.int (Int32.ofNat (own_in (if r0.toInt64 < 0 then 0 else r0.toInt64) xa + own_in (if r0.toInt64 < 0 then 0 else r0.toInt64) xc + (own_in (if r1.toInt64 < 0 then 0 else r1.toInt64) xb + own_in (if r1.toInt64 < 0 then 0 else r1.toInt64) xd))))])
      refine own_istore (pc' := 152) X42 at_150 rfl (Ls' := #[.val (.int k), .val (.int r0), .val (.int r1), .val (.long xa), .second, .val (.long xb), .second, .val (.long xc), .second, .val (.int (Int32.ofNat n)), .val (.long xd), .second, .val (.ref a1), .val (.ref a4), .val (.ref a7), .val (.ref a10), .val (.ref a15), .val (.int (0 : Int32)), .val (.int (1 : Int32)), .val (.int (1 : Int32)), .val (.long (2 * (Int32.ofNat n).toInt64)), .second, .val (.int (Int32.ofNat (own_in (if r0.toInt64 < 0 then 0 else r0.toInt64) xa + own_in (if r0.toInt64 < 0 then 0 else r0.toInt64) xc))), .val (.int (Int32.ofNat (own_in (if r0.toInt64 < 0 then 0 else r0.toInt64) xa + own_in (if r0.toInt64 < 0 then 0 else r0.toInt64) xc + (own_in (if r1.toInt64 < 0 then 0 else r1.toInt64) xb + own_in (if r1.toInt64 < 0 then 0 else r1.toInt64) xd)))), .unset, .unset, .unset, .unset, .unset, .unset, .unset, .unset, .unset, .unset, .unset, .unset, .unset, .unset, .unset, .unset, .unset]) rfl ?_
      exact own_152 hw k r0 r1 xa xb xc xd n a1 a4 a7 a10 a15 (1 : Int32) (2 * (Int32.ofNat n).toInt64) (Int32.ofNat (own_in (if r0.toInt64 < 0 then 0 else r0.toInt64) xa + own_in (if r0.toInt64 < 0 then 0 else r0.toInt64) xc)) (Int32.ofNat (own_in (if r0.toInt64 < 0 then 0 else r0.toInt64) xa + own_in (if r0.toInt64 < 0 then 0 else r0.toInt64) xc + (own_in (if r1.toInt64 < 0 then 0 else r1.toInt64) xb + own_in (if r1.toInt64 < 0 then 0 else r1.toInt64) xd))) (own_mono X42 (by decide : 10 ≤ 13) (by decide : 102 ≤ 120)) hGe p_n2 p_n9 (if_neg (by omega)).symm (if_pos ⟨by omega, by omega⟩).symm (if_pos ⟨by omega, by omega⟩).symm (if_pos ⟨by omega, by omega⟩).symm
set_option maxRecDepth 65536 in
set_option maxHeartbeats 40000000 in
theorem comes_1 {Post : Tables → Env → Array Value → State → Outcome → State → Prop} (hpost : ∀ tb e args s v u, (limb_1_1.after args s (.returned v) u = true ∧ limb_1_2.after args s (.returned v) u = true ∧ True) → FrameEnd s (.returned v) u (Jvm.fieldLocs frame_1_writes args s ++ Jvm.arrayLocs frame_1_arrays args s ++ Jvm.staticLocs frame_1_statics s) 32 256 → Post tb e args s (.returned v) u) :
    ArmFor flags0 classFile x code maxLocals ret World_1 tables_1 room_1 Calls_1 rest_1 Pre_1 Post := by
  intro l hfl _ _ p e ha hc hk s m args below hf hA hF happ hP
  obtain ⟨hcalls, hrest, hpre⟩ := hP
  obtain ⟨-, -, -, hnamed, -, -, -, hat⟩ := (Spec.applies_iff hf).mp happ
  obtain ⟨hg, hn⟩ := and_e (Cond.before_iff.mp (show (Jvm.Cond.and given_1 narrow_1).before args s = true from hpre))
  obtain ⟨h1, g0⟩ := and_e hg
  obtain ⟨b0, g1⟩ := and_e g0
  obtain ⟨b1, g2⟩ := and_e g1
  obtain ⟨b2, g3⟩ := and_e g2
  obtain ⟨b3, g4⟩ := and_e g3
  obtain ⟨b4, g5⟩ := and_e g4
  have b5 := g5
  obtain ⟨w0, w1, w2, w3, w4, w5, rfl⟩ : ∃ w0 w1 w2 w3 w4 w5 : Value, args = #[w0, w1, w2, w3, w4, w5] := by
    have hs : args.size = 6 := by simpa [Cond.value, given_1] using h1
    obtain ⟨L⟩ := args
    match L, hs with
    | [w0, w1, w2, w3, w4, w5], _ => exact ⟨w0, w1, w2, w3, w4, w5, rfl⟩
  have hw := fun d (hd : d ∈ tables_1) => atoms_spec (ws := Jvm.Cond.code x code maxLocals ret :: tables_1) hat d (List.mem_cons_of_mem _ hd)
  have hfit : Fit s := fun {y c} hc i hi => by
    obtain ⟨ha, rfl⟩ := Array.getElem?_eq_some_iff.mp hc
    have q := List.all_eq_true.mp ((Array.all_eq_true_iff_forall_mem.mp hF) _ (Array.getElem_mem ha)) i (List.mem_range.mpr hi)
    simpa [Array.getElem?_eq_getElem hi] using q
  obtain ⟨i0, e0⟩ := is_v b0
  obtain rfl : w0 = (.int i0) := Option.some.inj e0
  obtain ⟨i1, e1⟩ := is_v b1
  obtain rfl : w1 = (.int i1) := Option.some.inj e1
  obtain ⟨i2, e2⟩ := is_v b2
  obtain rfl : w2 = (.int i2) := Option.some.inj e2
  obtain ⟨i3, e3⟩ := isL_v b3
  obtain rfl : w3 = (.long i3) := Option.some.inj e3
  obtain ⟨i4, e4⟩ := isL_v b4
  obtain rfl : w4 = (.long i4) := Option.some.inj e4
  obtain ⟨i5, e5⟩ := isL_v b5
  obtain rfl : w5 = (.long i5) := Option.some.inj e5
  obtain ⟨n, o, h1, h2, h3, _, L, rfl, ⟨rfl, N, -⟩, hq⟩ := own_law l s _ hw s.heap.size i0 i1 i2 i3 i4 i5 s.heap (Old.start s)  tables_1 p e ha hc hk s m _ below hf ((Spec.applies_iff_loose hf).mp happ).1 ⟨rfl, State.Warmed39.refl s, rfl⟩ trivial
  refine ⟨n, _, h1, h2, h3, hpost _ _ _ _ _ _ ⟨Cond.after_iff.mpr rfl, Cond.after_iff.mpr (eq_i res_at (Term.int_eval (1)) rfl), trivial⟩ ⟨hq.1, hq.2.1, (hq.2.2.sift fun y hy => Or.inr (N y hy)).mono (by decide) (by decide)⟩⟩
theorem main_1_1 : Claimed_1_1 := comes_1 fun _ _ _ _ _ _ h hF => ⟨h.1, hF⟩
theorem main_1_2 : Claimed_1_2 := comes_1 fun _ _ _ _ _ _ h hF => ⟨h.2.1, hF⟩
end Jvm.Pilot.@@N@@
namespace Jvm.Pilot.@@N@@
open Jvm Jvm.ClassFile Sem Op Lib Jvm.Free Jvm.Stand Jvm.Pilot.@@N@@.Jvm.D
/-! MADE BY PROGRAM (witnessworld.py) out of the Statement's table words and the real class files: 20 classes; the members and pool entries that the words name. The judged class is class 1, her method 1. -/
namespace start1
open Jvm.ClassFile
def u (s : String) : CpInfo := .utf8 (stringToUtf16 s)
/-- a pool by its gaps: so many unusable entries, then the entry; so many at the end -/
def gap : Nat → List CpInfo → List CpInfo
  | 0, r => r
  | n + 1, r => .unusable :: gap n r
def poolList (es : List (Nat × CpInfo)) (last : Nat) : List CpInfo := es.foldr (fun e r => gap e.1 (e.2 :: r)) (gap last [])
def pool (es : List (Nat × CpInfo)) (last : Nat) : Array CpInfo := ⟨poolList es last⟩
def fileOf (pool : Array CpInfo) (this : Nat) (attrs : Array Attribute := #[]) (ms : Array MethodInfo := #[]) (fl : Nat := 33) (sup : Nat := 0) (ifs : Array Nat := #[]) (fds : Array FieldInfo := #[]) : ClassFile where
  minorVersion := 0
  majorVersion := 65
  constantPool := pool
  accessFlags := fl
  thisClass := this
  superClass := sup
  interfaces := ifs
  fields := fds
  methods := ms
  attributes := attrs
def plain (name : String) (sup : Option ClassId) : Class where
  name := name
  kind := .ordinary
  loader := none
  accessFlags := 33
  super := sup
  interfaces := #[]
  cf := none
  fields := #[]
  methods := #[]
  instanceTypes := #[]
  staticTypes := #[]
  resolved := #[]
  callSites := []
  init := .initialized
  statics := none
  mirror := none

def pool0 : Array CpInfo := pool [(5, u "<init>"), (0, u "()V"), (1, .class_ 10), (1, u "java/lang/Object")] 113

def k0c0 : Code := { maxStack := 0, maxLocals := 1, code := object_method_1_code, exceptionTable := #[], attributes := #[] }
def k0m0 : Method := { name := "<init>", desc := "()V", sig := { parameters := [], returnType := none }, accessFlags := 1, code := some k0c0 }
/-- java/lang/Object -/
def k0 : Class := { plain "java/lang/Object" none with
  accessFlags := 33
  interfaces := #[]
  cf := some (fileOf pool0 8 #[] #[{ accessFlags := 1, nameIndex := 5, descriptorIndex := 6, attributes := #[] }] 33 0 #[] #[])
  fields := #[]
  methods := #[k0m0]
  instanceTypes := #[]
  staticTypes := #[]
  resolved := Array.replicate 124 none
  statics := none }

def pool1 : Array CpInfo := pool [(2, .class_ 4), (1, u "java/lang/Object"), (0, u "<init>"), (0, u "()V"), (0, .class_ 8), (0, u "[J"), (0, .class_ 10), (0, u "com/example/kentro/kentro/bound/NearestCandidates"), (2, .long 9223372036854775807), (1, .methodref 9 16), (0, .nameAndType 5 17), (0, u "(IIJ)V"), (0, .methodref 9 19), (0, .nameAndType 20 21), (0, u "tally"), (0, u "([J)Z"), (0, .methodref 9 23), (0, .nameAndType 24 25), (0, u "propose"), (0, u "([JJ)V"), (0, .methodref 9 27), (0, .nameAndType 28 29), (0, u "build"), (0, u "([[J)J"), (0, .methodref 9 31), (0, .nameAndType 32 33), (0, u "to"), (0, u "(I)I"), (0, .methodref 35 36), (0, .class_ 37), (0, .nameAndType 38 39), (0, u "java/lang/Math"), (0, u "max"), (0, u "(JJ)J"), (0, .long 2), (1, .class_ 43), (0, u "com/example/kentro/kentro/bound/NearestCandidatesTallyPinLaw"), (2, u "law"), (0, u "(IIIJJJ)Z")] 5

def k1m0 : Method := { name := "<init>", desc := "()V", sig := { parameters := [], returnType := none }, accessFlags := 1, code := none }
def k1c1 : Code := { maxStack := 6, maxLocals := 41, code := code, exceptionTable := #[], attributes := #[] }
def k1m1 : Method := { name := "law", desc := "(IIIJJJ)Z", sig := { parameters := [.int, .int, .int, .long, .long, .long], returnType := some .boolean }, accessFlags := 9, code := some k1c1 }
/-- com/example/kentro/kentro/bound/NearestCandidatesTallyPinLaw -/
def k1 : Class := { plain "com/example/kentro/kentro/bound/NearestCandidatesTallyPinLaw" (some 0) with
  accessFlags := 49
  interfaces := #[]
  cf := some (fileOf pool1 42 #[] #[{ accessFlags := 1, nameIndex := 5, descriptorIndex := 6, attributes := #[] }, { accessFlags := 9, nameIndex := 46, descriptorIndex := 47, attributes := #[] }] 49 2 #[] #[])
  fields := #[]
  methods := #[k1m0, k1m1]
  instanceTypes := #[]
  staticTypes := #[]
  resolved := Array.replicate 53 none
  statics := none }

def pool2 : Array CpInfo := pool [(1, .methodref 2 3), (0, .class_ 4), (0, .nameAndType 5 6), (0, u "java/lang/Object"), (0, u "<init>"), (0, u "()V"), (0, .fieldref 8 9), (0, .class_ 10), (0, .nameAndType 11 12), (0, u "com/example/kentro/kentro/bound/NearestCandidates"), (0, u "candidateCount"), (0, u "I"), (0, .class_ 14), (0, u "java/lang/Integer"), (0, .methodref 13 16), (0, .nameAndType 17 18), (0, u "numberOfLeadingZeros"), (0, u "(I)I"), (0, .fieldref 8 20), (0, .nameAndType 21 12), (0, u "bits"), (0, .fieldref 8 23), (0, .nameAndType 24 25), (0, u "mask"), (0, u "J"), (2, .long 9223372036854775807), (1, .methodref 31 32), (0, .class_ 33), (0, .nameAndType 34 35), (0, u "java/lang/Math"), (0, u "min"), (0, u "(JJ)J"), (0, .fieldref 8 37), (0, .nameAndType 38 25), (0, u "ceiling"), (0, .methodref 8 40), (0, .nameAndType 41 42), (0, u "capacity"), (0, u "(II)J"), (0, .fieldref 8 44), (0, .nameAndType 41 25), (0, .fieldref 8 46), (0, .nameAndType 47 48), (0, u "radius"), (0, u "[J"), (0, .fieldref 8 50), (0, .nameAndType 51 48), (0, u "proposed"), (0, .fieldref 8 53), (0, .nameAndType 54 55), (0, u "start"), (0, u "[I"), (0, .fieldref 8 57), (0, .nameAndType 58 55), (0, u "count"), (2, .long 4), (1, .long 2147483639), (1, .fieldref 8 66), (0, .nameAndType 67 68), (0, u "built"), (0, u "Z"), (0, .methodref 31 70), (0, .nameAndType 71 35), (0, u "max"), (0, .methodref 73 74), (0, .class_ 75), (0, .nameAndType 76 77), (0, u "java/util/Arrays"), (0, u "fill"), (0, u "([II)V"), (0, .fieldref 8 79), (0, .nameAndType 80 25), (0, u "tallied"), (0, .fieldref 8 82), (0, .nameAndType 83 68), (0, u "tallying"), (0, .fieldref 8 85), (0, .nameAndType 86 48), (0, u "entry"), (0, .methodref 73 88), (0, .nameAndType 89 90), (0, u "sort"), (0, u "([JII)V"), (0, .methodref 92 93), (0, .class_ 94), (0, .nameAndType 95 96), (0, u "java/lang/System"), (0, u "arraycopy"), (0, u "(Ljava/lang/Object;ILjava/lang/Object;II)V"), (2, u "SHARE"), (2, u "(IIJ)V"), (4, u "([J)Z"), (1, u "propose"), (0, u "([JJ)V"), (1, u "tally"), (0, u "build"), (0, u "([[J)J"), (1, u "to")] 8

def k2c0 : Code := { maxStack := 6, maxLocals := 5, code := prog_7_method_1_code, exceptionTable := #[], attributes := #[] }
def k2m0 : Method := { name := "<init>", desc := "(IIJ)V", sig := { parameters := [.int, .int, .long], returnType := none }, accessFlags := 0, code := some k2c0 }
def k2c1 : Code := { maxStack := 4, maxLocals := 4, code := prog_7_method_3_code, exceptionTable := #[], attributes := #[] }
def k2m1 : Method := { name := "capacity", desc := "(II)J", sig := { parameters := [.int, .int], returnType := some .long }, accessFlags := 10, code := some k2c1 }
def k2c2 : Code := { maxStack := 8, maxLocals := 7, code := prog_7_method_5_code, exceptionTable := #[], attributes := #[] }
def k2m2 : Method := { name := "propose", desc := "([JJ)V", sig := { parameters := [(.array .long), .long], returnType := none }, accessFlags := 0, code := some k2c2 }
def k2c3 : Code := { maxStack := 5, maxLocals := 5, code := prog_7_method_6_code, exceptionTable := #[], attributes := #[] }
def k2m3 : Method := { name := "tally", desc := "([J)Z", sig := { parameters := [(.array .long)], returnType := some .boolean }, accessFlags := 0, code := some k2c3 }
def k2c4 : Code := { maxStack := 6, maxLocals := 5, code := prog_7_method_7_code, exceptionTable := #[], attributes := #[] }
def k2m4 : Method := { name := "build", desc := "([[J)J", sig := { parameters := [(.array (.array .long))], returnType := some .long }, accessFlags := 0, code := some k2c4 }
def k2c5 : Code := { maxStack := 3, maxLocals := 2, code := prog_7_method_9_code, exceptionTable := #[], attributes := #[] }
def k2m5 : Method := { name := "to", desc := "(I)I", sig := { parameters := [.int], returnType := some .int }, accessFlags := 0, code := some k2c5 }
/-- com/example/kentro/kentro/bound/NearestCandidates -/
def k2 : Class := { plain "com/example/kentro/kentro/bound/NearestCandidates" (some 0) with
  accessFlags := 48
  interfaces := #[]
  cf := some (fileOf pool2 8 #[] #[{ accessFlags := 0, nameIndex := 5, descriptorIndex := 102, attributes := #[] }, { accessFlags := 10, nameIndex := 41, descriptorIndex := 42, attributes := #[] }, { accessFlags := 0, nameIndex := 109, descriptorIndex := 110, attributes := #[] }, { accessFlags := 0, nameIndex := 112, descriptorIndex := 107, attributes := #[] }, { accessFlags := 0, nameIndex := 113, descriptorIndex := 114, attributes := #[] }, { accessFlags := 0, nameIndex := 116, descriptorIndex := 18, attributes := #[] }] 48 2 #[] #[{ accessFlags := 26, nameIndex := 99, descriptorIndex := 12, attributes := #[] }, { accessFlags := 18, nameIndex := 11, descriptorIndex := 12, attributes := #[] }, { accessFlags := 18, nameIndex := 21, descriptorIndex := 12, attributes := #[] }, { accessFlags := 18, nameIndex := 24, descriptorIndex := 25, attributes := #[] }, { accessFlags := 18, nameIndex := 38, descriptorIndex := 25, attributes := #[] }, { accessFlags := 18, nameIndex := 41, descriptorIndex := 25, attributes := #[] }, { accessFlags := 18, nameIndex := 47, descriptorIndex := 48, attributes := #[] }, { accessFlags := 18, nameIndex := 51, descriptorIndex := 48, attributes := #[] }, { accessFlags := 18, nameIndex := 54, descriptorIndex := 55, attributes := #[] }, { accessFlags := 18, nameIndex := 58, descriptorIndex := 55, attributes := #[] }, { accessFlags := 2, nameIndex := 80, descriptorIndex := 25, attributes := #[] }, { accessFlags := 2, nameIndex := 83, descriptorIndex := 68, attributes := #[] }, { accessFlags := 2, nameIndex := 67, descriptorIndex := 68, attributes := #[] }, { accessFlags := 2, nameIndex := 86, descriptorIndex := 48, attributes := #[] }])
  fields := #[{ name := "SHARE", type := .int, accessFlags := 26, slot := 0, constantValue := 0 }, { name := "candidateCount", type := .int, accessFlags := 18, slot := 0, constantValue := 0 }, { name := "bits", type := .int, accessFlags := 18, slot := 1, constantValue := 0 }, { name := "mask", type := .long, accessFlags := 18, slot := 2, constantValue := 0 }, { name := "ceiling", type := .long, accessFlags := 18, slot := 3, constantValue := 0 }, { name := "capacity", type := .long, accessFlags := 18, slot := 4, constantValue := 0 }, { name := "radius", type := (.array .long), accessFlags := 18, slot := 5, constantValue := 0 }, { name := "proposed", type := (.array .long), accessFlags := 18, slot := 6, constantValue := 0 }, { name := "start", type := (.array .int), accessFlags := 18, slot := 7, constantValue := 0 }, { name := "count", type := (.array .int), accessFlags := 18, slot := 8, constantValue := 0 }, { name := "tallied", type := .long, accessFlags := 2, slot := 9, constantValue := 0 }, { name := "tallying", type := .boolean, accessFlags := 2, slot := 10, constantValue := 0 }, { name := "built", type := .boolean, accessFlags := 2, slot := 11, constantValue := 0 }, { name := "entry", type := (.array .long), accessFlags := 2, slot := 12, constantValue := 0 }]
  methods := #[k2m0, k2m1, k2m2, k2m3, k2m4, k2m5]
  instanceTypes := #[.int, .int, .long, .long, .long, (.array .long), (.array .long), (.array .int), (.array .int), .long, .boolean, .boolean, (.array .long)]
  staticTypes := #[.int]
  resolved := Array.replicate 125 none
  statics := none }

def pool3 : Array CpInfo := pool [(1, .class_ 2), (0, u "java/io/Serializable"), (0, .class_ 4), (0, u "java/lang/Object")] 2

/-- java/io/Serializable -/
def k3 : Class := { plain "java/io/Serializable" (some 0) with
  accessFlags := 1537
  interfaces := #[]
  cf := some (fileOf pool3 1 #[] #[] 1537 3 #[] #[])
  fields := #[]
  methods := #[]
  instanceTypes := #[]
  staticTypes := #[]
  resolved := Array.replicate 7 none
  statics := none }

def pool4 : Array CpInfo := pool [(2, .class_ 4), (1, u "java/lang/Object"), (0, u "<init>"), (0, u "()V"), (1, .class_ 10), (1, u "java/lang/Number"), (2, .class_ 14), (0, u "java/io/Serializable"), (0, u "serialVersionUID"), (0, u "J")] 20

def k4m0 : Method := { name := "<init>", desc := "()V", sig := { parameters := [], returnType := none }, accessFlags := 1, code := none }
/-- java/lang/Number -/
def k4 : Class := { plain "java/lang/Number" (some 0) with
  accessFlags := 1057
  interfaces := #[3]
  cf := some (fileOf pool4 8 #[] #[{ accessFlags := 1, nameIndex := 5, descriptorIndex := 6, attributes := #[] }] 1057 2 #[13] #[{ accessFlags := 26, nameIndex := 15, descriptorIndex := 16, attributes := #[] }])
  fields := #[{ name := "serialVersionUID", type := .long, accessFlags := 26, slot := 0, constantValue := 0 }]
  methods := #[k4m0]
  instanceTypes := #[]
  staticTypes := #[.long]
  resolved := Array.replicate 37 none
  statics := none }

def pool5 : Array CpInfo := pool [(1, .class_ 2), (0, u "java/lang/Comparable"), (0, .class_ 4), (0, u "java/lang/Object")] 7

/-- java/lang/Comparable -/
def k5 : Class := { plain "java/lang/Comparable" (some 0) with
  accessFlags := 1537
  interfaces := #[]
  cf := some (fileOf pool5 1 #[] #[] 1537 3 #[] #[])
  fields := #[]
  methods := #[]
  instanceTypes := #[]
  staticTypes := #[]
  resolved := Array.replicate 12 none
  statics := none }

def pool6 : Array CpInfo := pool [(1, .class_ 2), (0, u "java/lang/constant/Constable"), (0, .class_ 4), (0, u "java/lang/Object")] 6

/-- java/lang/constant/Constable -/
def k6 : Class := { plain "java/lang/constant/Constable" (some 0) with
  accessFlags := 1537
  interfaces := #[]
  cf := some (fileOf pool6 1 #[] #[] 1537 3 #[] #[])
  fields := #[]
  methods := #[]
  instanceTypes := #[]
  staticTypes := #[]
  resolved := Array.replicate 11 none
  statics := none }

def pool7 : Array CpInfo := pool [(1, .class_ 2), (0, u "java/lang/constant/ConstantDesc"), (0, .class_ 4), (0, u "java/lang/Object")] 32

/-- java/lang/constant/ConstantDesc -/
def k7 : Class := { plain "java/lang/constant/ConstantDesc" (some 0) with
  accessFlags := 1537
  interfaces := #[]
  cf := some (fileOf pool7 1 #[] #[] 1537 3 #[] #[])
  fields := #[]
  methods := #[]
  instanceTypes := #[]
  staticTypes := #[]
  resolved := Array.replicate 37 none
  statics := none }

def pool8 : Array CpInfo := pool [(1, .class_ 2), (0, u "java/lang/Integer"), (16, u "digits"), (0, u "[C"), (32, u "numberOfLeadingZeros"), (0, u "(I)I"), (30, u "DigitOnes"), (0, u "[B"), (2, u "DigitTens"), (99, .class_ 190), (0, u "java/lang/Integer$IntegerCache"), (3, u "I"), (8, .class_ 204), (0, u "java/lang/Number"), (2, u "value"), (56, .integer 65536), (37, u "TYPE"), (0, u "Ljava/lang/Class;"), (0, .class_ 305), (0, u "java/lang/Comparable"), (0, .class_ 307), (0, u "java/lang/constant/Constable"), (0, .class_ 309), (0, u "java/lang/constant/ConstantDesc"), (0, u "MIN_VALUE"), (1, u "MAX_VALUE"), (3, u "SIZE"), (1, u "BYTES"), (1, u "serialVersionUID"), (0, u "J")] 131

def k8c0 : Code := { maxStack := 3, maxLocals := 2, code := jdk_33_method_47_code, exceptionTable := #[], attributes := #[] }
def k8m0 : Method := { name := "numberOfLeadingZeros", desc := "(I)I", sig := { parameters := [.int], returnType := some .int }, accessFlags := 9, code := some k8c0 }
/-- java/lang/Integer -/
def k8 : Class := { plain "java/lang/Integer" (some 4) with
  accessFlags := 49
  interfaces := #[5, 6, 7]
  cf := some (fileOf pool8 1 #[.nestMembers #[189]] #[{ accessFlags := 9, nameIndex := 53, descriptorIndex := 54, attributes := #[] }] 49 203 #[304, 306, 308] #[{ accessFlags := 25, nameIndex := 310, descriptorIndex := 194, attributes := #[] }, { accessFlags := 25, nameIndex := 312, descriptorIndex := 194, attributes := #[] }, { accessFlags := 25, nameIndex := 302, descriptorIndex := 303, attributes := #[] }, { accessFlags := 24, nameIndex := 19, descriptorIndex := 20, attributes := #[] }, { accessFlags := 24, nameIndex := 89, descriptorIndex := 86, attributes := #[] }, { accessFlags := 24, nameIndex := 85, descriptorIndex := 86, attributes := #[] }, { accessFlags := 18, nameIndex := 207, descriptorIndex := 194, attributes := #[] }, { accessFlags := 25, nameIndex := 316, descriptorIndex := 194, attributes := #[] }, { accessFlags := 25, nameIndex := 318, descriptorIndex := 194, attributes := #[] }, { accessFlags := 26, nameIndex := 320, descriptorIndex := 321, attributes := #[] }])
  fields := #[{ name := "MIN_VALUE", type := .int, accessFlags := 25, slot := 0, constantValue := 0 }, { name := "MAX_VALUE", type := .int, accessFlags := 25, slot := 1, constantValue := 0 }, { name := "TYPE", type := (.object "java/lang/Class"), accessFlags := 25, slot := 2, constantValue := 0 }, { name := "digits", type := (.array .char), accessFlags := 24, slot := 3, constantValue := 0 }, { name := "DigitTens", type := (.array .byte), accessFlags := 24, slot := 4, constantValue := 0 }, { name := "DigitOnes", type := (.array .byte), accessFlags := 24, slot := 5, constantValue := 0 }, { name := "value", type := .int, accessFlags := 18, slot := 0, constantValue := 0 }, { name := "SIZE", type := .int, accessFlags := 25, slot := 6, constantValue := 0 }, { name := "BYTES", type := .int, accessFlags := 25, slot := 7, constantValue := 0 }, { name := "serialVersionUID", type := .long, accessFlags := 26, slot := 8, constantValue := 0 }]
  methods := #[k8m0]
  instanceTypes := #[.int]
  staticTypes := #[.int, .int, (.object "java/lang/Class"), (.array .char), (.array .byte), (.array .byte), .int, .int, .long]
  resolved := Array.replicate 453 none
  statics := none }

def pool9 : Array CpInfo := pool [(1, .class_ 2), (0, u "java/lang/Math"), (1, .class_ 6), (1, u "java/lang/Object"), (0, u "<init>"), (0, u "()V"), (89, .class_ 100), (1, u "java/lang/Math$RandomNumberGeneratorHolder"), (20, u "(JJ)J"), (50, u "negativeZeroFloatBits"), (0, u "J"), (2, u "negativeZeroDoubleBits"), (21, u "max"), (2, u "min"), (43, u "$assertionsDisabled"), (0, u "Z"), (91, u "twoToTheDoubleScaleDown"), (0, u "D"), (4, u "twoToTheDoubleScaleUp"), (9, u "E"), (3, u "PI"), (2, u "TAU"), (2, u "DEGREES_TO_RADIANS"), (0, u "RADIANS_TO_DEGREES")] 94

def k9m0 : Method := { name := "<init>", desc := "()V", sig := { parameters := [], returnType := none }, accessFlags := 2, code := none }
def k9c1 : Code := { maxStack := 4, maxLocals := 4, code := jdk_29_method_66_code, exceptionTable := #[], attributes := #[] }
def k9m1 : Method := { name := "max", desc := "(JJ)J", sig := { parameters := [.long, .long], returnType := some .long }, accessFlags := 9, code := some k9c1 }
def k9c2 : Code := { maxStack := 4, maxLocals := 4, code := jdk_29_method_70_code, exceptionTable := #[], attributes := #[] }
def k9m2 : Method := { name := "min", desc := "(JJ)J", sig := { parameters := [.long, .long], returnType := some .long }, accessFlags := 9, code := some k9c2 }
/-- java/lang/Math -/
def k9 : Class := { plain "java/lang/Math" (some 0) with
  accessFlags := 49
  interfaces := #[]
  cf := some (fileOf pool9 1 #[.nestMembers #[98]] #[{ accessFlags := 2, nameIndex := 7, descriptorIndex := 8, attributes := #[] }, { accessFlags := 9, nameIndex := 198, descriptorIndex := 121, attributes := #[] }, { accessFlags := 9, nameIndex := 201, descriptorIndex := 121, attributes := #[] }] 49 4 #[] #[{ accessFlags := 25, nameIndex := 354, descriptorIndex := 339, attributes := #[] }, { accessFlags := 25, nameIndex := 358, descriptorIndex := 339, attributes := #[] }, { accessFlags := 25, nameIndex := 361, descriptorIndex := 339, attributes := #[] }, { accessFlags := 26, nameIndex := 364, descriptorIndex := 339, attributes := #[] }, { accessFlags := 26, nameIndex := 365, descriptorIndex := 339, attributes := #[] }, { accessFlags := 26, nameIndex := 172, descriptorIndex := 173, attributes := #[] }, { accessFlags := 26, nameIndex := 176, descriptorIndex := 173, attributes := #[] }, { accessFlags := 8, nameIndex := 344, descriptorIndex := 339, attributes := #[] }, { accessFlags := 8, nameIndex := 338, descriptorIndex := 339, attributes := #[] }, { accessFlags := 4120, nameIndex := 245, descriptorIndex := 246, attributes := #[] }])
  fields := #[{ name := "E", type := .double, accessFlags := 25, slot := 0, constantValue := 0 }, { name := "PI", type := .double, accessFlags := 25, slot := 1, constantValue := 0 }, { name := "TAU", type := .double, accessFlags := 25, slot := 2, constantValue := 0 }, { name := "DEGREES_TO_RADIANS", type := .double, accessFlags := 26, slot := 3, constantValue := 0 }, { name := "RADIANS_TO_DEGREES", type := .double, accessFlags := 26, slot := 4, constantValue := 0 }, { name := "negativeZeroFloatBits", type := .long, accessFlags := 26, slot := 5, constantValue := 0 }, { name := "negativeZeroDoubleBits", type := .long, accessFlags := 26, slot := 6, constantValue := 0 }, { name := "twoToTheDoubleScaleUp", type := .double, accessFlags := 8, slot := 7, constantValue := 0 }, { name := "twoToTheDoubleScaleDown", type := .double, accessFlags := 8, slot := 8, constantValue := 0 }, { name := "$assertionsDisabled", type := .boolean, accessFlags := 4120, slot := 9, constantValue := 0 }]
  methods := #[k9m0, k9m1, k9m2]
  instanceTypes := #[]
  staticTypes := #[.double, .double, .double, .double, .double, .long, .long, .double, .double, .boolean]
  resolved := Array.replicate 460 none
  statics := none }

def pool10 : Array CpInfo := pool [(2, .class_ 4), (1, u "java/lang/Object"), (0, u "<init>"), (0, u "()V"), (1, .class_ 10), (1, u "java/util/DualPivotQuicksort"), (0, u "sort"), (1, .methodref 14 15), (0, .class_ 16), (0, .nameAndType 17 18), (0, u "java/util/Arrays"), (0, u "rangeCheck"), (0, u "(III)V"), (0, .methodref 8 20), (0, .nameAndType 11 21), (0, u "([JIII)V"), (52, .class_ 76), (1, u "java/util/Arrays$NaturalOrder"), (36, .class_ 115), (1, u "java/util/Arrays$LegacyMergeSort"), (1, u "Z"), (257, .class_ 376), (0, u "java/util/Arrays$ArrayList"), (68, u "$assertionsDisabled"), (269, u "MIN_ARRAY_SORT_GRAN"), (0, u "I"), (2, u "INSERTIONSORT_THRESHOLD"), (12, u "([JII)V"), (107, u "fill"), (4, u "([II)V"), (129, .class_ 976), (0, u "java/util/Arrays$ArrayItr")] 52

def k10m0 : Method := { name := "<init>", desc := "()V", sig := { parameters := [], returnType := none }, accessFlags := 2, code := none }
def k10c1 : Code := { maxStack := 4, maxLocals := 3, code := jdk_65_method_5_code, exceptionTable := #[], attributes := #[] }
def k10m1 : Method := { name := "sort", desc := "([JII)V", sig := { parameters := [(.array .long), .int, .int], returnType := none }, accessFlags := 9, code := some k10c1 }
def k10c2 : Code := { maxStack := 4, maxLocals := 3, code := jdk_65_method_30_code, exceptionTable := #[], attributes := #[] }
def k10m2 : Method := { name := "rangeCheck", desc := "(III)V", sig := { parameters := [.int, .int, .int], returnType := none }, accessFlags := 8, code := some k10c2 }
def k10c3 : Code := { maxStack := 3, maxLocals := 4, code := jdk_65_method_103_code, exceptionTable := #[], attributes := #[] }
def k10m3 : Method := { name := "fill", desc := "([II)V", sig := { parameters := [(.array .int), .int], returnType := none }, accessFlags := 9, code := some k10c3 }
/-- java/util/Arrays -/
def k10 : Class := { plain "java/util/Arrays" (some 0) with
  accessFlags := 49
  interfaces := #[]
  cf := some (fileOf pool10 14 #[.nestMembers #[975, 375, 113, 74]] #[{ accessFlags := 2, nameIndex := 5, descriptorIndex := 6, attributes := #[] }, { accessFlags := 9, nameIndex := 11, descriptorIndex := 732, attributes := #[] }, { accessFlags := 8, nameIndex := 17, descriptorIndex := 18, attributes := #[] }, { accessFlags := 9, nameIndex := 840, descriptorIndex := 845, attributes := #[] }] 49 2 #[] #[{ accessFlags := 26, nameIndex := 715, descriptorIndex := 716, attributes := #[] }, { accessFlags := 26, nameIndex := 719, descriptorIndex := 716, attributes := #[] }, { accessFlags := 4120, nameIndex := 445, descriptorIndex := 117, attributes := #[] }])
  fields := #[{ name := "MIN_ARRAY_SORT_GRAN", type := .int, accessFlags := 26, slot := 0, constantValue := 0 }, { name := "INSERTIONSORT_THRESHOLD", type := .int, accessFlags := 26, slot := 1, constantValue := 0 }, { name := "$assertionsDisabled", type := .boolean, accessFlags := 4120, slot := 2, constantValue := 0 }]
  methods := #[k10m0, k10m1, k10m2, k10m3]
  instanceTypes := #[]
  staticTypes := #[.int, .int, .boolean]
  resolved := Array.replicate 1029 none
  statics := none }

def pool11 : Array CpInfo := pool [(1, .class_ 2), (0, u "java/util/DualPivotQuicksort"), (5, .class_ 10), (1, u "java/lang/Object"), (0, u "<init>"), (0, u "()V"), (4, .class_ 18), (0, u "java/util/DualPivotQuicksort$Sorter"), (9, u "sort"), (7, u "insertionSort"), (31, u "I"), (4, .class_ 74), (0, u "java/util/DualPivotQuicksort$RunMerger"), (10, .class_ 86), (0, u "java/util/DualPivotQuicksort$Merger"), (12, .methodref 1 100), (0, .nameAndType 28 101), (0, u "(Ljava/util/DualPivotQuicksort$Sorter;[JIII)V"), (2, u "([JIII)V"), (0, .methodref 1 106), (0, .nameAndType 36 107), (0, u "([JII)V"), (106, u "MAX_MIXED_INSERTION_SORT_SIZE"), (2, u "MAX_INSERTION_SORT_SIZE"), (1, u "MIN_PARALLEL_SORT_SIZE"), (1, u "MIN_TRY_MERGE_SIZE"), (0, u "MIN_FIRST_RUN_SIZE"), (1, u "MIN_FIRST_RUNS_FACTOR"), (1, u "MAX_RUN_CAPACITY"), (1, u "MIN_RUN_COUNT"), (1, u "MIN_PARALLEL_MERGE_PARTS_SIZE"), (0, u "MIN_BYTE_COUNTING_SORT_SIZE"), (1, u "MIN_SHORT_OR_CHAR_COUNTING_SORT_SIZE"), (1, u "DELTA"), (1, u "MAX_RECURSION_DEPTH"), (1, u "NUM_BYTE_VALUES"), (1, u "MAX_BYTE_INDEX"), (0, u "NUM_CHAR_VALUES"), (0, u "NUM_SHORT_VALUES"), (0, u "MAX_SHORT_INDEX")] 86

def k11m0 : Method := { name := "<init>", desc := "()V", sig := { parameters := [], returnType := none }, accessFlags := 2, code := none }
def k11c1 : Code := { maxStack := 9, maxLocals := 7, code := jdk_2529_method_12_code, exceptionTable := #[], attributes := #[] }
def k11m1 : Method := { name := "sort", desc := "([JIII)V", sig := { parameters := [(.array .long), .int, .int, .int], returnType := none }, accessFlags := 8, code := some k11c1 }
def k11c2 : Code := { maxStack := 6, maxLocals := 25, code := jdk_2529_method_13_code, exceptionTable := #[], attributes := #[] }
def k11m2 : Method := { name := "sort", desc := "(Ljava/util/DualPivotQuicksort$Sorter;[JIII)V", sig := { parameters := [(.object "java/util/DualPivotQuicksort$Sorter"), (.array .long), .int, .int, .int], returnType := none }, accessFlags := 8, code := some k11c2 }
def k11c3 : Code := { maxStack := 5, maxLocals := 7, code := jdk_2529_method_15_code, exceptionTable := #[], attributes := #[] }
def k11m3 : Method := { name := "insertionSort", desc := "([JII)V", sig := { parameters := [(.array .long), .int, .int], returnType := none }, accessFlags := 10, code := some k11c3 }
/-- java/util/DualPivotQuicksort -/
def k11 : Class := { plain "java/util/DualPivotQuicksort" (some 0) with
  accessFlags := 48
  interfaces := #[]
  cf := some (fileOf pool11 1 #[.nestMembers #[73, 85, 17]] #[{ accessFlags := 2, nameIndex := 11, descriptorIndex := 12, attributes := #[] }, { accessFlags := 8, nameIndex := 28, descriptorIndex := 104, attributes := #[] }, { accessFlags := 8, nameIndex := 28, descriptorIndex := 101, attributes := #[] }, { accessFlags := 10, nameIndex := 36, descriptorIndex := 107, attributes := #[] }] 48 8 #[] #[{ accessFlags := 26, nameIndex := 214, descriptorIndex := 68, attributes := #[] }, { accessFlags := 26, nameIndex := 217, descriptorIndex := 68, attributes := #[] }, { accessFlags := 26, nameIndex := 219, descriptorIndex := 68, attributes := #[] }, { accessFlags := 26, nameIndex := 221, descriptorIndex := 68, attributes := #[] }, { accessFlags := 26, nameIndex := 222, descriptorIndex := 68, attributes := #[] }, { accessFlags := 26, nameIndex := 224, descriptorIndex := 68, attributes := #[] }, { accessFlags := 26, nameIndex := 226, descriptorIndex := 68, attributes := #[] }, { accessFlags := 26, nameIndex := 228, descriptorIndex := 68, attributes := #[] }, { accessFlags := 26, nameIndex := 230, descriptorIndex := 68, attributes := #[] }, { accessFlags := 26, nameIndex := 231, descriptorIndex := 68, attributes := #[] }, { accessFlags := 26, nameIndex := 233, descriptorIndex := 68, attributes := #[] }, { accessFlags := 26, nameIndex := 235, descriptorIndex := 68, attributes := #[] }, { accessFlags := 26, nameIndex := 237, descriptorIndex := 68, attributes := #[] }, { accessFlags := 26, nameIndex := 239, descriptorIndex := 68, attributes := #[] }, { accessFlags := 26, nameIndex := 241, descriptorIndex := 68, attributes := #[] }, { accessFlags := 26, nameIndex := 242, descriptorIndex := 68, attributes := #[] }, { accessFlags := 26, nameIndex := 243, descriptorIndex := 68, attributes := #[] }, { accessFlags := 26, nameIndex := 244, descriptorIndex := 68, attributes := #[] }])
  fields := #[{ name := "MAX_MIXED_INSERTION_SORT_SIZE", type := .int, accessFlags := 26, slot := 0, constantValue := 0 }, { name := "MAX_INSERTION_SORT_SIZE", type := .int, accessFlags := 26, slot := 1, constantValue := 0 }, { name := "MIN_PARALLEL_SORT_SIZE", type := .int, accessFlags := 26, slot := 2, constantValue := 0 }, { name := "MIN_TRY_MERGE_SIZE", type := .int, accessFlags := 26, slot := 3, constantValue := 0 }, { name := "MIN_FIRST_RUN_SIZE", type := .int, accessFlags := 26, slot := 4, constantValue := 0 }, { name := "MIN_FIRST_RUNS_FACTOR", type := .int, accessFlags := 26, slot := 5, constantValue := 0 }, { name := "MAX_RUN_CAPACITY", type := .int, accessFlags := 26, slot := 6, constantValue := 0 }, { name := "MIN_RUN_COUNT", type := .int, accessFlags := 26, slot := 7, constantValue := 0 }, { name := "MIN_PARALLEL_MERGE_PARTS_SIZE", type := .int, accessFlags := 26, slot := 8, constantValue := 0 }, { name := "MIN_BYTE_COUNTING_SORT_SIZE", type := .int, accessFlags := 26, slot := 9, constantValue := 0 }, { name := "MIN_SHORT_OR_CHAR_COUNTING_SORT_SIZE", type := .int, accessFlags := 26, slot := 10, constantValue := 0 }, { name := "DELTA", type := .int, accessFlags := 26, slot := 11, constantValue := 0 }, { name := "MAX_RECURSION_DEPTH", type := .int, accessFlags := 26, slot := 12, constantValue := 0 }, { name := "NUM_BYTE_VALUES", type := .int, accessFlags := 26, slot := 13, constantValue := 0 }, { name := "MAX_BYTE_INDEX", type := .int, accessFlags := 26, slot := 14, constantValue := 0 }, { name := "NUM_CHAR_VALUES", type := .int, accessFlags := 26, slot := 15, constantValue := 0 }, { name := "NUM_SHORT_VALUES", type := .int, accessFlags := 26, slot := 16, constantValue := 0 }, { name := "MAX_SHORT_INDEX", type := .int, accessFlags := 26, slot := 17, constantValue := 0 }]
  methods := #[k11m0, k11m1, k11m2, k11m3]
  instanceTypes := #[]
  staticTypes := #[.int, .int, .int, .int, .int, .int, .int, .int, .int, .int, .int, .int, .int, .int, .int, .int, .int, .int]
  resolved := Array.replicate 331 none
  statics := none }

def pool12 : Array CpInfo := pool [(2, .class_ 4), (1, u "java/lang/Object"), (0, u "<init>"), (0, u "()V"), (1, .class_ 10), (1, u "java/lang/System"), (0, u "allowSecurityManager"), (0, u "I"), (16, u "cons"), (0, u "Ljava/io/Console;"), (77, .class_ 110), (1, u "java/lang/System$CallersHolder"), (43, u "initialErrStream"), (0, u "Ljava/io/PrintStream;"), (19, u "security"), (0, u "Ljava/lang/SecurityManager;"), (31, .class_ 209), (0, u "java/lang/System$1"), (7, u "props"), (0, u "Ljava/util/Properties;"), (2, u "lineSeparator"), (0, u "Ljava/lang/String;"), (96, .class_ 321), (1, u "java/lang/System$LoggerFinder"), (5, .class_ 328), (0, u "java/lang/System$Logger"), (67, u "err"), (2, u "out"), (91, u "notSupportedJnuEncoding"), (15, u "in"), (17, u "initialIn"), (0, u "Ljava/io/InputStream;"), (35, u "bootLayer"), (0, u "Ljava/lang/ModuleLayer;"), (99, .class_ 664), (0, u "java/lang/System$2"), (9, u "NEVER"), (2, u "MAYBE"), (49, u "arraycopy"), (0, u "(Ljava/lang/Object;ILjava/lang/Object;II)V"), (72, .class_ 802), (0, u "java/lang/System$Logger$Level")] 31

def k12m0 : Method := { name := "<init>", desc := "()V", sig := { parameters := [], returnType := none }, accessFlags := 2, code := none }
def k12m1 : Method := { name := "arraycopy", desc := "(Ljava/lang/Object;ILjava/lang/Object;II)V", sig := { parameters := [(.object "java/lang/Object"), .int, (.object "java/lang/Object"), .int, .int], returnType := none }, accessFlags := 265, code := none }
/-- java/lang/System -/
def k12 : Class := { plain "java/lang/System" (some 0) with
  accessFlags := 49
  interfaces := #[]
  cf := some (fileOf pool12 8 #[.nestMembers #[319, 327, 801, 108, 663, 208]] #[{ accessFlags := 2, nameIndex := 5, descriptorIndex := 6, attributes := #[] }, { accessFlags := 265, nameIndex := 727, descriptorIndex := 728, attributes := #[] }] 49 2 #[] #[{ accessFlags := 25, nameIndex := 507, descriptorIndex := 526, attributes := #[] }, { accessFlags := 25, nameIndex := 399, descriptorIndex := 155, attributes := #[] }, { accessFlags := 25, nameIndex := 396, descriptorIndex := 155, attributes := #[] }, { accessFlags := 10, nameIndex := 525, descriptorIndex := 526, attributes := #[] }, { accessFlags := 26, nameIndex := 674, descriptorIndex := 12, attributes := #[] }, { accessFlags := 26, nameIndex := 677, descriptorIndex := 12, attributes := #[] }, { accessFlags := 10, nameIndex := 11, descriptorIndex := 12, attributes := #[] }, { accessFlags := 74, nameIndex := 175, descriptorIndex := 176, attributes := #[] }, { accessFlags := 10, nameIndex := 491, descriptorIndex := 222, attributes := #[] }, { accessFlags := 74, nameIndex := 29, descriptorIndex := 30, attributes := #[] }, { accessFlags := 74, nameIndex := 154, descriptorIndex := 155, attributes := #[] }, { accessFlags := 10, nameIndex := 217, descriptorIndex := 218, attributes := #[] }, { accessFlags := 10, nameIndex := 221, descriptorIndex := 222, attributes := #[] }, { accessFlags := 8, nameIndex := 562, descriptorIndex := 563, attributes := #[] }])
  fields := #[{ name := "in", type := (.object "java/io/InputStream"), accessFlags := 25, slot := 0, constantValue := 0 }, { name := "out", type := (.object "java/io/PrintStream"), accessFlags := 25, slot := 1, constantValue := 0 }, { name := "err", type := (.object "java/io/PrintStream"), accessFlags := 25, slot := 2, constantValue := 0 }, { name := "initialIn", type := (.object "java/io/InputStream"), accessFlags := 10, slot := 3, constantValue := 0 }, { name := "NEVER", type := .int, accessFlags := 26, slot := 4, constantValue := 0 }, { name := "MAYBE", type := .int, accessFlags := 26, slot := 5, constantValue := 0 }, { name := "allowSecurityManager", type := .int, accessFlags := 10, slot := 6, constantValue := 0 }, { name := "security", type := (.object "java/lang/SecurityManager"), accessFlags := 74, slot := 7, constantValue := 0 }, { name := "notSupportedJnuEncoding", type := (.object "java/lang/String"), accessFlags := 10, slot := 8, constantValue := 0 }, { name := "cons", type := (.object "java/io/Console"), accessFlags := 74, slot := 9, constantValue := 0 }, { name := "initialErrStream", type := (.object "java/io/PrintStream"), accessFlags := 74, slot := 10, constantValue := 0 }, { name := "props", type := (.object "java/util/Properties"), accessFlags := 10, slot := 11, constantValue := 0 }, { name := "lineSeparator", type := (.object "java/lang/String"), accessFlags := 10, slot := 12, constantValue := 0 }, { name := "bootLayer", type := (.object "java/lang/ModuleLayer"), accessFlags := 8, slot := 13, constantValue := 0 }]
  methods := #[k12m0, k12m1]
  instanceTypes := #[]
  staticTypes := #[(.object "java/io/InputStream"), (.object "java/io/PrintStream"), (.object "java/io/PrintStream"), (.object "java/io/InputStream"), .int, .int, .int, (.object "java/lang/SecurityManager"), (.object "java/lang/String"), (.object "java/io/Console"), (.object "java/io/PrintStream"), (.object "java/util/Properties"), (.object "java/lang/String"), (.object "java/lang/ModuleLayer")]
  resolved := Array.replicate 834 none
  statics := none }

def pool13 : Array CpInfo := pool [(1, u "java/lang/Cloneable"), (0, .class_ 1), (0, u "java/lang/Object"), (0, .class_ 3)] 3

/-- java/lang/Cloneable -/
def k13 : Class := { plain "java/lang/Cloneable" (some 0) with
  accessFlags := 1537
  interfaces := #[]
  cf := some (fileOf pool13 2 #[] #[] 1537 4 #[] #[])
  fields := #[]
  methods := #[]
  instanceTypes := #[]
  staticTypes := #[]
  resolved := Array.replicate 8 none
  statics := none }

/-- the primitive byte -/
def k14 : Class := { plain "byte" none with kind := .primitive 'B', accessFlags := 0x411 }
/-- [B -/
def k15 : Class := { plain "[B" (some 0) with kind := .array 14 .byte, interfaces := #[13, 3], accessFlags := 1041 }

/-- the primitive int -/
def k16 : Class := { plain "int" none with kind := .primitive 'I', accessFlags := 0x411 }
/-- [I -/
def k17 : Class := { plain "[I" (some 0) with kind := .array 16 .int, interfaces := #[13, 3], accessFlags := 1041 }

/-- the primitive long -/
def k18 : Class := { plain "long" none with kind := .primitive 'J', accessFlags := 0x411 }
/-- [J -/
def k19 : Class := { plain "[J" (some 0) with kind := .array 18 .long, interfaces := #[13, 3], accessFlags := 1041 }

def heap : Heap := #[]
def k20 : Class := { plain "[[J" (some 0) with kind := .array 19 (.array .long), interfaces := #[13, 3], accessFlags := 1041 }
def classes : Array Class := #[k0, k1, k2, k3, k4, k5, k6, k7, k8, k9, k10, k11, k12, k13, k14, k15, k16, k17, k18, k19, k20]
def interned : List (Array UInt16 × Addr) := []
def slotsUsed : Nat := 0
def theMethod : MethodId := ⟨1, 1⟩
def args0 : Array Value := #[.int 5, .int 7, .int 1, .long 2, .long 3, .long 4]
def aboutOver (below : List Frame) : State where
  vm := { classes := classes, interned := interned.toArray }
  heap := heap
  slotsUsed := slotsUsed
  threads := #[{ frames := .invoking theMethod args0 :: below }]
def below0 : List Frame := [.native { method := ⟨0, 0⟩, args := #[] }]
def about1 : State := aboutOver below0
def p0 : Program := .bare "" "" ""
def e0 : Env := launch0.env 0 0 0
theorem w_frames : about1.frames = Frame.invoking theMethod args0 :: below0 := rfl
set_option maxRecDepth 65536 in
theorem w_args : argsFit about1.vm theMethod args0 = true := by decide +kernel
set_option maxRecDepth 65536 in
theorem w_heap : heapFits about1 = true := by decide +kernel
set_option maxRecDepth 65536 in
theorem w_runnable : about1.curStatus? = some .runnable := by decide +kernel
set_option maxRecDepth 65536 in
theorem w_alone : about1.alone = true := by decide +kernel
set_option maxRecDepth 65536 in
theorem w_named : about1.methodNamed? x = some theMethod := by decide +kernel
set_option maxRecDepth 65536 in
theorem w_hears : about1.hears theMethod below0 = true := by decide +kernel
set_option maxRecDepth 65536 in
theorem w_ripe : about1.ripe theMethod args0 below0 = true := by decide +kernel
theorem w_running : about1.status = .running := rfl
set_option maxRecDepth 65536 in
theorem w_room : about1.hasRoom e0.platform room_1 = true :=
  launch0.hasRoom_least _ room_1 (by decide +kernel) (by decide +kernel) (by decide +kernel) (by decide +kernel) (by decide +kernel) (by decide +kernel)
theorem allAtoms_all (ts : List Jvm.Cond) (a : Array Jvm.Value) (st : Jvm.State) : (allAtoms ts).before a st = ts.all (fun c => c.before a st) := by
  induction ts with
  | nil => rfl
  | cons c t ih =>
    show (Jvm.Cond.and c (allAtoms t)).before a st = _
    rw [Jvm.Cond.before_and, ih, List.all_cons]
def words1 : List Jvm.Cond := Jvm.Cond.code x code maxLocals ret :: tables_1
/-- a 'code' word, met by the world's own term for the bytes: nothing is compared byte by byte -/
theorem code_word {y : MethodName} {bytes : ByteArray} {mx : Nat} {rt : Option FieldType} {a : Array Value} {s : State} {m : MethodId} {meth : Method} {c : Code} (h1 : s.methodNamed? y = some m) (h2 : s.vm.method? m = some meth) (h3 : meth.code = some c) (h4 : c.code = bytes)
    (h5 : (c.maxLocals == mx && c.exceptionTable.isEmpty && decide (c.maxStack ≤ mostOperands) && decide (meth.sig.returnType = rt) && !meth.locks && decide (parseMethodDescriptor y.desc = some meth.sig)) = true) : (Jvm.Cond.code y bytes mx rt).before a s = true := by
  simp only [Bool.and_eq_true, beq_iff_eq, Bool.not_eq_true', decide_eq_true_eq] at h5
  obtain ⟨⟨⟨⟨⟨g1, g2⟩, g3⟩, g4⟩, g5⟩, g6⟩ := h5
  simp [Cond.before, Cond.holds, Cond.value, h1, h2, h3, h4, g1, g2, g3, g4, g5, g6]
def isCode : Jvm.Cond → Bool
  | .code _ _ _ _ => true
  | _ => false
theorem all_split {L : List Jvm.Cond} {P : Jvm.Cond → Bool} (h1 : L.all (fun c => isCode c || P c) = true) (h2 : ∀ c ∈ L.filter isCode, P c = true) : L.all P = true := by
  refine List.all_eq_true.mpr fun c hc => ?_
  have h := List.all_eq_true.mp h1 c hc
  rcases Bool.eq_false_or_eq_true (isCode c) with hi | hi
  · exact h2 c (List.mem_filter.mpr ⟨hc, hi⟩)
  · simpa [hi] using h
set_option maxRecDepth 65536 in
theorem w_c0 : (Jvm.Cond.code x code maxLocals ret).before args0 about1 = true := code_word (m := ⟨1, 1⟩) (meth := k1m1) (c := k1c1) (by decide +kernel) rfl rfl rfl (by decide +kernel)
set_option maxRecDepth 65536 in
theorem w_c1 : (Jvm.Cond.code ({ cls := "com/example/kentro/kentro/bound/NearestCandidates", name := "<init>", desc := "(IIJ)V" } : Jvm.MethodName) prog_7_method_1_code (5 : Nat) (Option.none : Option Jvm.ClassFile.FieldType)).before args0 about1 = true := code_word (m := ⟨2, 0⟩) (meth := k2m0) (c := k2c0) (by decide +kernel) rfl rfl rfl (by decide +kernel)
set_option maxRecDepth 65536 in
theorem w_c2 : (Jvm.Cond.code ({ cls := "java/lang/Object", name := "<init>", desc := "()V" } : Jvm.MethodName) object_method_1_code (1 : Nat) (Option.none : Option Jvm.ClassFile.FieldType)).before args0 about1 = true := code_word (m := ⟨0, 0⟩) (meth := k0m0) (c := k0c0) (by decide +kernel) rfl rfl rfl (by decide +kernel)
set_option maxRecDepth 65536 in
theorem w_c3 : (Jvm.Cond.code ({ cls := "java/lang/Integer", name := "numberOfLeadingZeros", desc := "(I)I" } : Jvm.MethodName) jdk_33_method_47_code (2 : Nat) (Option.some Jvm.ClassFile.FieldType.int)).before args0 about1 = true := code_word (m := ⟨8, 0⟩) (meth := k8m0) (c := k8c0) (by decide +kernel) rfl rfl rfl (by decide +kernel)
set_option maxRecDepth 65536 in
theorem w_c4 : (Jvm.Cond.code ({ cls := "java/lang/Math", name := "min", desc := "(JJ)J" } : Jvm.MethodName) jdk_29_method_70_code (4 : Nat) (Option.some Jvm.ClassFile.FieldType.long)).before args0 about1 = true := code_word (m := ⟨9, 2⟩) (meth := k9m2) (c := k9c2) (by decide +kernel) rfl rfl rfl (by decide +kernel)
set_option maxRecDepth 65536 in
theorem w_c5 : (Jvm.Cond.code ({ cls := "com/example/kentro/kentro/bound/NearestCandidates", name := "capacity", desc := "(II)J" } : Jvm.MethodName) prog_7_method_3_code (4 : Nat) (Option.some Jvm.ClassFile.FieldType.long)).before args0 about1 = true := code_word (m := ⟨2, 1⟩) (meth := k2m1) (c := k2c1) (by decide +kernel) rfl rfl rfl (by decide +kernel)
set_option maxRecDepth 65536 in
theorem w_c6 : (Jvm.Cond.code ({ cls := "com/example/kentro/kentro/bound/NearestCandidates", name := "tally", desc := "([J)Z" } : Jvm.MethodName) prog_7_method_6_code (5 : Nat) (Option.some Jvm.ClassFile.FieldType.boolean)).before args0 about1 = true := code_word (m := ⟨2, 3⟩) (meth := k2m3) (c := k2c3) (by decide +kernel) rfl rfl rfl (by decide +kernel)
set_option maxRecDepth 65536 in
theorem w_c7 : (Jvm.Cond.code ({ cls := "com/example/kentro/kentro/bound/NearestCandidates", name := "propose", desc := "([JJ)V" } : Jvm.MethodName) prog_7_method_5_code (7 : Nat) (Option.none : Option Jvm.ClassFile.FieldType)).before args0 about1 = true := code_word (m := ⟨2, 2⟩) (meth := k2m2) (c := k2c2) (by decide +kernel) rfl rfl rfl (by decide +kernel)
set_option maxRecDepth 65536 in
theorem w_c8 : (Jvm.Cond.code ({ cls := "java/lang/Math", name := "max", desc := "(JJ)J" } : Jvm.MethodName) jdk_29_method_66_code (4 : Nat) (Option.some Jvm.ClassFile.FieldType.long)).before args0 about1 = true := code_word (m := ⟨9, 1⟩) (meth := k9m1) (c := k9c1) (by decide +kernel) rfl rfl rfl (by decide +kernel)
set_option maxRecDepth 65536 in
theorem w_c9 : (Jvm.Cond.code ({ cls := "java/util/Arrays", name := "fill", desc := "([II)V" } : Jvm.MethodName) jdk_65_method_103_code (4 : Nat) (Option.none : Option Jvm.ClassFile.FieldType)).before args0 about1 = true := code_word (m := ⟨10, 3⟩) (meth := k10m3) (c := k10c3) (by decide +kernel) rfl rfl rfl (by decide +kernel)
set_option maxRecDepth 65536 in
theorem w_c10 : (Jvm.Cond.code ({ cls := "com/example/kentro/kentro/bound/NearestCandidates", name := "build", desc := "([[J)J" } : Jvm.MethodName) prog_7_method_7_code (5 : Nat) (Option.some Jvm.ClassFile.FieldType.long)).before args0 about1 = true := code_word (m := ⟨2, 4⟩) (meth := k2m4) (c := k2c4) (by decide +kernel) rfl rfl rfl (by decide +kernel)
set_option maxRecDepth 65536 in
theorem w_c11 : (Jvm.Cond.code ({ cls := "com/example/kentro/kentro/bound/NearestCandidates", name := "to", desc := "(I)I" } : Jvm.MethodName) prog_7_method_9_code (2 : Nat) (Option.some Jvm.ClassFile.FieldType.int)).before args0 about1 = true := code_word (m := ⟨2, 5⟩) (meth := k2m5) (c := k2c5) (by decide +kernel) rfl rfl rfl (by decide +kernel)
set_option maxRecDepth 65536 in
theorem w_c12 : (Jvm.Cond.code ({ cls := "java/util/Arrays", name := "sort", desc := "([JII)V" } : Jvm.MethodName) jdk_65_method_5_code (3 : Nat) (Option.none : Option Jvm.ClassFile.FieldType)).before args0 about1 = true := code_word (m := ⟨10, 1⟩) (meth := k10m1) (c := k10c1) (by decide +kernel) rfl rfl rfl (by decide +kernel)
set_option maxRecDepth 65536 in
theorem w_c13 : (Jvm.Cond.code ({ cls := "java/util/Arrays", name := "rangeCheck", desc := "(III)V" } : Jvm.MethodName) jdk_65_method_30_code (3 : Nat) (Option.none : Option Jvm.ClassFile.FieldType)).before args0 about1 = true := code_word (m := ⟨10, 2⟩) (meth := k10m2) (c := k10c2) (by decide +kernel) rfl rfl rfl (by decide +kernel)
set_option maxRecDepth 65536 in
theorem w_c14 : (Jvm.Cond.code ({ cls := "java/util/DualPivotQuicksort", name := "sort", desc := "([JIII)V" } : Jvm.MethodName) jdk_2529_method_12_code (7 : Nat) (Option.none : Option Jvm.ClassFile.FieldType)).before args0 about1 = true := code_word (m := ⟨11, 1⟩) (meth := k11m1) (c := k11c1) (by decide +kernel) rfl rfl rfl (by decide +kernel)
set_option maxRecDepth 65536 in
theorem w_c15 : (Jvm.Cond.code ({ cls := "java/util/DualPivotQuicksort", name := "sort", desc := "(Ljava/util/DualPivotQuicksort$Sorter;[JIII)V" } : Jvm.MethodName) jdk_2529_method_13_code (25 : Nat) (Option.none : Option Jvm.ClassFile.FieldType)).before args0 about1 = true := code_word (m := ⟨11, 2⟩) (meth := k11m2) (c := k11c2) (by decide +kernel) rfl rfl rfl (by decide +kernel)
set_option maxRecDepth 65536 in
theorem w_c16 : (Jvm.Cond.code ({ cls := "java/util/DualPivotQuicksort", name := "insertionSort", desc := "([JII)V" } : Jvm.MethodName) jdk_2529_method_15_code (7 : Nat) (Option.none : Option Jvm.ClassFile.FieldType)).before args0 about1 = true := code_word (m := ⟨11, 3⟩) (meth := k11m3) (c := k11c3) (by decide +kernel) rfl rfl rfl (by decide +kernel)
def codes1 : List Jvm.Cond := [Jvm.Cond.code x code maxLocals ret, Jvm.Cond.code ({ cls := "com/example/kentro/kentro/bound/NearestCandidates", name := "<init>", desc := "(IIJ)V" } : Jvm.MethodName) prog_7_method_1_code (5 : Nat) (Option.none : Option Jvm.ClassFile.FieldType), Jvm.Cond.code ({ cls := "java/lang/Object", name := "<init>", desc := "()V" } : Jvm.MethodName) object_method_1_code (1 : Nat) (Option.none : Option Jvm.ClassFile.FieldType), Jvm.Cond.code ({ cls := "java/lang/Integer", name := "numberOfLeadingZeros", desc := "(I)I" } : Jvm.MethodName) jdk_33_method_47_code (2 : Nat) (Option.some Jvm.ClassFile.FieldType.int), Jvm.Cond.code ({ cls := "java/lang/Math", name := "min", desc := "(JJ)J" } : Jvm.MethodName) jdk_29_method_70_code (4 : Nat) (Option.some Jvm.ClassFile.FieldType.long), Jvm.Cond.code ({ cls := "com/example/kentro/kentro/bound/NearestCandidates", name := "capacity", desc := "(II)J" } : Jvm.MethodName) prog_7_method_3_code (4 : Nat) (Option.some Jvm.ClassFile.FieldType.long), Jvm.Cond.code ({ cls := "com/example/kentro/kentro/bound/NearestCandidates", name := "tally", desc := "([J)Z" } : Jvm.MethodName) prog_7_method_6_code (5 : Nat) (Option.some Jvm.ClassFile.FieldType.boolean), Jvm.Cond.code ({ cls := "com/example/kentro/kentro/bound/NearestCandidates", name := "propose", desc := "([JJ)V" } : Jvm.MethodName) prog_7_method_5_code (7 : Nat) (Option.none : Option Jvm.ClassFile.FieldType), Jvm.Cond.code ({ cls := "java/lang/Math", name := "max", desc := "(JJ)J" } : Jvm.MethodName) jdk_29_method_66_code (4 : Nat) (Option.some Jvm.ClassFile.FieldType.long), Jvm.Cond.code ({ cls := "java/util/Arrays", name := "fill", desc := "([II)V" } : Jvm.MethodName) jdk_65_method_103_code (4 : Nat) (Option.none : Option Jvm.ClassFile.FieldType), Jvm.Cond.code ({ cls := "com/example/kentro/kentro/bound/NearestCandidates", name := "build", desc := "([[J)J" } : Jvm.MethodName) prog_7_method_7_code (5 : Nat) (Option.some Jvm.ClassFile.FieldType.long), Jvm.Cond.code ({ cls := "com/example/kentro/kentro/bound/NearestCandidates", name := "to", desc := "(I)I" } : Jvm.MethodName) prog_7_method_9_code (2 : Nat) (Option.some Jvm.ClassFile.FieldType.int), Jvm.Cond.code ({ cls := "java/util/Arrays", name := "sort", desc := "([JII)V" } : Jvm.MethodName) jdk_65_method_5_code (3 : Nat) (Option.none : Option Jvm.ClassFile.FieldType), Jvm.Cond.code ({ cls := "java/util/Arrays", name := "rangeCheck", desc := "(III)V" } : Jvm.MethodName) jdk_65_method_30_code (3 : Nat) (Option.none : Option Jvm.ClassFile.FieldType), Jvm.Cond.code ({ cls := "java/util/DualPivotQuicksort", name := "sort", desc := "([JIII)V" } : Jvm.MethodName) jdk_2529_method_12_code (7 : Nat) (Option.none : Option Jvm.ClassFile.FieldType), Jvm.Cond.code ({ cls := "java/util/DualPivotQuicksort", name := "sort", desc := "(Ljava/util/DualPivotQuicksort$Sorter;[JIII)V" } : Jvm.MethodName) jdk_2529_method_13_code (25 : Nat) (Option.none : Option Jvm.ClassFile.FieldType), Jvm.Cond.code ({ cls := "java/util/DualPivotQuicksort", name := "insertionSort", desc := "([JII)V" } : Jvm.MethodName) jdk_2529_method_15_code (7 : Nat) (Option.none : Option Jvm.ClassFile.FieldType)]
set_option maxRecDepth 65536 in
theorem codes_eq : words1.filter isCode = codes1 := rfl
theorem w_codes : ∀ c ∈ words1.filter isCode, c.before args0 about1 = true := by
  rw [codes_eq]
  intro c hc
  simp only [codes1, List.mem_cons, List.not_mem_nil, or_false] at hc
  rcases hc with rfl | rfl | rfl | rfl | rfl | rfl | rfl | rfl | rfl | rfl | rfl | rfl | rfl | rfl | rfl | rfl | rfl
  · exact w_c0
  · exact w_c1
  · exact w_c2
  · exact w_c3
  · exact w_c4
  · exact w_c5
  · exact w_c6
  · exact w_c7
  · exact w_c8
  · exact w_c9
  · exact w_c10
  · exact w_c11
  · exact w_c12
  · exact w_c13
  · exact w_c14
  · exact w_c15
  · exact w_c16
set_option maxRecDepth 65536 in
theorem w_t1 : (words1.take 24).all (fun c => isCode c || c.before args0 about1) = true := by decide +kernel
set_option maxRecDepth 65536 in
theorem w_t2 : ((words1.drop 24).take 24).all (fun c => isCode c || c.before args0 about1) = true := by decide +kernel
set_option maxRecDepth 65536 in
theorem w_t3 : (((words1.drop 24).drop 24).take 24).all (fun c => isCode c || c.before args0 about1) = true := by decide +kernel
set_option maxRecDepth 65536 in
theorem w_t4 : ((((words1.drop 24).drop 24).drop 24).take 24).all (fun c => isCode c || c.before args0 about1) = true := by decide +kernel
set_option maxRecDepth 65536 in
theorem w_t5 : ((((words1.drop 24).drop 24).drop 24).drop 24).all (fun c => isCode c || c.before args0 about1) = true := by decide +kernel
theorem w_tables : (allAtoms (Jvm.Cond.code x code maxLocals ret :: tables_1)).before args0 about1 = true := by
  rw [allAtoms_all]
  show words1.all (fun c => c.before args0 about1) = true
  refine all_split ?_ w_codes
  rw [← List.take_append_drop 24 words1, List.all_append, w_t1, ← List.take_append_drop 24 (words1.drop 24), List.all_append, w_t2, ← List.take_append_drop 24 ((words1.drop 24).drop 24), List.all_append, w_t3, ← List.take_append_drop 24 (((words1.drop 24).drop 24).drop 24), List.all_append, w_t4, w_t5]
  rfl
set_option maxRecDepth 65536 in
theorem w_case : (Jvm.Cond.and given_1 narrow_1).before args0 about1 = true := by decide +kernel
theorem w_applies : (headSpec (Jvm.Cond.code x code maxLocals ret :: tables_1) room_1).applies x e0.platform about1 = true :=
  (Spec.applies_iff w_frames).mpr ⟨w_running, w_runnable, w_alone, w_named, w_hears, w_ripe, w_room, w_tables⟩
theorem atStart : AtStart classFile x code maxLocals ret World_1 tables_1 room_1 Calls_1 rest_1 Pre_1 launch0 p0 e0 about1 theMethod args0 below0 :=
  ⟨lists_1, trivial, launch0.admits_env _ _ _, launch0.least_env, fairChoices_fair.cas, fairChoices_fair.clock, w_frames, w_args, w_heap, w_applies, trivial, trivial, w_case⟩
end start1
theorem witness_1 : WitnessClaimed_1 := ⟨start1.p0, start1.e0, start1.about1, start1.theMethod, start1.args0, start1.below0, start1.atStart⟩
end Jvm.Pilot.@@N@@
