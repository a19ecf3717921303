import JvmDerived
import JvmDerived.Pilot.@@N@@Statement
import JvmDerived.Pilot.@@N@@Code
set_option linter.unusedVariables false
set_option linter.unusedSimpArgs false
namespace Jvm.Pilot.@@N@@
open Jvm Jvm.ClassFile Sem Op Lib Jvm.Free Jvm.Stand Jvm.LawKit Jvm.RoadKit Bundle Jvm.Pilot.@@N@@.Jvm.D

section OwnKit
variable {G : State → JFrame → Prop} {p : Program} {l : Launch} {e : Env} {R : Room} {s : State} {m : MethodId} {args : Array Value} {below : List Frame} {meth : Method} {c : Code} {Z : State} {n0 : Nat} {own nm : String} {bytes : ByteArray} {maxL : Nat} {ret : Option FieldType} {T : State} {h : Heap} {cells slots : Nat} {a0 : Array Value}
def own_Cl (p : Program) (e : Env) (below : List Frame) (G : State → JFrame → Prop) : Prop :=
  ∀ (T T' : State) (g g' : JFrame), (∀ t, Steps p.tables e below (T'.setTop g') t → Steps p.tables e below (T.setTop g) t) → G T' g' → G T g
def own_Cx (p : Program) (s : State) (m : MethodId) (meth : Method) (c : Code) (Z : State) (own nm : String) (bytes : ByteArray) (maxL : Nat) (ret : Option FieldType) : Prop :=
  p.tables.exec = Jvm.exec ∧ c.code = bytes ∧ Z.Warmed39 s.vm ∧ s.vm.findClass own = some m.cls ∧ c.maxLocals = maxL ∧ meth.name = nm ∧ meth.sig.returnType = ret ∧ meth.locks = false
def own_At (G : State → JFrame → Prop) (p : Program) (l : Launch) (e : Env) (R : Room) (s : State) (m : MethodId) (args : Array Value) (below : List Frame) (meth : Method) (c : Code) (Z : State) (n0 : Nat) (own nm : String) (bytes : ByteArray) (maxL : Nat) (ret : Option FieldType) (T : State) (h : Heap) (cells slots : Nat) : Prop :=
  own_Cl p e below G ∧ own_Cx p s m meth c Z own nm bytes maxL ret ∧ ∃ locs, Stand p l e R s m args below meth c T locs cells slots ∧ Fr n0 locs ∧ T.heap = h ∧ Old Z n0 h
def own_Fin (p : Program) (e : Env) (below : List Frame) (s : State) (Z : State) (n0 : Nat) (Q : Option Value → Heap → Prop) (k n : Nat) (T : State) (g : JFrame) : Prop :=
  ∃ s₂ o, Steps p.tables e below (T.setTop g) s₂ ∧ s₂.status = .running ∧ Ended s₂ below o ∧ ∃ v L, o = .returned v ∧ (Q v s₂.heap ∧ Fr n0 L ∧ Old Z n0 s₂.heap) ∧ FrameEnd s o s₂ L k n
theorem own_Fin_cl (p : Program) (e : Env) (below : List Frame) (s : State) (Z : State) (n0 : Nat) (Q : Option Value → Heap → Prop) (k n : Nat) : own_Cl p e below (own_Fin p e below s Z n0 Q k n) := by
  intro T T' g g' hs ⟨s₂, o, h1, h2⟩
  exact ⟨s₂, o, hs _ h1, h2⟩
/-- the contract of a body -/
def own_Met (l : Launch) (Z : State) (n0 : Nat) (y : MethodName) (bytes : ByteArray) (maxL : Nat) (ret : Option FieldType) (rm : Room) (as' : Array Value) (h0 : Heap) (Q : Option Value → Heap → Prop) : Prop :=
  ∀ ws, MetFree l y (head1 (Jvm.Cond.code y bytes maxL ret :: ws) rm) (fun a U => a = as' ∧ Z.Warmed39 U.vm ∧ U.heap = h0) (fun _ _ _ _ _ => True) (fun _ U o U' => ∃ v L, o = .returned v ∧ (Q v U'.heap ∧ Fr n0 L ∧ Old Z n0 U'.heap) ∧ FrameEnd U o U' L rm.cells rm.slots)
theorem own_enter {y : MethodName} {rm : Room} {as' : Array Value} {h0 : Heap} {Q : Option Value → Heap → Prop} (hpn : plainName y.cls = true) (ho : y.cls = own) (hn : y.name = nm) (hO : Old Z n0 h0)
    (H : ∀ (G : State → JFrame → Prop) (p : Program) (e : Env) (s : State) (m : MethodId) (below : List Frame) (meth : Method) (c : Code) (T : State), G = own_Fin p e below s Z n0 Q rm.cells rm.slots → own_At G p l e rm s m as' below meth c Z n0 own nm bytes maxL ret T h0 0 0 → G T (entryFrame m as' maxL)) :
    own_Met l Z n0 y bytes maxL ret rm as' h0 Q := by
  intro ws
  subst ho hn
  refine MetFree.of_bodySF (plainFor_of_name hpn) hisR ?_
  intro p e s m args below meth c s₁ Bd hml0 hP hK
  obtain ⟨rfl, hZ, hh⟩ := hP
  have e0 : s₁.heap = h0 := by rw [← hh, Bd.state]; rfl
  obtain ⟨s₂, o, h1, h2, h3, h4⟩ := H _ p e s m below meth c s₁ rfl ⟨own_Fin_cl p e below s Z n0 Q rm.cells rm.slots, ⟨Bd.exec, Bd.bytes, hZ, findClass_of_methodNamed Bd.named, hml0, (name_of_methodNamed Bd.named Bd.method).1, Bd.returns, BodyLoose.notSynchronized Bd⟩, [], Stand.of_body Bd, Fr.nil n0, e0, hO⟩
  exact ⟨s₂, o, h1, h2, h3, h4⟩
theorem own_at_heap (X : own_At G p l e R s m args below meth c Z n0 own nm bytes maxL ret T h cells slots) : T.heap = h := by obtain ⟨-, -, _, -, -, e, -⟩ := X; exact e
theorem own_old (X : own_At G p l e R s m args below meth c Z n0 own nm bytes maxL ret T h cells slots) : Old Z n0 h := by obtain ⟨-, -, _, -, -, -, e⟩ := X; exact e
theorem own_sta (X : own_At G p l e R s m args below meth c Z n0 own nm bytes maxL ret T h cells slots) {C n d : String} {v : Value} (S : Sta Z Z.heap C n d v) : Sta Z h C n d v := S.ext (own_old X).2
theorem own_n0 (X : own_At G p l e R s m args below meth c Z n0 own nm bytes maxL ret T h cells slots) : n0 ≤ h.size := by have := own_old X; rw [← this.1]; exact this.2.1
theorem own_mono (X : own_At G p l e R s m args below meth c Z n0 own nm bytes maxL ret T h cells slots) {cells' slots' : Nat} (h1 : cells ≤ cells') (h2 : slots ≤ slots') : own_At G p l e R s m args below meth c Z n0 own nm bytes maxL ret T h cells' slots' := by
  obtain ⟨hG, C, L, X, r⟩ := X
  exact ⟨hG, C, L, { X with same := X.same.mono h1 h2 }, r⟩
theorem own_ret {Q : Option Value → Heap → Prop} {k n : Nat} (X : own_At G p l e R s m args below meth c Z n0 own nm bytes maxL ret T h cells slots) (hGe : G = own_Fin p e below s Z n0 Q k n) {pc : Nat} {Ls : Array Slot} {w : Value} {t : FieldType} {i : Instr} {rest : List Value} (hret : ret = some t) (hn : narrow t w = w)
    (hi : (i = .ireturn ∧ (t = .int ∨ t = .boolean ∨ t = .byte ∨ t = .char ∨ t = .short) ∧ ∃ z, w = .int z) ∨ (i = .lreturn ∧ t = .long ∧ ∃ z, w = .long z) ∨ (i = .dreturn ∧ t = .double ∧ ∃ z, w = .double z) ∨ (i = .freturn ∧ t = .float ∧ ∃ z, w = .float z) ∨ (i = .areturn ∧ t.isReference = true ∧ w.isRef = true))
    (hd : decode bytes pc = .ok (i, 1)) (hk : cells ≤ k) (hs : slots ≤ n) (hQ : Q (some w) h) : G T (mkF m pc Ls (w :: rest)) := by
  obtain ⟨-, ⟨c1, c2, c3, c4, c5, c6, c7, c8⟩, L, X, N, eT, O⟩ := X
  have hr' : meth.sig.returnType = some t := c7.trans hret
  obtain ⟨fs, hr, hrun, hended, hW, hsame⟩ := X.leave (v := some w) (fun h => by rw [hr'] at h; cases h)
  rw [hGe]
  exact ⟨_, _, retOut X c1 hr' hn hi (hb c2 hd) hr, hrun, hended, _, L, rfl, ⟨by show Q _ T.heap; rw [eT]; exact hQ, N, by show Old Z n0 T.heap; rw [eT]; exact O⟩, ⟨_, rfl⟩, hW, hsame.mono hk hs⟩
theorem own_retV {Q : Option Value → Heap → Prop} {k n : Nat} (X : own_At G p l e R s m args below meth c Z n0 own nm bytes maxL ret T h cells slots) (hGe : G = own_Fin p e below s Z n0 Q k n) {pc : Nat} {Ls : Array Slot} (hret : ret = none)
    (hd : decode bytes pc = .ok (.return_, 1)) (hk : cells ≤ k) (hs : slots ≤ n) (hQ : Q none h) : G T (mkF m pc Ls []) := by
  obtain ⟨-, ⟨c1, c2, c3, c4, c5, c6, c7, c8⟩, L, X, N, eT, O⟩ := X
  have hr' : meth.sig.returnType = none := c7.trans hret
  obtain ⟨fs, hr, hrun, hended, hW, hsame⟩ := X.leave (v := none) (fun _ => rfl)
  rw [hGe]
  exact ⟨_, _, X.returnOut c1 hr' (hb c2 hd) hr, hrun, hended, _, L, rfl, ⟨by show Q _ T.heap; rw [eT]; exact hQ, N, by show Old Z n0 T.heap; rw [eT]; exact O⟩, ⟨_, rfl⟩, hW, hsame.mono hk hs⟩
theorem own_ne {a b : Addr} {n m : Nat} (h1 : a < n) (h2 : n ≤ m) (h3 : m ≤ b) : a ≠ b := Nat.ne_of_lt (Nat.lt_of_lt_of_le h1 (Nat.le_trans h2 h3))
theorem own_ifc {P Q : Prop} [Decidable P] [Decidable Q] (h : P ↔ Q) : (if P then (1 : Int32) else 0) = if Q then 1 else 0 := by
  by_cases q : P
  · rw [if_pos q, if_pos (h.mp q)]
  · rw [if_neg q, if_neg (fun z => q (h.mpr z))]
def own_c16 (x : Int32) : Int32 := x.toUInt32.toUInt16.toUInt32.toInt32
def own_b8 (x : Int32) : Int32 := x.toInt8.toInt32
def own_ushr (x k : Int32) : Int32 := (x.toUInt32 >>> (k &&& 31).toUInt32).toInt32

theorem own_aconst_null (X : own_At G p l e R s m args below meth c Z n0 own nm bytes maxL ret T h cells slots) {pc pc' : Nat} {Ls : Array Slot} {st : List Value} (hd : decode bytes pc = .ok (.aconst_null, 1)) (hp : pc' = pc + 1)  (k : G T (mkF m pc' Ls (.null :: st))) : G T (mkF m pc Ls st) := by
  obtain ⟨hG, ⟨c1, c2, -⟩, L, X, -⟩ := X
  subst hp
  exact hG _ _ _ _ (fun t q => XS.aconstNull X.here c1 rfl (hb c2 hd) q) k
theorem own_iconst (X : own_At G p l e R s m args below meth c Z n0 own nm bytes maxL ret T h cells slots) {pc pc' : Nat} {Ls : Array Slot} {st : List Value} {i : Int} {z : Int32} (hd : decode bytes pc = .ok (.iconst i, 1)) (hp : pc' = pc + 1) (hz : Int32.ofInt i = z) (k : G T (mkF m pc' Ls (.int z :: st))) : G T (mkF m pc Ls st) := by
  obtain ⟨hG, ⟨c1, c2, -⟩, L, X, -⟩ := X
  subst hp
  exact hG _ _ _ _ (fun t q => XS.iconst X.here c1 rfl (hb c2 hd) (by rw [hz]; exact q)) k
theorem own_bipush (X : own_At G p l e R s m args below meth c Z n0 own nm bytes maxL ret T h cells slots) {pc pc' : Nat} {Ls : Array Slot} {st : List Value} {i : Int} {z : Int32} (hd : decode bytes pc = .ok (.bipush i, 2)) (hp : pc' = pc + 2) (hz : (Int8.ofInt i).toInt32 = z) (k : G T (mkF m pc' Ls (.int z :: st))) : G T (mkF m pc Ls st) := by
  obtain ⟨hG, ⟨c1, c2, -⟩, L, X, -⟩ := X
  subst hp
  exact hG _ _ _ _ (fun t q => XS.bipush X.here c1 rfl (hb c2 hd) (by rw [hz]; exact q)) k
theorem own_sipush (X : own_At G p l e R s m args below meth c Z n0 own nm bytes maxL ret T h cells slots) {pc pc' : Nat} {Ls : Array Slot} {st : List Value} {i : Int} {z : Int32} (hd : decode bytes pc = .ok (.sipush i, 3)) (hp : pc' = pc + 3) (hz : (Int16.ofInt i).toInt32 = z) (k : G T (mkF m pc' Ls (.int z :: st))) : G T (mkF m pc Ls st) := by
  obtain ⟨hG, ⟨c1, c2, -⟩, L, X, -⟩ := X
  subst hp
  exact hG _ _ _ _ (fun t q => XS.sipush X.here c1 rfl (hb c2 hd) (by rw [hz]; exact q)) k
theorem own_lconst (X : own_At G p l e R s m args below meth c Z n0 own nm bytes maxL ret T h cells slots) {pc pc' : Nat} {Ls : Array Slot} {st : List Value} {i : Fin 2} {z : Int64} (hd : decode bytes pc = .ok (.lconst i, 1)) (hp : pc' = pc + 1) (hz : Int64.ofNat i = z) (k : G T (mkF m pc' Ls (.long z :: st))) : G T (mkF m pc Ls st) := by
  obtain ⟨hG, ⟨c1, c2, -⟩, L, X, -⟩ := X
  subst hp
  exact hG _ _ _ _ (fun t q => XS.lconst X.here c1 rfl (hb c2 hd) (by rw [hz]; exact q)) k
theorem own_iload_n (X : own_At G p l e R s m args below meth c Z n0 own nm bytes maxL ret T h cells slots) {pc pc' : Nat} {Ls : Array Slot} {st : List Value} {i : Fin 4} {v : Int32} (hd : decode bytes pc = .ok (.iload_n i, 1)) (hp : pc' = pc + 1) (hl : Ls[i.val]? = some (.val (.int v))) (k : G T (mkF m pc' Ls (.int v :: st))) : G T (mkF m pc Ls st) := by
  obtain ⟨hG, ⟨c1, c2, -⟩, L, X, -⟩ := X
  subst hp
  exact hG _ _ _ _ (fun t q => XS.iloadN X.here c1 rfl (hb c2 hd) hl q) k
theorem own_iload (X : own_At G p l e R s m args below meth c Z n0 own nm bytes maxL ret T h cells slots) {pc pc' : Nat} {Ls : Array Slot} {st : List Value} {i : Nat} {v : Int32} (hd : decode bytes pc = .ok (.iload i, 2)) (hp : pc' = pc + 2) (hl : Ls[i]? = some (.val (.int v))) (k : G T (mkF m pc' Ls (.int v :: st))) : G T (mkF m pc Ls st) := by
  obtain ⟨hG, ⟨c1, c2, -⟩, L, X, -⟩ := X
  subst hp
  exact hG _ _ _ _ (fun t q => XS.iload X.here c1 rfl (hb c2 hd) hl q) k
theorem own_istore_n (X : own_At G p l e R s m args below meth c Z n0 own nm bytes maxL ret T h cells slots) {pc pc' : Nat} {Ls : Array Slot} {st : List Value} {i : Fin 4} {v : Int32} {Ls' : Array Slot} (hd : decode bytes pc = .ok (.istore_n i, 1)) (hp : pc' = pc + 1) (hl : storeLocals Ls i.val (.int v) = some Ls') (k : G T (mkF m pc' Ls' st)) : G T (mkF m pc Ls (.int v :: st)) := by
  obtain ⟨hG, ⟨c1, c2, -⟩, L, X, -⟩ := X
  subst hp
  exact hG _ _ _ _ (fun t q => XS.istoreN X.here c1 rfl (hb c2 hd) rfl hl q) k
theorem own_istore (X : own_At G p l e R s m args below meth c Z n0 own nm bytes maxL ret T h cells slots) {pc pc' : Nat} {Ls : Array Slot} {st : List Value} {i : Nat} {v : Int32} {Ls' : Array Slot} (hd : decode bytes pc = .ok (.istore i, 2)) (hp : pc' = pc + 2) (hl : storeLocals Ls i (.int v) = some Ls') (k : G T (mkF m pc' Ls' st)) : G T (mkF m pc Ls (.int v :: st)) := by
  obtain ⟨hG, ⟨c1, c2, -⟩, L, X, -⟩ := X
  subst hp
  exact hG _ _ _ _ (fun t q => XS.istore X.here c1 rfl (hb c2 hd) rfl hl q) k
theorem own_lload_n (X : own_At G p l e R s m args below meth c Z n0 own nm bytes maxL ret T h cells slots) {pc pc' : Nat} {Ls : Array Slot} {st : List Value} {i : Fin 4} {v : Int64} (hd : decode bytes pc = .ok (.lload_n i, 1)) (hp : pc' = pc + 1) (hl : Ls[i.val]? = some (.val (.long v))) (k : G T (mkF m pc' Ls (.long v :: st))) : G T (mkF m pc Ls st) := by
  obtain ⟨hG, ⟨c1, c2, -⟩, L, X, -⟩ := X
  subst hp
  exact hG _ _ _ _ (fun t q => XS.lloadN X.here c1 rfl (hb c2 hd) hl q) k
theorem own_lload (X : own_At G p l e R s m args below meth c Z n0 own nm bytes maxL ret T h cells slots) {pc pc' : Nat} {Ls : Array Slot} {st : List Value} {i : Nat} {v : Int64} (hd : decode bytes pc = .ok (.lload i, 2)) (hp : pc' = pc + 2) (hl : Ls[i]? = some (.val (.long v))) (k : G T (mkF m pc' Ls (.long v :: st))) : G T (mkF m pc Ls st) := by
  obtain ⟨hG, ⟨c1, c2, -⟩, L, X, -⟩ := X
  subst hp
  exact hG _ _ _ _ (fun t q => XS.lload X.here c1 rfl (hb c2 hd) hl q) k
theorem own_lstore_n (X : own_At G p l e R s m args below meth c Z n0 own nm bytes maxL ret T h cells slots) {pc pc' : Nat} {Ls : Array Slot} {st : List Value} {i : Fin 4} {v : Int64} {Ls' : Array Slot} (hd : decode bytes pc = .ok (.lstore_n i, 1)) (hp : pc' = pc + 1) (hl : storeLocals Ls i.val (.long v) = some Ls') (k : G T (mkF m pc' Ls' st)) : G T (mkF m pc Ls (.long v :: st)) := by
  obtain ⟨hG, ⟨c1, c2, -⟩, L, X, -⟩ := X
  subst hp
  exact hG _ _ _ _ (fun t q => XS.lstoreN X.here c1 rfl (hb c2 hd) rfl hl q) k
theorem own_lstore (X : own_At G p l e R s m args below meth c Z n0 own nm bytes maxL ret T h cells slots) {pc pc' : Nat} {Ls : Array Slot} {st : List Value} {i : Nat} {v : Int64} {Ls' : Array Slot} (hd : decode bytes pc = .ok (.lstore i, 2)) (hp : pc' = pc + 2) (hl : storeLocals Ls i (.long v) = some Ls') (k : G T (mkF m pc' Ls' st)) : G T (mkF m pc Ls (.long v :: st)) := by
  obtain ⟨hG, ⟨c1, c2, -⟩, L, X, -⟩ := X
  subst hp
  exact hG _ _ _ _ (fun t q => XS.lstore X.here c1 rfl (hb c2 hd) rfl hl q) k
theorem own_aload_n (X : own_At G p l e R s m args below meth c Z n0 own nm bytes maxL ret T h cells slots) {pc pc' : Nat} {Ls : Array Slot} {st : List Value} {i : Fin 4} {v : Value} (hd : decode bytes pc = .ok (.aload_n i, 1)) (hp : pc' = pc + 1) (hl : Ls[i.val]? = some (.val v)) (hv : v.isRef = true) (k : G T (mkF m pc' Ls (v :: st))) : G T (mkF m pc Ls st) := by
  obtain ⟨hG, ⟨c1, c2, -⟩, L, X, -⟩ := X
  subst hp
  exact hG _ _ _ _ (fun t q => XS.aloadN X.here c1 rfl (hb c2 hd) hl hv q) k
theorem own_aload (X : own_At G p l e R s m args below meth c Z n0 own nm bytes maxL ret T h cells slots) {pc pc' : Nat} {Ls : Array Slot} {st : List Value} {i : Nat} {v : Value} (hd : decode bytes pc = .ok (.aload i, 2)) (hp : pc' = pc + 2) (hl : Ls[i]? = some (.val v)) (hv : v.isRef = true) (k : G T (mkF m pc' Ls (v :: st))) : G T (mkF m pc Ls st) := by
  obtain ⟨hG, ⟨c1, c2, -⟩, L, X, -⟩ := X
  subst hp
  exact hG _ _ _ _ (fun t q => XS.aload X.here c1 rfl (hb c2 hd) hl hv q) k
theorem own_astore_n (X : own_At G p l e R s m args below meth c Z n0 own nm bytes maxL ret T h cells slots) {pc pc' : Nat} {Ls : Array Slot} {st : List Value} {i : Fin 4} {v : Value} {Ls' : Array Slot} (hd : decode bytes pc = .ok (.astore_n i, 1)) (hp : pc' = pc + 1) (hv : v.isRef = true) (hl : storeLocals Ls i.val v = some Ls') (k : G T (mkF m pc' Ls' st)) : G T (mkF m pc Ls (v :: st)) := by
  obtain ⟨hG, ⟨c1, c2, -⟩, L, X, -⟩ := X
  subst hp
  exact hG _ _ _ _ (fun t q => XS.astoreN X.here c1 rfl (hb c2 hd) rfl hv hl q) k
theorem own_astore (X : own_At G p l e R s m args below meth c Z n0 own nm bytes maxL ret T h cells slots) {pc pc' : Nat} {Ls : Array Slot} {st : List Value} {i : Nat} {v : Value} {Ls' : Array Slot} (hd : decode bytes pc = .ok (.astore i, 2)) (hp : pc' = pc + 2) (hv : v.isRef = true) (hl : storeLocals Ls i v = some Ls') (k : G T (mkF m pc' Ls' st)) : G T (mkF m pc Ls (v :: st)) := by
  obtain ⟨hG, ⟨c1, c2, -⟩, L, X, -⟩ := X
  subst hp
  exact hG _ _ _ _ (fun t q => XS.astore X.here c1 rfl (hb c2 hd) rfl hv hl q) k
theorem own_iinc (X : own_At G p l e R s m args below meth c Z n0 own nm bytes maxL ret T h cells slots) {pc pc' : Nat} {Ls : Array Slot} {st : List Value} {i : Nat} {cst : Int} {v z r : Int32} {Ls' : Array Slot} (hd : decode bytes pc = .ok (.iinc i cst, 3)) (hp : pc' = pc + 3) (hl : Ls[i]? = some (.val (.int v))) (hz : Int32.ofInt cst = z) (hr : v + z = r) (hs : storeLocals Ls i (.int r) = some Ls') (k : G T (mkF m pc' Ls' st)) : G T (mkF m pc Ls st) := by
  obtain ⟨hG, ⟨c1, c2, -⟩, L, X, -⟩ := X
  subst hp
  exact hG _ _ _ _ (fun t q => XS.iinc X.here c1 rfl (hb c2 hd) hl (by rw [hz, hr]; exact hs) q) k
theorem own_xpop2 {locs : List Loc} {target : State} (X : Stand p l e R s m args below meth c T locs cells slots) (hx : p.tables.exec = Jvm.exec) {pc : Nat} {Ls : Array Slot} {x : Int64} {rest : List Value} (hd : decode c.code pc = .ok (.pop2, 1)) (hr : Steps p.tables e below (T.setTop (mkF m (pc + 1) Ls rest)) target) : Steps p.tables e below (T.setTop (mkF m pc Ls (.long x :: rest))) target := by
  jvm_step X.here [X.here.top, hx, hd, pop2.sem, Value.category]
  exact hr
theorem own_iadd (X : own_At G p l e R s m args below meth c Z n0 own nm bytes maxL ret T h cells slots) {pc pc' : Nat} {Ls : Array Slot} {st : List Value} {x y r : Int32} (hd : decode bytes pc = .ok (.iadd, 1)) (hp : pc' = pc + 1) (hr : x + y = r) (k : G T (mkF m pc' Ls (.int r :: st))) : G T (mkF m pc Ls (.int y :: .int x :: st)) := by
  obtain ⟨hG, ⟨c1, c2, -⟩, L, X, -⟩ := X
  subst hp
  exact hG _ _ _ _ (fun t q => XS.iadd X.here c1 rfl (hb c2 hd) rfl (by subst hr; exact q)) k
theorem own_isub (X : own_At G p l e R s m args below meth c Z n0 own nm bytes maxL ret T h cells slots) {pc pc' : Nat} {Ls : Array Slot} {st : List Value} {x y r : Int32} (hd : decode bytes pc = .ok (.isub, 1)) (hp : pc' = pc + 1) (hr : x - y = r) (k : G T (mkF m pc' Ls (.int r :: st))) : G T (mkF m pc Ls (.int y :: .int x :: st)) := by
  obtain ⟨hG, ⟨c1, c2, -⟩, L, X, -⟩ := X
  subst hp
  exact hG _ _ _ _ (fun t q => XS.isub X.here c1 rfl (hb c2 hd) rfl (by subst hr; exact q)) k
theorem own_imul (X : own_At G p l e R s m args below meth c Z n0 own nm bytes maxL ret T h cells slots) {pc pc' : Nat} {Ls : Array Slot} {st : List Value} {x y r : Int32} (hd : decode bytes pc = .ok (.imul, 1)) (hp : pc' = pc + 1) (hr : x * y = r) (k : G T (mkF m pc' Ls (.int r :: st))) : G T (mkF m pc Ls (.int y :: .int x :: st)) := by
  obtain ⟨hG, ⟨c1, c2, -⟩, L, X, -⟩ := X
  subst hp
  exact hG _ _ _ _ (fun t q => XS.imul X.here c1 rfl (hb c2 hd) rfl (by subst hr; exact q)) k
theorem own_iand (X : own_At G p l e R s m args below meth c Z n0 own nm bytes maxL ret T h cells slots) {pc pc' : Nat} {Ls : Array Slot} {st : List Value} {x y r : Int32} (hd : decode bytes pc = .ok (.iand, 1)) (hp : pc' = pc + 1) (hr : x &&& y = r) (k : G T (mkF m pc' Ls (.int r :: st))) : G T (mkF m pc Ls (.int y :: .int x :: st)) := by
  obtain ⟨hG, ⟨c1, c2, -⟩, L, X, -⟩ := X
  subst hp
  exact hG _ _ _ _ (fun t q => XS.iand X.here c1 rfl (hb c2 hd) rfl (by subst hr; exact q)) k
theorem own_ior (X : own_At G p l e R s m args below meth c Z n0 own nm bytes maxL ret T h cells slots) {pc pc' : Nat} {Ls : Array Slot} {st : List Value} {x y r : Int32} (hd : decode bytes pc = .ok (.ior, 1)) (hp : pc' = pc + 1) (hr : x ||| y = r) (k : G T (mkF m pc' Ls (.int r :: st))) : G T (mkF m pc Ls (.int y :: .int x :: st)) := by
  obtain ⟨hG, ⟨c1, c2, -⟩, L, X, -⟩ := X
  subst hp
  exact hG _ _ _ _ (fun t q => XS.ior X.here c1 rfl (hb c2 hd) rfl (by subst hr; exact q)) k
theorem own_ixor (X : own_At G p l e R s m args below meth c Z n0 own nm bytes maxL ret T h cells slots) {pc pc' : Nat} {Ls : Array Slot} {st : List Value} {x y r : Int32} (hd : decode bytes pc = .ok (.ixor, 1)) (hp : pc' = pc + 1) (hr : x ^^^ y = r) (k : G T (mkF m pc' Ls (.int r :: st))) : G T (mkF m pc Ls (.int y :: .int x :: st)) := by
  obtain ⟨hG, ⟨c1, c2, -⟩, L, X, -⟩ := X
  subst hp
  exact hG _ _ _ _ (fun t q => XS.ixor X.here c1 rfl (hb c2 hd) rfl (by subst hr; exact q)) k
theorem own_ishl (X : own_At G p l e R s m args below meth c Z n0 own nm bytes maxL ret T h cells slots) {pc pc' : Nat} {Ls : Array Slot} {st : List Value} {x y r : Int32} (hd : decode bytes pc = .ok (.ishl, 1)) (hp : pc' = pc + 1) (hr : x <<< (y &&& 31) = r) (k : G T (mkF m pc' Ls (.int r :: st))) : G T (mkF m pc Ls (.int y :: .int x :: st)) := by
  obtain ⟨hG, ⟨c1, c2, -⟩, L, X, -⟩ := X
  subst hp
  exact hG _ _ _ _ (fun t q => XS.ishl X.here c1 rfl (hb c2 hd) rfl (by subst hr; exact q)) k
theorem own_ishr (X : own_At G p l e R s m args below meth c Z n0 own nm bytes maxL ret T h cells slots) {pc pc' : Nat} {Ls : Array Slot} {st : List Value} {x y r : Int32} (hd : decode bytes pc = .ok (.ishr, 1)) (hp : pc' = pc + 1) (hr : x >>> (y &&& 31) = r) (k : G T (mkF m pc' Ls (.int r :: st))) : G T (mkF m pc Ls (.int y :: .int x :: st)) := by
  obtain ⟨hG, ⟨c1, c2, -⟩, L, X, -⟩ := X
  subst hp
  exact hG _ _ _ _ (fun t q => XS.ishr X.here c1 rfl (hb c2 hd) rfl (by subst hr; exact q)) k
theorem own_iushr (X : own_At G p l e R s m args below meth c Z n0 own nm bytes maxL ret T h cells slots) {pc pc' : Nat} {Ls : Array Slot} {st : List Value} {x y r : Int32} (hd : decode bytes pc = .ok (.iushr, 1)) (hp : pc' = pc + 1) (hr : own_ushr x y = r) (k : G T (mkF m pc' Ls (.int r :: st))) : G T (mkF m pc Ls (.int y :: .int x :: st)) := by
  obtain ⟨hG, ⟨c1, c2, -⟩, L, X, -⟩ := X
  subst hp
  exact hG _ _ _ _ (fun t q => XS.iushr X.here c1 rfl (hb c2 hd) rfl (by subst hr; exact q)) k
theorem own_ladd (X : own_At G p l e R s m args below meth c Z n0 own nm bytes maxL ret T h cells slots) {pc pc' : Nat} {Ls : Array Slot} {st : List Value} {x y r : Int64} (hd : decode bytes pc = .ok (.ladd, 1)) (hp : pc' = pc + 1) (hr : x + y = r) (k : G T (mkF m pc' Ls (.long r :: st))) : G T (mkF m pc Ls (.long y :: .long x :: st)) := by
  obtain ⟨hG, ⟨c1, c2, -⟩, L, X, -⟩ := X
  subst hp
  exact hG _ _ _ _ (fun t q => XS.ladd X.here c1 rfl (hb c2 hd) rfl (by subst hr; exact q)) k
theorem own_lsub (X : own_At G p l e R s m args below meth c Z n0 own nm bytes maxL ret T h cells slots) {pc pc' : Nat} {Ls : Array Slot} {st : List Value} {x y r : Int64} (hd : decode bytes pc = .ok (.lsub, 1)) (hp : pc' = pc + 1) (hr : x - y = r) (k : G T (mkF m pc' Ls (.long r :: st))) : G T (mkF m pc Ls (.long y :: .long x :: st)) := by
  obtain ⟨hG, ⟨c1, c2, -⟩, L, X, -⟩ := X
  subst hp
  exact hG _ _ _ _ (fun t q => XS.lsub X.here c1 rfl (hb c2 hd) rfl (by subst hr; exact q)) k
theorem own_lmul (X : own_At G p l e R s m args below meth c Z n0 own nm bytes maxL ret T h cells slots) {pc pc' : Nat} {Ls : Array Slot} {st : List Value} {x y r : Int64} (hd : decode bytes pc = .ok (.lmul, 1)) (hp : pc' = pc + 1) (hr : x * y = r) (k : G T (mkF m pc' Ls (.long r :: st))) : G T (mkF m pc Ls (.long y :: .long x :: st)) := by
  obtain ⟨hG, ⟨c1, c2, -⟩, L, X, -⟩ := X
  subst hp
  exact hG _ _ _ _ (fun t q => XS.lmul X.here c1 rfl (hb c2 hd) rfl (by subst hr; exact q)) k
theorem own_land (X : own_At G p l e R s m args below meth c Z n0 own nm bytes maxL ret T h cells slots) {pc pc' : Nat} {Ls : Array Slot} {st : List Value} {x y r : Int64} (hd : decode bytes pc = .ok (.land, 1)) (hp : pc' = pc + 1) (hr : x &&& y = r) (k : G T (mkF m pc' Ls (.long r :: st))) : G T (mkF m pc Ls (.long y :: .long x :: st)) := by
  obtain ⟨hG, ⟨c1, c2, -⟩, L, X, -⟩ := X
  subst hp
  exact hG _ _ _ _ (fun t q => XS.land X.here c1 rfl (hb c2 hd) rfl (by subst hr; exact q)) k
theorem own_lor (X : own_At G p l e R s m args below meth c Z n0 own nm bytes maxL ret T h cells slots) {pc pc' : Nat} {Ls : Array Slot} {st : List Value} {x y r : Int64} (hd : decode bytes pc = .ok (.lor, 1)) (hp : pc' = pc + 1) (hr : x ||| y = r) (k : G T (mkF m pc' Ls (.long r :: st))) : G T (mkF m pc Ls (.long y :: .long x :: st)) := by
  obtain ⟨hG, ⟨c1, c2, -⟩, L, X, -⟩ := X
  subst hp
  exact hG _ _ _ _ (fun t q => XS.lor X.here c1 rfl (hb c2 hd) rfl (by subst hr; exact q)) k
theorem own_lxor (X : own_At G p l e R s m args below meth c Z n0 own nm bytes maxL ret T h cells slots) {pc pc' : Nat} {Ls : Array Slot} {st : List Value} {x y r : Int64} (hd : decode bytes pc = .ok (.lxor, 1)) (hp : pc' = pc + 1) (hr : x ^^^ y = r) (k : G T (mkF m pc' Ls (.long r :: st))) : G T (mkF m pc Ls (.long y :: .long x :: st)) := by
  obtain ⟨hG, ⟨c1, c2, -⟩, L, X, -⟩ := X
  subst hp
  exact hG _ _ _ _ (fun t q => XS.lxor X.here c1 rfl (hb c2 hd) rfl (by subst hr; exact q)) k
theorem own_lshl (X : own_At G p l e R s m args below meth c Z n0 own nm bytes maxL ret T h cells slots) {pc pc' : Nat} {Ls : Array Slot} {st : List Value} {x r : Int64} {y : Int32} (hd : decode bytes pc = .ok (.lshl, 1)) (hp : pc' = pc + 1) (hr : x <<< (y &&& 0x3f).toInt64 = r) (k : G T (mkF m pc' Ls (.long r :: st))) : G T (mkF m pc Ls (.int y :: .long x :: st)) := by
  obtain ⟨hG, ⟨c1, c2, -⟩, L, X, -⟩ := X
  subst hp
  exact hG _ _ _ _ (fun t q => XS.lshl X.here c1 rfl (hb c2 hd) rfl (by subst hr; exact q)) k
theorem own_lshr (X : own_At G p l e R s m args below meth c Z n0 own nm bytes maxL ret T h cells slots) {pc pc' : Nat} {Ls : Array Slot} {st : List Value} {x r : Int64} {y : Int32} (hd : decode bytes pc = .ok (.lshr, 1)) (hp : pc' = pc + 1) (hr : x >>> (y &&& 0x3f).toInt64 = r) (k : G T (mkF m pc' Ls (.long r :: st))) : G T (mkF m pc Ls (.int y :: .long x :: st)) := by
  obtain ⟨hG, ⟨c1, c2, -⟩, L, X, -⟩ := X
  subst hp
  exact hG _ _ _ _ (fun t q => XS.lshr X.here c1 rfl (hb c2 hd) rfl (by subst hr; exact q)) k
theorem own_idiv (X : own_At G p l e R s m args below meth c Z n0 own nm bytes maxL ret T h cells slots) {pc pc' : Nat} {Ls : Array Slot} {st : List Value} {x y : Int32} (hd : decode bytes pc = .ok (.idiv, 1)) (hp : pc' = pc + 1) (hy : y ≠ 0) (k : G T (mkF m pc' Ls (.int (x / y) :: st))) : G T (mkF m pc Ls (.int y :: .int x :: st)) := by
  obtain ⟨hG, ⟨c1, c2, -⟩, L, X, -⟩ := X
  subst hp
  exact hG _ _ _ _ (fun t q => XS.idiv X.here c1 rfl (hb c2 hd) rfl hy q) k
theorem own_irem (X : own_At G p l e R s m args below meth c Z n0 own nm bytes maxL ret T h cells slots) {pc pc' : Nat} {Ls : Array Slot} {st : List Value} {x y : Int32} (hd : decode bytes pc = .ok (.irem, 1)) (hp : pc' = pc + 1) (hy : y ≠ 0) (k : G T (mkF m pc' Ls (.int (x % y) :: st))) : G T (mkF m pc Ls (.int y :: .int x :: st)) := by
  obtain ⟨hG, ⟨c1, c2, -⟩, L, X, -⟩ := X
  subst hp
  exact hG _ _ _ _ (fun t q => iremM X c1 rfl (hb c2 hd) rfl hy q) k
theorem own_ldiv (X : own_At G p l e R s m args below meth c Z n0 own nm bytes maxL ret T h cells slots) {pc pc' : Nat} {Ls : Array Slot} {st : List Value} {x y : Int64} (hd : decode bytes pc = .ok (.ldiv, 1)) (hp : pc' = pc + 1) (hy : y ≠ 0) (k : G T (mkF m pc' Ls (.long (x / y) :: st))) : G T (mkF m pc Ls (.long y :: .long x :: st)) := by
  obtain ⟨hG, ⟨c1, c2, -⟩, L, X, -⟩ := X
  subst hp
  exact hG _ _ _ _ (fun t q => XS.ldiv X.here c1 rfl (hb c2 hd) rfl hy q) k
theorem own_lrem (X : own_At G p l e R s m args below meth c Z n0 own nm bytes maxL ret T h cells slots) {pc pc' : Nat} {Ls : Array Slot} {st : List Value} {x y : Int64} (hd : decode bytes pc = .ok (.lrem, 1)) (hp : pc' = pc + 1) (hy : y ≠ 0) (k : G T (mkF m pc' Ls (.long (x % y) :: st))) : G T (mkF m pc Ls (.long y :: .long x :: st)) := by
  obtain ⟨hG, ⟨c1, c2, -⟩, L, X, -⟩ := X
  subst hp
  exact hG _ _ _ _ (fun t q => XS.lrem X.here c1 rfl (hb c2 hd) rfl hy (by rw [lrem_mod]; exact q)) k
theorem own_ineg (X : own_At G p l e R s m args below meth c Z n0 own nm bytes maxL ret T h cells slots) {pc pc' : Nat} {Ls : Array Slot} {st : List Value} {x : Int32} (hd : decode bytes pc = .ok (.ineg, 1)) (hp : pc' = pc + 1)  (k : G T (mkF m pc' Ls (.int (-x) :: st))) : G T (mkF m pc Ls (.int x :: st)) := by
  obtain ⟨hG, ⟨c1, c2, -⟩, L, X, -⟩ := X
  subst hp
  exact hG _ _ _ _ (fun t q => XS.ineg X.here c1 rfl (hb c2 hd) rfl q) k
theorem own_i2c (X : own_At G p l e R s m args below meth c Z n0 own nm bytes maxL ret T h cells slots) {pc pc' : Nat} {Ls : Array Slot} {st : List Value} {x : Int32} (hd : decode bytes pc = .ok (.i2c, 1)) (hp : pc' = pc + 1)  (k : G T (mkF m pc' Ls (.int (own_c16 x) :: st))) : G T (mkF m pc Ls (.int x :: st)) := by
  obtain ⟨hG, ⟨c1, c2, -⟩, L, X, -⟩ := X
  subst hp
  exact hG _ _ _ _ (fun t q => XS.i2c X.here c1 rfl (hb c2 hd) rfl q) k
theorem own_i2b (X : own_At G p l e R s m args below meth c Z n0 own nm bytes maxL ret T h cells slots) {pc pc' : Nat} {Ls : Array Slot} {st : List Value} {x : Int32} (hd : decode bytes pc = .ok (.i2b, 1)) (hp : pc' = pc + 1)  (k : G T (mkF m pc' Ls (.int (own_b8 x) :: st))) : G T (mkF m pc Ls (.int x :: st)) := by
  obtain ⟨hG, ⟨c1, c2, -⟩, L, X, -⟩ := X
  subst hp
  exact hG _ _ _ _ (fun t q => XS.i2b X.here c1 rfl (hb c2 hd) rfl q) k
theorem own_i2l (X : own_At G p l e R s m args below meth c Z n0 own nm bytes maxL ret T h cells slots) {pc pc' : Nat} {Ls : Array Slot} {st : List Value} {x : Int32} {r : Int64} (hd : decode bytes pc = .ok (.i2l, 1)) (hp : pc' = pc + 1) (hr : x.toInt64 = r) (k : G T (mkF m pc' Ls (.long r :: st))) : G T (mkF m pc Ls (.int x :: st)) := by
  obtain ⟨hG, ⟨c1, c2, -⟩, L, X, -⟩ := X
  subst hp
  exact hG _ _ _ _ (fun t q => XS.i2l X.here c1 rfl (hb c2 hd) rfl (by subst hr; exact q)) k
theorem own_l2i (X : own_At G p l e R s m args below meth c Z n0 own nm bytes maxL ret T h cells slots) {pc pc' : Nat} {Ls : Array Slot} {st : List Value} {x : Int64} {r : Int32} (hd : decode bytes pc = .ok (.l2i, 1)) (hp : pc' = pc + 1) (hr : x.toInt32 = r) (k : G T (mkF m pc' Ls (.int r :: st))) : G T (mkF m pc Ls (.long x :: st)) := by
  obtain ⟨hG, ⟨c1, c2, -⟩, L, X, -⟩ := X
  subst hp
  exact hG _ _ _ _ (fun t q => XS.l2i X.here c1 rfl (hb c2 hd) rfl (by subst hr; exact q)) k
theorem own_pop2L (X : own_At G p l e R s m args below meth c Z n0 own nm bytes maxL ret T h cells slots) {pc pc' : Nat} {Ls : Array Slot} {st : List Value} {x : Int64} (hd : decode bytes pc = .ok (.pop2, 1)) (hp : pc' = pc + 1)  (k : G T (mkF m pc' Ls st)) : G T (mkF m pc Ls (.long x :: st)) := by
  obtain ⟨hG, ⟨c1, c2, -⟩, L, X, -⟩ := X
  subst hp
  exact hG _ _ _ _ (fun t q => own_xpop2 X c1 (hb c2 hd) q) k
theorem own_lcmp (X : own_At G p l e R s m args below meth c Z n0 own nm bytes maxL ret T h cells slots) {pc pc' : Nat} {Ls : Array Slot} {st : List Value} {x y : Int64} (hd : decode bytes pc = .ok (.lcmp, 1)) (hp : pc' = pc + 1)  (k : G T (mkF m pc' Ls (.int (lcmpW x y) :: st))) : G T (mkF m pc Ls (.long y :: .long x :: st)) := by
  obtain ⟨hG, ⟨c1, c2, -⟩, L, X, -⟩ := X
  subst hp
  exact hG _ _ _ _ (fun t q => XS.lcmp X.here c1 rfl (hb c2 hd) rfl q) k
theorem own_dup (X : own_At G p l e R s m args below meth c Z n0 own nm bytes maxL ret T h cells slots) {pc pc' : Nat} {Ls : Array Slot} {st : List Value} {x : Value} (hd : decode bytes pc = .ok (.dup, 1)) (hp : pc' = pc + 1) (hc : x.category = 1) (k : G T (mkF m pc' Ls (x :: x :: st))) : G T (mkF m pc Ls (x :: st)) := by
  obtain ⟨hG, ⟨c1, c2, -⟩, L, X, -⟩ := X
  subst hp
  exact hG _ _ _ _ (fun t q => XS.dup X.here c1 rfl (hb c2 hd) rfl hc q) k
theorem own_pop (X : own_At G p l e R s m args below meth c Z n0 own nm bytes maxL ret T h cells slots) {pc pc' : Nat} {Ls : Array Slot} {st : List Value} {x : Value} (hd : decode bytes pc = .ok (.pop, 1)) (hp : pc' = pc + 1) (hc : x.category = 1) (k : G T (mkF m pc' Ls st)) : G T (mkF m pc Ls (x :: st)) := by
  obtain ⟨hG, ⟨c1, c2, -⟩, L, X, -⟩ := X
  subst hp
  exact hG _ _ _ _ (fun t q => XS.pop X.here c1 rfl (hb c2 hd) rfl hc q) k
theorem own_dup_x1 (X : own_At G p l e R s m args below meth c Z n0 own nm bytes maxL ret T h cells slots) {pc pc' : Nat} {Ls : Array Slot} {st : List Value} {x y : Value} (hd : decode bytes pc = .ok (.dup_x1, 1)) (hp : pc' = pc + 1) (hc : x.category = 1) (hc2 : y.category = 1) (k : G T (mkF m pc' Ls (x :: y :: x :: st))) : G T (mkF m pc Ls (x :: y :: st)) := by
  obtain ⟨hG, ⟨c1, c2, -⟩, L, X, -⟩ := X
  subst hp
  exact hG _ _ _ _ (fun t q => XS.dupX1 X.here c1 rfl (hb c2 hd) rfl hc hc2 q) k
theorem own_goto (X : own_At G p l e R s m args below meth c Z n0 own nm bytes maxL ret T h cells slots) {pc pc' : Nat} {Ls : Array Slot} {st : List Value} {o : Int}  (hd : decode bytes pc = .ok (.goto o, 3))  (ho : 0 ≤ (pc : Int) + o) (hp : ((pc : Int) + o).toNat = pc') (k : G T (mkF m pc' Ls st)) : G T (mkF m pc Ls st) := by
  obtain ⟨hG, ⟨c1, c2, -⟩, L, X, -⟩ := X
  exact hG _ _ _ _ (fun t q => XS.goto X.here c1 rfl rfl (hb c2 hd) ho hp q) k
theorem own_ifY (X : own_At G p l e R s m args below meth c Z n0 own nm bytes maxL ret T h cells slots) {pc pc' : Nat} {Ls : Array Slot} {st : List Value} {o : Int} {cd : ClassFile.Cond} {x : Int32} (hd : decode bytes pc = .ok (.ifCond cd o, 3)) (hc : if_icmp.holds cd x 0 = true) (ho : 0 ≤ (pc : Int) + o) (hp : ((pc : Int) + o).toNat = pc') (k : G T (mkF m pc' Ls st)) : G T (mkF m pc Ls (.int x :: st)) := by
  obtain ⟨hG, ⟨c1, c2, -⟩, L, X, -⟩ := X
  exact hG _ _ _ _ (fun t q => XS.ifYes X.here c1 rfl rfl (hb c2 hd) rfl ((if0 _ _).trans hc) ho hp q) k
theorem own_ifN (X : own_At G p l e R s m args below meth c Z n0 own nm bytes maxL ret T h cells slots) {pc pc' : Nat} {Ls : Array Slot} {st : List Value} {o : Int} {cd : ClassFile.Cond} {x : Int32} (hd : decode bytes pc = .ok (.ifCond cd o, 3)) (hp : pc' = pc + 3) (hc : if_icmp.holds cd x 0 = false) (k : G T (mkF m pc' Ls st)) : G T (mkF m pc Ls (.int x :: st)) := by
  obtain ⟨hG, ⟨c1, c2, -⟩, L, X, -⟩ := X
  subst hp
  exact hG _ _ _ _ (fun t q => XS.ifNo X.here c1 rfl (hb c2 hd) rfl ((if0 _ _).trans hc) q) k
theorem own_icmpY (X : own_At G p l e R s m args below meth c Z n0 own nm bytes maxL ret T h cells slots) {pc pc' : Nat} {Ls : Array Slot} {st : List Value} {o : Int} {cd : ClassFile.Cond} {x y : Int32} (hd : decode bytes pc = .ok (.if_icmp cd o, 3)) (hc : if_icmp.holds cd x y = true) (ho : 0 ≤ (pc : Int) + o) (hp : ((pc : Int) + o).toNat = pc') (k : G T (mkF m pc' Ls st)) : G T (mkF m pc Ls (.int y :: .int x :: st)) := by
  obtain ⟨hG, ⟨c1, c2, -⟩, L, X, -⟩ := X
  exact hG _ _ _ _ (fun t q => XS.icmpYes X.here c1 rfl rfl (hb c2 hd) rfl hc ho hp q) k
theorem own_icmpN (X : own_At G p l e R s m args below meth c Z n0 own nm bytes maxL ret T h cells slots) {pc pc' : Nat} {Ls : Array Slot} {st : List Value} {o : Int} {cd : ClassFile.Cond} {x y : Int32} (hd : decode bytes pc = .ok (.if_icmp cd o, 3)) (hp : pc' = pc + 3) (hc : if_icmp.holds cd x y = false) (k : G T (mkF m pc' Ls st)) : G T (mkF m pc Ls (.int y :: .int x :: st)) := by
  obtain ⟨hG, ⟨c1, c2, -⟩, L, X, -⟩ := X
  subst hp
  exact hG _ _ _ _ (fun t q => XS.icmpNo X.here c1 rfl (hb c2 hd) rfl hc q) k
theorem own_ifnullY (X : own_At G p l e R s m args below meth c Z n0 own nm bytes maxL ret T h cells slots) {pc pc' : Nat} {Ls : Array Slot} {st : List Value} {o : Int}  (hd : decode bytes pc = .ok (.ifnull o, 3))  (ho : 0 ≤ (pc : Int) + o) (hp : ((pc : Int) + o).toNat = pc') (k : G T (mkF m pc' Ls st)) : G T (mkF m pc Ls (.null :: st)) := by
  obtain ⟨hG, ⟨c1, c2, -⟩, L, X, -⟩ := X
  exact hG _ _ _ _ (fun t q => XS.ifnullYes X.here c1 rfl rfl (hb c2 hd) rfl ho hp q) k
theorem own_ifnullN (X : own_At G p l e R s m args below meth c Z n0 own nm bytes maxL ret T h cells slots) {pc pc' : Nat} {Ls : Array Slot} {st : List Value} {o : Int} {b : Addr} (hd : decode bytes pc = .ok (.ifnull o, 3)) (hp : pc' = pc + 3)  (k : G T (mkF m pc' Ls st)) : G T (mkF m pc Ls (.ref b :: st)) := by
  obtain ⟨hG, ⟨c1, c2, -⟩, L, X, -⟩ := X
  subst hp
  exact hG _ _ _ _ (fun t q => XS.ifnullNo X.here c1 rfl (hb c2 hd) rfl q) k
theorem own_ifnonnullY (X : own_At G p l e R s m args below meth c Z n0 own nm bytes maxL ret T h cells slots) {pc pc' : Nat} {Ls : Array Slot} {st : List Value} {o : Int} {b : Addr} (hd : decode bytes pc = .ok (.ifnonnull o, 3))  (ho : 0 ≤ (pc : Int) + o) (hp : ((pc : Int) + o).toNat = pc') (k : G T (mkF m pc' Ls st)) : G T (mkF m pc Ls (.ref b :: st)) := by
  obtain ⟨hG, ⟨c1, c2, -⟩, L, X, -⟩ := X
  exact hG _ _ _ _ (fun t q => XS.ifnonnullYes X.here c1 rfl rfl (hb c2 hd) rfl ho hp q) k
theorem own_ifnonnullN (X : own_At G p l e R s m args below meth c Z n0 own nm bytes maxL ret T h cells slots) {pc pc' : Nat} {Ls : Array Slot} {st : List Value} {o : Int}  (hd : decode bytes pc = .ok (.ifnonnull o, 3)) (hp : pc' = pc + 3)  (k : G T (mkF m pc' Ls st)) : G T (mkF m pc Ls (.null :: st)) := by
  obtain ⟨hG, ⟨c1, c2, -⟩, L, X, -⟩ := X
  subst hp
  exact hG _ _ _ _ (fun t q => XS.ifnonnullNo X.here c1 rfl (hb c2 hd) rfl q) k
theorem own_acmp (X : own_At G p l e R s m args below meth c Z n0 own nm bytes maxL ret T h cells slots) {pc pc' : Nat} {Ls : Array Slot} {st : List Value} {o : Int} {cd : ACond} {x y : Value} {same : Bool} (hd : decode bytes pc = .ok (.if_acmp cd o, 3)) (h1 : x.isRef = true) (h2 : y.isRef = true) (hq : decide (x = y) = same) (ho : 0 ≤ (pc : Int) + o) (hp : pc' = if acV cd same = true then ((pc : Int) + o).toNat else pc + 3) (k : G T (mkF m pc' Ls st)) : G T (mkF m pc Ls (y :: x :: st)) := by
  obtain ⟨hG, ⟨c1, c2, -⟩, L, X, -⟩ := X
  exact hG _ _ _ _ (fun t q => Jvm.RoadKit.acmp (g := mkF m pc Ls (y :: x :: st)) X c1 rfl h1 h2 rfl (hb c2 hd) rfl hq ho hp q) k
theorem own_lcY {cd : ClassFile.Cond} {x y : Int64} {P : Prop} [Decidable P] {b : Bool} (h : if_icmp.holds cd (lcmpW x y) 0 = decide P) (q : decide P = b) : if_icmp.holds cd (lcmpW x y) 0 = b := h.trans q
theorem own_lc_eq {x y : Int64} (q : x = y) : if_icmp.holds .eq (lcmpW x y) 0 = true ∧ if_icmp.holds .ne (lcmpW x y) 0 = false := teq ((lw_eq x y).mpr q)
theorem own_lc_ne {x y : Int64} (q : ¬ x = y) : if_icmp.holds .eq (lcmpW x y) 0 = false ∧ if_icmp.holds .ne (lcmpW x y) 0 = true := feq (mt (lw_eq x y).mp q)
theorem own_lc_lt {x y : Int64} (q : x < y) : if_icmp.holds .lt (lcmpW x y) 0 = true ∧ if_icmp.holds .ge (lcmpW x y) 0 = false := by have := tlt ((lw_lt x y).mpr q); exact ⟨this.1, this.2.1⟩
theorem own_lc_nlt {x y : Int64} (q : ¬ x < y) : if_icmp.holds .lt (lcmpW x y) 0 = false ∧ if_icmp.holds .ge (lcmpW x y) 0 = true := by have := flt (mt (lw_lt x y).mp q); exact ⟨this.1, this.2.1⟩
theorem own_lc_gt {x y : Int64} (q : y < x) : if_icmp.holds .gt (lcmpW x y) 0 = true ∧ if_icmp.holds .le (lcmpW x y) 0 = false := by have := tlt ((lw_gt x y).mpr q); exact ⟨this.2.2.1, this.2.2.2⟩
theorem own_lc_ngt {x y : Int64} (q : ¬ y < x) : if_icmp.holds .gt (lcmpW x y) 0 = false ∧ if_icmp.holds .le (lcmpW x y) 0 = true := by have := flt (mt (lw_gt x y).mp q); exact ⟨this.2.2.1, this.2.2.2⟩
theorem own_ldc2 (X : own_At G p l e R s m args below meth c Z n0 own nm bytes maxL ret T h cells slots) {pc pc' : Nat} {Ls : Array Slot} {st : List Value} {i : Nat} {v : Int64} (w : (Cond.constantLong own i v).before a0 Z = true) (hd : decode bytes pc = .ok (.ldc2_w i, 3)) (hp : pc' = pc + 3) (k : G T (mkF m pc' Ls (.long v :: st))) : G T (mkF m pc Ls st) := by
  obtain ⟨hG, ⟨c1, c2, hZ, hown, -⟩, L, X, -⟩ := X
  subst hp
  exact hG _ _ _ _ (X.ldc2Long c1 hown (mvT hZ w) (g := mkF m pc Ls st) rfl (hb c2 hd)) k
theorem own_ldcI (X : own_At G p l e R s m args below meth c Z n0 own nm bytes maxL ret T h cells slots) {pc pc' : Nat} {Ls : Array Slot} {st : List Value} {i : Nat} {v : Int32} (w : (Cond.constant own i v).before a0 Z = true) (hd : decode bytes pc = .ok (.ldc i, 2)) (hp : pc' = pc + 2) (k : G T (mkF m pc' Ls (.int v :: st))) : G T (mkF m pc Ls st) := by
  obtain ⟨hG, ⟨c1, c2, hZ, hown, -⟩, L, X, -⟩ := X
  subst hp
  exact hG _ _ _ _ (X.ldcInt c1 hown (mvT hZ w) (g := mkF m pc Ls st) rfl (hb c2 hd)) k
theorem own_ldcS (X : own_At G p l e R s m args below meth c Z n0 own nm bytes maxL ret T h cells slots) {pc pc' : Nat} {Ls : Array Slot} {st : List Value} {i : Nat} {text : String} {a : Addr} (w : (Cond.stringRef own i text).before a0 Z = true) (F : Lit Z own i a) (hd : decode bytes pc = .ok (.ldc i, 2)) (hp : pc' = pc + 2) (k : G T (mkF m pc' Ls (.ref a :: st))) : G T (mkF m pc Ls st) := by
  obtain ⟨hG, ⟨c1, c2, hZ, hown, -⟩, L, X, -⟩ := X
  subst hp
  exact hG _ _ _ _ (ldcR X c1 hZ hown w F (g := mkF m pc Ls st) rfl (hb c2 hd)) k
theorem own_get (X : own_At G p l e R s m args below meth c Z n0 own nm bytes maxL ret T h cells slots) {pc pc' : Nat} {Ls : Array Slot} {st : List Value} {i : Nat} {R0 O n d host : String} {a : Addr} {v : Value} (w : (Cond.fieldLink own i R0 n d).before a0 Z = true ∨ (Cond.fieldLinkNest own i R0 n d host).before a0 Z = true) (via : Via Z R0 O n d) (F : Fld Z h a O n d v) (hd : decode bytes pc = .ok (.getfield i, 3)) (hp : pc' = pc + 3)
    (k : ∀ T', own_At G p l e R s m args below meth c Z n0 own nm bytes maxL ret T' h cells slots → G T' (mkF m pc' Ls (v :: st))) : G T (mkF m pc Ls (.ref a :: st)) := by
  obtain ⟨hG, ⟨c1, c2, hZ, hown, c5⟩, L, X, N, eT, O⟩ := X
  subst hp
  obtain ⟨T', X', e', st'⟩ := getF X c1 hZ hown w via eT F (g := mkF m pc Ls (.ref a :: st)) rfl rfl (hb c2 hd)
  exact hG _ _ _ _ st' (k _ ⟨hG, ⟨c1, c2, hZ, hown, c5⟩, L, X', N, e', O⟩)
theorem own_getS (X : own_At G p l e R s m args below meth c Z n0 own nm bytes maxL ret T h cells slots) {pc pc' : Nat} {Ls : Array Slot} {st : List Value} {i : Nat} {R0 O n d : String} {v : Value} (w : (Cond.fieldLink own i R0 n d).before a0 Z = true) (via : Via Z R0 O n d) (F : Sta Z h O n d v) (hd : decode bytes pc = .ok (.getstatic i, 3)) (hp : pc' = pc + 3)
    (k : ∀ T', own_At G p l e R s m args below meth c Z n0 own nm bytes maxL ret T' h cells slots → G T' (mkF m pc' Ls (v :: st))) : G T (mkF m pc Ls st) := by
  obtain ⟨hG, ⟨c1, c2, hZ, hown, c5⟩, L, X, N, eT, O⟩ := X
  subst hp
  obtain ⟨T', X', e', st'⟩ := getS (host := "") X c1 hZ hown w via eT F (g := mkF m pc Ls st) rfl (hb c2 hd)
  exact hG _ _ _ _ st' (k _ ⟨hG, ⟨c1, c2, hZ, hown, c5⟩, L, X', N, e', O⟩)
theorem own_put (X : own_At G p l e R s m args below meth c Z n0 own nm bytes maxL ret T h cells slots) {pc pc' : Nat} {Ls : Array Slot} {st : List Value} {i kk : Nat} {R0 O n d host C : String} {a : Addr} {v old : Value} {ty : FieldType} (w : (Cond.fieldLink own i R0 n d).before a0 Z = true ∨ (Cond.fieldLinkNest own i R0 n d host).before a0 Z = true) (via : Via Z R0 O n d) (F : Fld Z h a O n d old) (E : Exa Z h a C)
    (hL : (Cond.lays C O n d).before a0 Z = true ∨ ((Cond.laysFinal C O n d).before a0 Z = true ∧ own = O ∧ nm = "<init>")) (wi : (Cond.instantiable C kk).before a0 Z = true) (hty : parseFieldDescriptor d = some ty) (hn : narrow ty v = v) (hf : fits ty v = true) (ha : n0 ≤ a) (hd : decode bytes pc = .ok (.putfield i, 3)) (hp : pc' = pc + 3)
    (k : ∀ T' h', own_At G p l e R s m args below meth c Z n0 own nm bytes maxL ret T' h' cells slots → Wr h h' a (Jvm.RoadKit.slotOf Z O n d) v → Keep h h' [a] → G T' (mkF m pc' Ls st)) : G T (mkF m pc Ls (v :: .ref a :: st)) := by
  obtain ⟨hG, ⟨c1, c2, hZ, hown, c5, c6, c7⟩, L, X, N, eT, O⟩ := X
  subst hp
  obtain ⟨T', h', X', e', W', st'⟩ := putF X c1 hZ hown w via eT F E (hL.imp id fun q => ⟨q.1, q.2.1, c6.trans q.2.2⟩) wi hty hn hf (g := mkF m pc Ls (v :: .ref a :: st)) rfl rfl (hb c2 hd)
  exact hG _ _ _ _ st' (k _ _ ⟨hG, ⟨c1, c2, hZ, hown, c5, c6, c7⟩, _, X', Fr.snoc X' N ha, e', O.wr W' ha⟩ W' (Keep.of_wr W'))
theorem own_new (X : own_At G p l e R s m args below meth c Z n0 own nm bytes maxL ret T h cells slots) {pc pc' cells' slots' : Nat} {Ls : Array Slot} {st : List Value} {i n : Nat} {C : String} (w : (Cond.classLink own i C).before a0 Z = true) (wi : (Cond.instantiable C n).before a0 Z = true) (wz : (Cond.initialized C).before a0 Z = true) (hd : decode bytes pc = .ok (.new i, 3)) (hp : pc' = pc + 3) (ec : cells' = cells + 1) (es : slots' = slots + n) (hc : cells' ≤ R.cells) (hl : slots' ≤ R.slots)
    (k : ∀ T' h' a, a = h.size → own_At G p l e R s m args below meth c Z n0 own nm bytes maxL ret T' h' cells' slots' → Keep h h' [] → Exa Z h' a C → (∀ {O nm d : String} {ty : FieldType}, Laid Z a0 C O nm d → parseFieldDescriptor d = some ty → Fld Z h' a O nm d (defaultValue ty)) → (∃ cell : Cell, h'[a]? = some cell ∧ cell.vm = .none ∧ cell.monitor = {}) → G T' (mkF m pc' Ls (.ref a :: st))) : G T (mkF m pc Ls st) := by
  obtain ⟨hG, ⟨c1, c2, hZ, hown, c5⟩, L, X, N, eT, O⟩ := X
  subst hp ec es
  obtain ⟨T', h', X', e', E', A', D', U', st'⟩ := newO X c1 hZ hown w wi wz eT (g := mkF m pc Ls st) rfl (hb c2 hd) hc hl
  exact hG _ _ _ _ st' (k _ _ _ rfl ⟨hG, ⟨c1, c2, hZ, hown, c5⟩, _, X', N, e', O.ext E'⟩ ((Keep.refl _ _).ext E') A' D' U')
theorem own_initO (X : own_At G p l e R s m args below meth c Z n0 own nm bytes maxL ret T h cells slots) {pc pc' : Nat} {Ls : Array Slot} {st : List Value} {i : Nat} {a : Addr} {W : Nat} (w1 : (Cond.methodLink own i Lib.objectInit).before a0 Z = true) (w2 : (Cond.instanceMethod Lib.objectInit).before a0 Z = true) (w3 : (Cond.code Lib.objectInit ⟨#[0xb1]⟩ 1 none).before a0 Z = true) (hsz : Ls.size = maxL) (hd : decode bytes pc = .ok (.invokespecial i, 3)) (hp : pc' = pc + 3)
    (hf : 1 ≤ R.frames) (hW : (st.map fun v => v.category).sum = W) (hl : W + 12 ≤ R.locals) (k : ∀ T', own_At G p l e R s m args below meth c Z n0 own nm bytes maxL ret T' h cells slots → G T' (mkF m pc' Ls st)) : G T (mkF m pc Ls (.ref a :: st)) := by
  obtain ⟨hG, ⟨c1, c2, hZ, hown, c5, c6⟩, L, X, N, eT, O⟩ := X
  subst hp
  obtain ⟨T', X', e', st'⟩ := initO X c1 hZ hown w1 w2 w3 eT (g := mkF m pc Ls (.ref a :: st)) rfl (hsz.trans c5.symm) rfl (hb c2 hd) hf (W := W) (by show 2 * 0 + _ ≤ _; rw [hW]; omega) hl
  exact hG _ _ _ _ st' (k _ ⟨hG, ⟨c1, c2, hZ, hown, c5, c6⟩, L, X', N, e', O⟩)
def own_Arr (Z : State) (h : Heap) (a : Addr) (k : ClassId) (ty : FieldType) (vs : List Value) : Prop := ∃ c : Cell, Arr Z h a c ty ∧ c.cls = k ∧ c.slots.toList = vs ∧ vs.length < 2 ^ 31 ∧ ∀ v ∈ vs, fits ty v = true
theorem own_Arr.lt {a : Addr} {k : ClassId} {ty : FieldType} {vs : List Value} (F : own_Arr Z h a k ty vs) : a < h.size := by obtain ⟨c, A, -⟩ := F; exact A.lt
theorem own_Arr.keep {h' : Heap} {a : Addr} {k : ClassId} {ty : FieldType} {vs : List Value} {ws : List Addr} (F : own_Arr Z h a k ty vs) (K : Keep h h' ws) (q : a ∉ ws) : own_Arr Z h' a k ty vs := by
  obtain ⟨c, A, r⟩ := F; exact ⟨c, ⟨K.2.1 a c A.1 q, A.2⟩, r⟩
theorem own_Arr.arv {a : Addr} {k : ClassId} {ty : FieldType} {vs : List Value} {d : Value} {N : Int32} (F : own_Arr Z h a k ty vs) (hN : N = Int32.ofNat vs.length) : Arv Z h a k ty N vs d := by
  obtain ⟨c, A, r1, r2, r3, r4⟩ := F
  have q : N.toInt = vs.length := by rw [hN]; exact len_toInt r3
  have hs : c.slots.size = vs.length := by rw [← r2]; simp
  refine ⟨c, A, r1, by rw [hs]; simp only [Int32.toNatClampNeg, q]; omega, by rw [Int32.lt_iff_toInt_lt, q]; simp, fun i hi => ?_, fun i hi => ?_⟩
  · rw [← Array.getElem?_toList, r2, List.getElem?_eq_getElem (by omega)]; simp [List.getD, List.getElem?_eq_getElem (show i < vs.length by omega)]
  · have hi' : i < vs.length := by omega
    simp only [List.getD, List.getElem?_eq_getElem hi', Option.getD_some]; exact r4 _ (List.getElem_mem hi')
theorem own_Arr.of_arv {a : Addr} {k : ClassId} {ty : FieldType} {vs : List Value} {d : Value} {N : Int32} (F : Arv Z h a k ty N vs d) (hN : N.toNatClampNeg = vs.length) : own_Arr Z h a k ty vs := by
  obtain ⟨c, A, r1, r2, r3, r4, r5⟩ := F
  have hs : c.slots.size = vs.length := by omega
  have e : c.slots.toList = vs := by
    apply List.ext_getElem?
    intro i
    by_cases hi : i < vs.length
    · rw [Array.getElem?_toList, r4 i (by omega)]; simp [List.getD, List.getElem?_eq_getElem hi]
    · rw [List.getElem?_eq_none (by simpa using (by omega : c.slots.size ≤ i)), List.getElem?_eq_none (by omega)]
  refine ⟨c, A, r1, e, by rw [← hN]; exact (back32 r3).2, fun v hv => ?_⟩
  obtain ⟨i, hi, rfl⟩ := List.getElem_of_mem hv
  have := r5 i (by omega)
  simpa [List.getD, List.getElem?_eq_getElem hi] using this
theorem own_idx {n i : Nat} (hi : i < n) (hn : n < 2 ^ 31) {j : Int32} (hj : j.toInt = i) : ¬ (j < 0 ∨ n ≤ j.toNatClampNeg) ∧ j.toNatClampNeg = i := by
  have e : j.toNatClampNeg = i := by simp only [Int32.toNatClampNeg, hj]; omega
  refine ⟨?_, e⟩
  rw [e, Int32.lt_iff_toInt_lt, hj]; simp; omega
theorem own_ld {a : Addr} {k : ClassId} {ty : FieldType} {vs : List Value} {j : Int32} {i : Nat} {v : Value} (F : own_Arr Z h a k ty vs) (hj : j.toInt = i) (hv : vs[i]? = some v) : ∃ c : Cell, Arr Z h a c ty ∧ ¬ (j < 0 ∨ c.slots.size ≤ j.toNatClampNeg) ∧ c.slots[j.toNatClampNeg]? = some v := by
  obtain ⟨c, A, r1, r2, r3, r4⟩ := F
  have hi : i < vs.length := (List.getElem?_eq_some_iff.mp hv).1
  have hs : c.slots.size = vs.length := by rw [← r2]; simp
  obtain ⟨q1, q2⟩ := own_idx hi r3 hj
  exact ⟨c, A, by rw [hs]; exact q1, by rw [q2, ← Array.getElem?_toList, r2]; exact hv⟩
theorem own_iaload (X : own_At G p l e R s m args below meth c Z n0 own nm bytes maxL ret T h cells slots) {pc pc' : Nat} {Ls : Array Slot} {st : List Value} {a : Addr} {kc : ClassId} {vs : List Value} {j : Int32} {i : Nat} {v : Value} (F : own_Arr Z h a kc .int vs) (hj : j.toInt = i) (hv : vs[i]? = some v) (hd : decode bytes pc = .ok (.iaload, 1)) (hp : pc' = pc + 1) (k : G T (mkF m pc' Ls (v :: st))) : G T (mkF m pc Ls (.int j :: .ref a :: st)) := by
  obtain ⟨hG, ⟨c1, c2, hZ, -⟩, L, X, N, eT, O⟩ := X
  subst hp
  obtain ⟨cl, A, q1, q2⟩ := own_ld F hj hv
  exact hG _ _ _ _ (fun t q => X.iaload c1 (by rw [eT]; exact A.1) (State.isArrayOf_alike hZ.alike A.2.1) A.2.2 q1 q2 (g := mkF m pc Ls (.int j :: .ref a :: st)) rfl rfl (hb c2 hd) _ q) k
theorem own_laload (X : own_At G p l e R s m args below meth c Z n0 own nm bytes maxL ret T h cells slots) {pc pc' : Nat} {Ls : Array Slot} {st : List Value} {a : Addr} {kc : ClassId} {vs : List Value} {j : Int32} {i : Nat} {v : Value} (F : own_Arr Z h a kc .long vs) (hj : j.toInt = i) (hv : vs[i]? = some v) (hd : decode bytes pc = .ok (.laload, 1)) (hp : pc' = pc + 1) (k : G T (mkF m pc' Ls (v :: st))) : G T (mkF m pc Ls (.int j :: .ref a :: st)) := by
  obtain ⟨hG, ⟨c1, c2, hZ, -⟩, L, X, N, eT, O⟩ := X
  subst hp
  obtain ⟨cl, A, q1, q2⟩ := own_ld F hj hv
  exact hG _ _ _ _ (fun t q => X.laload c1 (by rw [eT]; exact A.1) (State.isArrayOf_alike hZ.alike A.2.1) A.2.2 q1 q2 (g := mkF m pc Ls (.int j :: .ref a :: st)) rfl rfl (hb c2 hd) _ q) k
theorem own_caload (X : own_At G p l e R s m args below meth c Z n0 own nm bytes maxL ret T h cells slots) {pc pc' : Nat} {Ls : Array Slot} {st : List Value} {a : Addr} {kc : ClassId} {vs : List Value} {j : Int32} {i : Nat} {v : Value} (F : own_Arr Z h a kc .char vs) (hj : j.toInt = i) (hv : vs[i]? = some v) (hd : decode bytes pc = .ok (.caload, 1)) (hp : pc' = pc + 1) (k : G T (mkF m pc' Ls (v :: st))) : G T (mkF m pc Ls (.int j :: .ref a :: st)) := by
  obtain ⟨hG, ⟨c1, c2, hZ, -⟩, L, X, N, eT, O⟩ := X
  subst hp
  obtain ⟨cl, A, q1, q2⟩ := own_ld F hj hv
  exact hG _ _ _ _ (fun t q => X.caload c1 (by rw [eT]; exact A.1) (State.isArrayOf_alike hZ.alike A.2.1) A.2.2 q1 q2 (g := mkF m pc Ls (.int j :: .ref a :: st)) rfl rfl (hb c2 hd) _ q) k
theorem own_baload (X : own_At G p l e R s m args below meth c Z n0 own nm bytes maxL ret T h cells slots) {pc pc' : Nat} {Ls : Array Slot} {st : List Value} {a : Addr} {kc : ClassId} {vs : List Value} {j : Int32} {i : Nat} {v : Value} (F : own_Arr Z h a kc .byte vs) (hj : j.toInt = i) (hv : vs[i]? = some v) (hd : decode bytes pc = .ok (.baload, 1)) (hp : pc' = pc + 1) (k : G T (mkF m pc' Ls (v :: st))) : G T (mkF m pc Ls (.int j :: .ref a :: st)) := by
  obtain ⟨hG, ⟨c1, c2, hZ, -⟩, L, X, N, eT, O⟩ := X
  subst hp
  obtain ⟨cl, A, q1, q2⟩ := own_ld F hj hv
  exact hG _ _ _ _ (fun t q => X.baloadBytes c1 (by rw [eT]; exact A.1) (State.isArrayOf_alike hZ.alike A.2.1) A.2.2 q1 q2 (g := mkF m pc Ls (.int j :: .ref a :: st)) rfl rfl (hb c2 hd) _ q) k
theorem own_aaload (X : own_At G p l e R s m args below meth c Z n0 own nm bytes maxL ret T h cells slots) {pc pc' : Nat} {Ls : Array Slot} {st : List Value} {ty : FieldType} {a : Addr} {kc : ClassId} {vs : List Value} {j : Int32} {i : Nat} {v : Value} (F : own_Arr Z h a kc ty vs) (hty : ty.isReference = true) (hj : j.toInt = i) (hv : vs[i]? = some v) (hd : decode bytes pc = .ok (.aaload, 1)) (hp : pc' = pc + 1) (k : G T (mkF m pc' Ls (v :: st))) : G T (mkF m pc Ls (.int j :: .ref a :: st)) := by
  obtain ⟨hG, ⟨c1, c2, hZ, -⟩, L, X, N, eT, O⟩ := X
  subst hp
  obtain ⟨cl, A, q1, q2⟩ := own_ld F hj hv
  exact hG _ _ _ _ (fun t q => X.aaload c1 (by rw [eT]; exact A.1) (State.isArrayOf_alike hZ.alike A.2.1) hty A.2.2 q1 q2 (g := mkF m pc Ls (.int j :: .ref a :: st)) rfl rfl (hb c2 hd) _ q) k
theorem own_arraylength (X : own_At G p l e R s m args below meth c Z n0 own nm bytes maxL ret T h cells slots) {pc pc' : Nat} {Ls : Array Slot} {st : List Value} {ty : FieldType} {a : Addr} {kc : ClassId} {vs : List Value} {z : Int32} (F : own_Arr Z h a kc ty vs) (hz : Int32.ofNat vs.length = z) (hd : decode bytes pc = .ok (.arraylength, 1)) (hp : pc' = pc + 1) (k : G T (mkF m pc' Ls (.int z :: st))) : G T (mkF m pc Ls (.ref a :: st)) := by
  obtain ⟨hG, ⟨c1, c2, hZ, -⟩, L, X, N, eT, O⟩ := X
  subst hp
  obtain ⟨cl, A, r1, r2, r3, r4⟩ := F
  have hs : cl.slots.size = vs.length := by rw [← r2]; simp
  exact hG _ _ _ _ (fun t q => X.arraylength c1 (by rw [eT]; exact A.1) (State.isArrayOf_alike hZ.alike A.2.1) (g := mkF m pc Ls (.ref a :: st)) rfl rfl (hb c2 hd) _ (by rw [hs, show vs.length.toInt32 = z from hz]; exact q)) k
theorem own_Arr.set {h' : Heap} {a : Addr} {k : ClassId} {ty : FieldType} {vs : List Value} {i : Nat} {v : Value} (F : own_Arr Z h a k ty vs) (W : Wr h h' a i v) (hv : fits ty v = true) : own_Arr Z h' a k ty (vs.set i v) := by
  obtain ⟨c, A, r1, r2, r3, r4⟩ := F
  refine ⟨_, A.same W, r1, ?_, by simpa using r3, fun x hx => ?_⟩
  · simp [Cell.setSlot, r2]
  · rcases List.mem_or_eq_of_mem_set hx with q | q
    · exact r4 _ q
    · rw [q]; exact hv
theorem own_newA (cA : ClassId) (ty : FieldType) (n : Int32) : (newA cA ty n).slots.toList = List.replicate n.toNatClampNeg (defaultValue ty) := by simp [newA]
theorem own_defit (aty : ArrayType) : fits (newarray.typeOf aty) (defaultValue (newarray.typeOf aty)) = true := by cases aty <;> rfl
theorem own_newarray (X : own_At G p l e R s m args below meth c Z n0 own nm bytes maxL ret T h cells slots) {pc pc' cells' slots' : Nat} {Ls : Array Slot} {st : List Value} {aty : ArrayType} {ty : FieldType} {z : Int32} {n : Nat} {dv : Value} (w : (Cond.arrayClass ty).before a0 Z = true) (ht : newarray.typeOf aty = ty) (hdv : defaultValue ty = dv) (hz : z.toInt = n) (hn : n ≤ 60000000) (hd : decode bytes pc = .ok (.newarray aty, 2)) (hp : pc' = pc + 2) (ec : cells' = cells + 1) {cap : Nat} (hcap : n ≤ cap) (hbig : cap ≤ 60000000) (es : slots' = slots + cap) (hc : cells' ≤ R.cells) (hl : slots' ≤ R.slots)
    (k : ∀ T' h' a kc, a = h.size → own_At G p l e R s m args below meth c Z n0 own nm bytes maxL ret T' h' cells' slots' → Keep h h' [] → own_Arr Z h' a kc ty (List.replicate n dv) → G T' (mkF m pc' Ls (.ref a :: st))) : G T (mkF m pc Ls (.int z :: st)) := by
  obtain ⟨hG, ⟨c1, c2, hZ, c5⟩, L, X, N, eT, O⟩ := X
  subst hp ec es ht hdv
  have hz0 : ¬ z < 0 := by rw [Int32.lt_iff_toInt_lt, hz]; simp
  have hzn : z.toNatClampNeg = n := by simp only [Int32.toNatClampNeg, hz]; omega
  obtain ⟨T', h', cA, X', e', E', A', st'⟩ := newP X c1 hZ w eT (g := mkF m pc Ls (.int z :: st)) rfl (hb c2 hd) rfl hz0 (cap := cap) (by omega) (by omega) hc hl
  refine hG _ _ _ _ st' (k _ _ _ cA rfl ⟨hG, ⟨c1, c2, hZ, c5⟩, _, X', N, e', O.ext E'⟩ ((Keep.refl _ _).ext E') ⟨_, A', rfl, by rw [own_newA, hzn], by simp; omega, fun v hv => ?_⟩)
  rw [List.eq_of_mem_replicate hv]; exact own_defit aty
theorem own_iastore (X : own_At G p l e R s m args below meth c Z n0 own nm bytes maxL ret T h cells slots) {pc pc' : Nat} {Ls : Array Slot} {st : List Value} {a : Addr} {kc : ClassId} {vs : List Value} {j : Int32} {i : Nat} {x : Int32} (F : own_Arr Z h a kc .int vs) (hj : j.toInt = i) (hi : i < vs.length) (ha : n0 ≤ a) (hd : decode bytes pc = .ok (.iastore, 1)) (hp : pc' = pc + 1)
    (k : ∀ T' h', own_At G p l e R s m args below meth c Z n0 own nm bytes maxL ret T' h' cells slots → Keep h h' [a] → own_Arr Z h' a kc .int (vs.set i (.int x)) → G T' (mkF m pc' Ls st)) : G T (mkF m pc Ls (.int x :: .int j :: .ref a :: st)) := by
  obtain ⟨hG, ⟨c1, c2, hZ, c5⟩, L, X, N, eT, O⟩ := X
  subst hp 
  have F0 := F
  obtain ⟨cl, A, r1, r2, r3, r4⟩ := F
  have hs : cl.slots.size = vs.length := by rw [← r2]; simp
  obtain ⟨q1, q2⟩ := own_idx hi r3 hj
  obtain ⟨T', h', X', e', W', st'⟩ := stI X c1 hZ eT A (j := j) (by rw [hs]; exact q1) (g := mkF m pc Ls (.int x :: .int j :: .ref a :: st)) rfl rfl (hb c2 hd)
  have K' := Keep.of_wr W'
  have O' := O.wr W' ha
  rw [q2] at W'
  exact hG _ _ _ _ st' (k _ _ ⟨hG, ⟨c1, c2, hZ, c5⟩, _, X', Fr.snoc X' N ha, e', O'⟩ K' (F0.set W' (rfl)))
theorem own_lastore (X : own_At G p l e R s m args below meth c Z n0 own nm bytes maxL ret T h cells slots) {pc pc' : Nat} {Ls : Array Slot} {st : List Value} {a : Addr} {kc : ClassId} {vs : List Value} {j : Int32} {i : Nat} {x : Int64} (F : own_Arr Z h a kc .long vs) (hj : j.toInt = i) (hi : i < vs.length) (ha : n0 ≤ a) (hd : decode bytes pc = .ok (.lastore, 1)) (hp : pc' = pc + 1)
    (k : ∀ T' h', own_At G p l e R s m args below meth c Z n0 own nm bytes maxL ret T' h' cells slots → Keep h h' [a] → own_Arr Z h' a kc .long (vs.set i (.long x)) → G T' (mkF m pc' Ls st)) : G T (mkF m pc Ls (.long x :: .int j :: .ref a :: st)) := by
  obtain ⟨hG, ⟨c1, c2, hZ, c5⟩, L, X, N, eT, O⟩ := X
  subst hp 
  have F0 := F
  obtain ⟨cl, A, r1, r2, r3, r4⟩ := F
  have hs : cl.slots.size = vs.length := by rw [← r2]; simp
  obtain ⟨q1, q2⟩ := own_idx hi r3 hj
  obtain ⟨T', h', X', e', W', st'⟩ := stJ X c1 hZ eT A (j := j) (by rw [hs]; exact q1) (g := mkF m pc Ls (.long x :: .int j :: .ref a :: st)) rfl rfl (hb c2 hd)
  have K' := Keep.of_wr W'
  have O' := O.wr W' ha
  rw [q2] at W'
  exact hG _ _ _ _ st' (k _ _ ⟨hG, ⟨c1, c2, hZ, c5⟩, _, X', Fr.snoc X' N ha, e', O'⟩ K' (F0.set W' (rfl)))
theorem own_castore (X : own_At G p l e R s m args below meth c Z n0 own nm bytes maxL ret T h cells slots) {pc pc' : Nat} {Ls : Array Slot} {st : List Value} {a : Addr} {kc : ClassId} {vs : List Value} {j : Int32} {i : Nat} {x y : Int32} (F : own_Arr Z h a kc .char vs) (hj : j.toInt = i) (hi : i < vs.length) (hy : nar .char x = y) (ha : n0 ≤ a) (hd : decode bytes pc = .ok (.castore, 1)) (hp : pc' = pc + 1)
    (k : ∀ T' h', own_At G p l e R s m args below meth c Z n0 own nm bytes maxL ret T' h' cells slots → Keep h h' [a] → own_Arr Z h' a kc .char (vs.set i (.int y)) → G T' (mkF m pc' Ls st)) : G T (mkF m pc Ls (.int x :: .int j :: .ref a :: st)) := by
  obtain ⟨hG, ⟨c1, c2, hZ, c5⟩, L, X, N, eT, O⟩ := X
  subst hp hy
  have F0 := F
  obtain ⟨cl, A, r1, r2, r3, r4⟩ := F
  have hs : cl.slots.size = vs.length := by rw [← r2]; simp
  obtain ⟨q1, q2⟩ := own_idx hi r3 hj
  obtain ⟨T', h', X', e', W', st'⟩ := stC X c1 hZ eT A (j := j) (by rw [hs]; exact q1) (g := mkF m pc Ls (.int x :: .int j :: .ref a :: st)) rfl rfl (hb c2 hd)
  have K' := Keep.of_wr W'
  have O' := O.wr W' ha
  rw [q2] at W'
  exact hG _ _ _ _ st' (k _ _ ⟨hG, ⟨c1, c2, hZ, c5⟩, _, X', Fr.snoc X' N ha, e', O'⟩ K' (F0.set W' (fits_nar_char _)))
theorem own_bastore (X : own_At G p l e R s m args below meth c Z n0 own nm bytes maxL ret T h cells slots) {pc pc' : Nat} {Ls : Array Slot} {st : List Value} {a : Addr} {kc : ClassId} {vs : List Value} {j : Int32} {i : Nat} {x y : Int32} (F : own_Arr Z h a kc .byte vs) (hj : j.toInt = i) (hi : i < vs.length) (hy : nar .byte x = y) (ha : n0 ≤ a) (hd : decode bytes pc = .ok (.bastore, 1)) (hp : pc' = pc + 1)
    (k : ∀ T' h', own_At G p l e R s m args below meth c Z n0 own nm bytes maxL ret T' h' cells slots → Keep h h' [a] → own_Arr Z h' a kc .byte (vs.set i (.int y)) → G T' (mkF m pc' Ls st)) : G T (mkF m pc Ls (.int x :: .int j :: .ref a :: st)) := by
  obtain ⟨hG, ⟨c1, c2, hZ, c5⟩, L, X, N, eT, O⟩ := X
  subst hp hy
  have F0 := F
  obtain ⟨cl, A, r1, r2, r3, r4⟩ := F
  have hs : cl.slots.size = vs.length := by rw [← r2]; simp
  obtain ⟨q1, q2⟩ := own_idx hi r3 hj
  obtain ⟨T', h', X', e', W', st'⟩ := stB X c1 hZ eT A (j := j) (by rw [hs]; exact q1) (g := mkF m pc Ls (.int x :: .int j :: .ref a :: st)) rfl rfl (hb c2 hd)
  have K' := Keep.of_wr W'
  have O' := O.wr W' ha
  rw [q2] at W'
  exact hG _ _ _ _ st' (k _ _ ⟨hG, ⟨c1, c2, hZ, c5⟩, _, X', Fr.snoc X' N ha, e', O'⟩ K' (F0.set W' (fits_nar_byte _)))
theorem own_back {y : MethodName} {bytes' : ByteArray} {maxL' : Nat} {ret' : Option FieldType} {rm : Room} {as' : Array Value} {Q : Option Value → Heap → Prop} {len W : Nat} (hM : own_Met l Z n0 y bytes' maxL' ret' rm as' h Q) (hZ : Z.Warmed39 s.vm) (wc : (Jvm.Cond.code y bytes' maxL' ret').before a0 Z = true) (wz : (Jvm.Cond.initialized y.cls).before a0 Z = true) (hf : rm.frames + 1 ≤ R.frames) (hl : W + (maxL' + 11) + rm.locals ≤ R.locals) :
    Back l R p e below s args y len W (fun A a => a = as' ∧ A.U.heap = h ∧ A.cells + rm.cells ≤ R.cells ∧ A.slots + rm.slots ≤ R.slots) (fun A _ v B => ∃ L, (Q v B.U.heap ∧ Fr n0 L ∧ Old Z n0 B.U.heap) ∧ B.locs = A.locs ++ L ∧ B.cells = A.cells + rm.cells ∧ B.slots = A.slots + rm.slots) :=
  backOf (Q := fun v h' L => Q v h' ∧ Fr n0 L ∧ Old Z n0 h') (hM []) hZ wc wz hf hl
theorem own_callS (X : own_At G p l e R s m args below meth c Z n0 own nm bytes maxL ret T h cells slots) {pc pc' cells' slots' : Nat} {Ls : Array Slot} {st argsL rest : List Value} {i kc ks W : Nat} {as' : Array Value} {QQ : Option Value → Heap → List Loc → Prop} {Q : Option Value → Heap → Prop} {y : MethodName} {bytes' : ByteArray} {maxL' : Nat} {ret' : Option FieldType} (w1 : (Cond.methodLink own i y).before a0 Z = true) (w2 : (Cond.static y).before a0 Z = true) (w3 : (Cond.initialized y.cls).before a0 Z = true) (w4 : (Cond.code y bytes' maxL' ret').before a0 Z = true) (hy : y.cls ≠ "java/lang/invoke/MethodHandle" ∧ y.cls ≠ "java/lang/invoke/VarHandle") (B : ∀ (hZ : Z.Warmed39 s.vm), Back l R p e below s args y 3 W (fun A a => a = as' ∧ A.U.heap = h ∧ A.cells + kc ≤ R.cells ∧ A.slots + ks ≤ R.slots) (fun A _ v B => ∃ L, QQ v B.U.heap L ∧ B.locs = A.locs ++ L ∧ B.cells = A.cells + kc ∧ B.slots = A.slots + ks)) (hQ : ∀ v h' L, QQ v h' L → Q v h' ∧ Fr n0 L ∧ Old Z n0 h') (hsz : Ls.size = maxL) (hlen : ∀ sig, parseMethodDescriptor y.desc = some sig → argsL.length = sig.parameters.length) (hs : st = argsL.reverse ++ rest) (hW : (rest.map fun v => v.category).sum = W) (hd : decode bytes pc = .ok (.invokestatic i, 3)) (hp : pc' = pc + 3) (ha : argsL.toArray = as') (ec : cells' = cells + kc) (es : slots' = slots + ks) (hc : cells' ≤ R.cells) (hl : slots' ≤ R.slots)
    (k : ∀ v T' h', own_At G p l e R s m args below meth c Z n0 own nm bytes maxL ret T' h' cells' slots' → Q v h' → G T' (mkF m pc' Ls (v.toList ++ rest))) : G T (mkF m pc Ls st) := by
  obtain ⟨hG, ⟨c1, c2, hZ, hown, c5, c6⟩, L, X, N, eT, O⟩ := X
  subst hp ec es ha hs
  obtain ⟨v, vm₁, ⟨T', L', k', n'⟩, -, X', ⟨Lc, hq, l', y', z'⟩, st'⟩ := Jvm.LawKit.callS X c1 hown (mvT hZ w1) (mvT hZ w2) (mvT hZ w3) (mvT hZ w4) hy (B hZ) (g := mkF m pc Ls (argsL.reverse ++ rest)) rfl (hsz.trans c5.symm) hlen rfl (by show 2 * 0 + _ ≤ _; rw [hW]; omega) (hb c2 hd) (fun _ _ => ⟨rfl, eT, hc, hl⟩)
  dsimp only [Pt.U, Pt.locs, Pt.cells, Pt.slots] at X' l' y' z' st' hq
  subst l' y' z'
  obtain ⟨q1, q2, q3⟩ := hQ _ _ _ hq
  exact hG _ _ _ _ st' (k _ _ _ ⟨hG, ⟨c1, c2, hZ, hown, c5, c6⟩, _, X', Fr.app N q2, rfl, q3⟩ q1)
theorem own_callI (X : own_At G p l e R s m args below meth c Z n0 own nm bytes maxL ret T h cells slots) {pc pc' cells' slots' : Nat} {Ls : Array Slot} {st argsL rest : List Value} {i kc ks W : Nat} {as' : Array Value} {QQ : Option Value → Heap → List Loc → Prop} {Q : Option Value → Heap → Prop} {y : MethodName} {bytes' : ByteArray} {maxL' : Nat} {a : Addr} (w1 : (Cond.methodLink own i y).before a0 Z = true) (w2 : (Cond.instanceMethod y).before a0 Z = true) (w4 : (Cond.code y bytes' maxL' none).before a0 Z = true) (hy0 : y.name = "<init>") (hy : y.cls ≠ "java/lang/invoke/MethodHandle" ∧ y.cls ≠ "java/lang/invoke/VarHandle") (B : ∀ (hZ : Z.Warmed39 s.vm), Back l R p e below s args y 3 W (fun A a => a = as' ∧ A.U.heap = h ∧ A.cells + kc ≤ R.cells ∧ A.slots + ks ≤ R.slots) (fun A _ v B => ∃ L, QQ v B.U.heap L ∧ B.locs = A.locs ++ L ∧ B.cells = A.cells + kc ∧ B.slots = A.slots + ks)) (hQ : ∀ v h' L, QQ v h' L → Q v h' ∧ Fr n0 L ∧ Old Z n0 h') (hsz : Ls.size = maxL) (hlen : ∀ sig, parseMethodDescriptor y.desc = some sig → argsL.length = sig.parameters.length) (hs : st = argsL.reverse ++ Value.ref a :: rest) (hW : (rest.map fun v => v.category).sum = W) (hd : decode bytes pc = .ok (.invokespecial i, 3)) (hp : pc' = pc + 3) (ha : (Value.ref a :: argsL).toArray = as') (ec : cells' = cells + kc) (es : slots' = slots + ks) (hc : cells' ≤ R.cells) (hl : slots' ≤ R.slots)
    (k : ∀ v T' h', own_At G p l e R s m args below meth c Z n0 own nm bytes maxL ret T' h' cells' slots' → Q v h' → G T' (mkF m pc' Ls (v.toList ++ rest))) : G T (mkF m pc Ls st) := by
  obtain ⟨hG, ⟨c1, c2, hZ, hown, c5, c6⟩, L, X, N, eT, O⟩ := X
  subst hp ec es ha hs
  obtain ⟨v, vm₁, ⟨T', L', k', n'⟩, -, X', ⟨Lc, hq, l', y', z'⟩, st'⟩ := Jvm.LawKit.callI X c1 hown hy0 (mvT hZ w1) (mvT hZ w2) (mvT hZ w4) hy (B hZ) (g := mkF m pc Ls (argsL.reverse ++ Value.ref a :: rest)) rfl (hsz.trans c5.symm) hlen rfl (by show 2 * 0 + _ ≤ _; rw [hW]; omega) (hb c2 hd) (fun _ _ => ⟨rfl, eT, hc, hl⟩)
  dsimp only [Pt.U, Pt.locs, Pt.cells, Pt.slots] at X' l' y' z' st' hq
  subst l' y' z'
  obtain ⟨q1, q2, q3⟩ := hQ _ _ _ hq
  exact hG _ _ _ _ st' (k _ _ _ ⟨hG, ⟨c1, c2, hZ, hown, c5, c6⟩, _, X', Fr.app N q2, rfl, q3⟩ q1)
theorem own_callV (X : own_At G p l e R s m args below meth c Z n0 own nm bytes maxL ret T h cells slots) {pc pc' cells' slots' : Nat} {Ls : Array Slot} {st argsL rest : List Value} {i kc ks W : Nat} {as' : Array Value} {QQ : Option Value → Heap → List Loc → Prop} {Q : Option Value → Heap → Prop} {y z : MethodName} {C : String} {a : Addr} (w1 : (Cond.methodLink own i y).before a0 Z = true) (w2 : (Cond.declares y).before a0 Z = true) (nf : ∀ s' : State, Z.Warmed39 s'.vm → NotFace s' y) (w3 : (Cond.selects C y z).before a0 Z = true) (w4 : (Cond.instanceMethod z).before a0 Z = true) (hy : y.cls ≠ "java/lang/invoke/MethodHandle" ∧ y.cls ≠ "java/lang/invoke/VarHandle") (E : Exa Z h a C) (B : ∀ (hZ : Z.Warmed39 s.vm), Back l R p e below s args z 3 W (fun A a => a = as' ∧ A.U.heap = h ∧ A.cells + kc ≤ R.cells ∧ A.slots + ks ≤ R.slots) (fun A _ v B => ∃ L, QQ v B.U.heap L ∧ B.locs = A.locs ++ L ∧ B.cells = A.cells + kc ∧ B.slots = A.slots + ks)) (hQ : ∀ v h' L, QQ v h' L → Q v h' ∧ Fr n0 L ∧ Old Z n0 h') (hsz : Ls.size = maxL) (hlen : ∀ sig, parseMethodDescriptor y.desc = some sig → argsL.length = sig.parameters.length) (hs : st = argsL.reverse ++ Value.ref a :: rest) (hW : (rest.map fun v => v.category).sum = W) (hd : decode bytes pc = .ok (.invokevirtual i, 3)) (hp : pc' = pc + 3) (ha : (Value.ref a :: argsL).toArray = as') (ec : cells' = cells + kc) (es : slots' = slots + ks) (hc : cells' ≤ R.cells) (hl : slots' ≤ R.slots)
    (k : ∀ v T' h', own_At G p l e R s m args below meth c Z n0 own nm bytes maxL ret T' h' cells' slots' → Q v h' → G T' (mkF m pc' Ls (v.toList ++ rest))) : G T (mkF m pc Ls st) := by
  obtain ⟨hG, ⟨c1, c2, hZ, hown, c5, c6⟩, L, X, N, eT, O⟩ := X
  subst hp ec es ha hs
  obtain ⟨v, vm₁, ⟨T', L', k', n'⟩, -, X', ⟨Lc, hq, l', y', z'⟩, st'⟩ := (have ⟨_, _, q1, _, q3⟩ := isOf hZ eT E; X.virtualBack c1 hown (mvT hZ w1) (mvT hZ w2) (nf s hZ) (mvT hZ w3) (mvT hZ w4) hy (B hZ) q1 q3 (g := mkF m pc Ls (argsL.reverse ++ Value.ref a :: rest)) rfl (hsz.trans c5.symm) (Steps.refl _) hlen rfl (by show 2 * 0 + _ ≤ _; rw [hW]; omega) (hb c2 hd) (fun _ _ => ⟨rfl, eT, hc, hl⟩))
  dsimp only [Pt.U, Pt.locs, Pt.cells, Pt.slots] at X' l' y' z' st' hq
  subst l' y' z'
  obtain ⟨q1, q2, q3⟩ := hQ _ _ _ hq
  exact hG _ _ _ _ (fun t q => st'.trans q) (k _ _ _ ⟨hG, ⟨c1, c2, hZ, hown, c5, c6⟩, _, X', Fr.app N q2, rfl, q3⟩ q1)
theorem own_callF (X : own_At G p l e R s m args below meth c Z n0 own nm bytes maxL ret T h cells slots) {pc pc' cells' slots' : Nat} {Ls : Array Slot} {st argsL rest : List Value} {i kc ks W : Nat} {as' : Array Value} {QQ : Option Value → Heap → List Loc → Prop} {Q : Option Value → Heap → Prop} {y z : MethodName} {C : String} {a : Addr} {cnt : Nat} (w1 : (Cond.methodLink own i y).before a0 Z = true) (w2 : (Cond.declares y).before a0 Z = true) (wf : ∀ (s' : State) (a' : Array Value), Z.Warmed39 s'.vm → (Cond.interfaceMethod y.cls y.cls y.name y.desc).before a' s' = true) (w3 : (Cond.selects C y z).before a0 Z = true) (w4 : (Cond.instanceMethod z).before a0 Z = true) (w5 : (Cond.publicMethod z).before a0 Z = true) (w6 : (Cond.unhidden C y.name y.desc).before a0 Z = true) (w7 : (Cond.castable C y.cls).before a0 Z = true) (hy : y.cls ≠ "java/lang/invoke/MethodHandle" ∧ y.cls ≠ "java/lang/invoke/VarHandle") (E : Exa Z h a C) (B : ∀ (hZ : Z.Warmed39 s.vm), Back l R p e below s args z 5 W (fun A a => a = as' ∧ A.U.heap = h ∧ A.cells + kc ≤ R.cells ∧ A.slots + ks ≤ R.slots) (fun A _ v B => ∃ L, QQ v B.U.heap L ∧ B.locs = A.locs ++ L ∧ B.cells = A.cells + kc ∧ B.slots = A.slots + ks)) (hQ : ∀ v h' L, QQ v h' L → Q v h' ∧ Fr n0 L ∧ Old Z n0 h') (hsz : Ls.size = maxL) (hlen : ∀ sig, parseMethodDescriptor y.desc = some sig → argsL.length = sig.parameters.length) (hs : st = argsL.reverse ++ Value.ref a :: rest) (hW : (rest.map fun v => v.category).sum = W) (hd : decode bytes pc = .ok (.invokeinterface i cnt, 5)) (hp : pc' = pc + 5) (ha : (Value.ref a :: argsL).toArray = as') (ec : cells' = cells + kc) (es : slots' = slots + ks) (hc : cells' ≤ R.cells) (hl : slots' ≤ R.slots)
    (k : ∀ v T' h', own_At G p l e R s m args below meth c Z n0 own nm bytes maxL ret T' h' cells' slots' → Q v h' → G T' (mkF m pc' Ls (v.toList ++ rest))) : G T (mkF m pc Ls st) := by
  obtain ⟨hG, ⟨c1, c2, hZ, hown, c5, c6⟩, L, X, N, eT, O⟩ := X
  subst hp ec es ha hs
  obtain ⟨v, vm₁, ⟨T', L', k', n'⟩, -, X', ⟨Lc, hq, l', y', z'⟩, st'⟩ := (have ⟨_, _, q1, q2, q3⟩ := isOf hZ eT E; X.interfaceBack c1 hown (mvT hZ w1) (mvT hZ w2) (wf s args hZ) (mvT hZ w3) (mvT hZ w4) (mvT hZ w5) (mvT hZ w6) (mvT hZ w7) hy (B hZ) q1 q2 q3 (g := mkF m pc Ls (argsL.reverse ++ Value.ref a :: rest)) rfl (hsz.trans c5.symm) (Steps.refl _) hlen rfl (by show 2 * 0 + _ ≤ _; rw [hW]; omega) (hb c2 hd) (fun _ _ => ⟨rfl, eT, hc, hl⟩))
  dsimp only [Pt.U, Pt.locs, Pt.cells, Pt.slots] at X' l' y' z' st' hq
  subst l' y' z'
  obtain ⟨q1, q2, q3⟩ := hQ _ _ _ hq
  exact hG _ _ _ _ (fun t q => st'.trans q) (k _ _ _ ⟨hG, ⟨c1, c2, hZ, hown, c5, c6⟩, _, X', Fr.app N q2, rfl, q3⟩ q1)
theorem own_callSM (X : own_At G p l e R s m args below meth c Z n0 own nm bytes maxL ret T h cells slots) {pc pc' cells' slots' : Nat} {Ls : Array Slot} {st argsL rest : List Value} {i W : Nat} {as' : Array Value} {Q : Option Value → Heap → Prop} {rm : Room} {y : MethodName} {bytes' : ByteArray} {maxL' : Nat} {ret' : Option FieldType} (w1 : (Cond.methodLink own i y).before a0 Z = true) (w2 : (Cond.static y).before a0 Z = true) (hy : y.cls ≠ "java/lang/invoke/MethodHandle" ∧ y.cls ≠ "java/lang/invoke/VarHandle") (M : own_Met l Z n0 y bytes' maxL' ret' rm as' h Q) (wc : (Jvm.Cond.code y bytes' maxL' ret').before a0 Z = true) (wz : (Jvm.Cond.initialized y.cls).before a0 Z = true) (hf : rm.frames + 1 ≤ R.frames) (hlo : W + (maxL' + 11) + rm.locals ≤ R.locals) (hsz : Ls.size = maxL) (hlen : ∀ sig, parseMethodDescriptor y.desc = some sig → argsL.length = sig.parameters.length) (hs : st = argsL.reverse ++ rest) (hW : (rest.map fun v => v.category).sum = W) (hd : decode bytes pc = .ok (.invokestatic i, 3)) (hp : pc' = pc + 3) (ha : argsL.toArray = as') (ec : cells' = cells + rm.cells) (es : slots' = slots + rm.slots) (hc : cells' ≤ R.cells) (hl : slots' ≤ R.slots)
    (k : ∀ v T' h', own_At G p l e R s m args below meth c Z n0 own nm bytes maxL ret T' h' cells' slots' → Q v h' → G T' (mkF m pc' Ls (v.toList ++ rest))) : G T (mkF m pc Ls st) :=
  own_callS (QQ := fun v h' L => Q v h' ∧ Fr n0 L ∧ Old Z n0 h') (kc := rm.cells) (ks := rm.slots) X w1 w2 wz wc hy (fun hZ => own_back M hZ wc wz hf hlo) (fun _ _ _ q => q) hsz hlen hs hW hd hp ha ec es hc hl k
theorem own_callIM (X : own_At G p l e R s m args below meth c Z n0 own nm bytes maxL ret T h cells slots) {pc pc' cells' slots' : Nat} {Ls : Array Slot} {st argsL rest : List Value} {i W : Nat} {as' : Array Value} {Q : Option Value → Heap → Prop} {rm : Room} {y : MethodName} {bytes' : ByteArray} {maxL' : Nat} {a : Addr} (w1 : (Cond.methodLink own i y).before a0 Z = true) (w2 : (Cond.instanceMethod y).before a0 Z = true) (hy0 : y.name = "<init>") (hy : y.cls ≠ "java/lang/invoke/MethodHandle" ∧ y.cls ≠ "java/lang/invoke/VarHandle") (M : own_Met l Z n0 y bytes' maxL' none rm as' h Q) (wc : (Jvm.Cond.code y bytes' maxL' none).before a0 Z = true) (wz : (Jvm.Cond.initialized y.cls).before a0 Z = true) (hf : rm.frames + 1 ≤ R.frames) (hlo : W + (maxL' + 11) + rm.locals ≤ R.locals) (hsz : Ls.size = maxL) (hlen : ∀ sig, parseMethodDescriptor y.desc = some sig → argsL.length = sig.parameters.length) (hs : st = argsL.reverse ++ Value.ref a :: rest) (hW : (rest.map fun v => v.category).sum = W) (hd : decode bytes pc = .ok (.invokespecial i, 3)) (hp : pc' = pc + 3) (ha : (Value.ref a :: argsL).toArray = as') (ec : cells' = cells + rm.cells) (es : slots' = slots + rm.slots) (hc : cells' ≤ R.cells) (hl : slots' ≤ R.slots)
    (k : ∀ v T' h', own_At G p l e R s m args below meth c Z n0 own nm bytes maxL ret T' h' cells' slots' → Q v h' → G T' (mkF m pc' Ls (v.toList ++ rest))) : G T (mkF m pc Ls st) :=
  own_callI (QQ := fun v h' L => Q v h' ∧ Fr n0 L ∧ Old Z n0 h') (kc := rm.cells) (ks := rm.slots) X w1 w2 wc hy0 hy (fun hZ => own_back M hZ wc wz hf hlo) (fun _ _ _ q => q) hsz hlen hs hW hd hp ha ec es hc hl k
theorem own_callVM (X : own_At G p l e R s m args below meth c Z n0 own nm bytes maxL ret T h cells slots) {pc pc' cells' slots' : Nat} {Ls : Array Slot} {st argsL rest : List Value} {i W : Nat} {as' : Array Value} {Q : Option Value → Heap → Prop} {rm : Room} {y z : MethodName} {C : String} {a : Addr} {bytes' : ByteArray} {maxL' : Nat} {ret' : Option FieldType} (w1 : (Cond.methodLink own i y).before a0 Z = true) (w2 : (Cond.declares y).before a0 Z = true) (nf : ∀ s' : State, Z.Warmed39 s'.vm → NotFace s' y) (w3 : (Cond.selects C y z).before a0 Z = true) (w4 : (Cond.instanceMethod z).before a0 Z = true) (hy : y.cls ≠ "java/lang/invoke/MethodHandle" ∧ y.cls ≠ "java/lang/invoke/VarHandle") (E : Exa Z h a C) (M : own_Met l Z n0 z bytes' maxL' ret' rm as' h Q) (wc : (Jvm.Cond.code z bytes' maxL' ret').before a0 Z = true) (wz : (Jvm.Cond.initialized z.cls).before a0 Z = true) (hf : rm.frames + 1 ≤ R.frames) (hlo : W + (maxL' + 11) + rm.locals ≤ R.locals) (hsz : Ls.size = maxL) (hlen : ∀ sig, parseMethodDescriptor y.desc = some sig → argsL.length = sig.parameters.length) (hs : st = argsL.reverse ++ Value.ref a :: rest) (hW : (rest.map fun v => v.category).sum = W) (hd : decode bytes pc = .ok (.invokevirtual i, 3)) (hp : pc' = pc + 3) (ha : (Value.ref a :: argsL).toArray = as') (ec : cells' = cells + rm.cells) (es : slots' = slots + rm.slots) (hc : cells' ≤ R.cells) (hl : slots' ≤ R.slots)
    (k : ∀ v T' h', own_At G p l e R s m args below meth c Z n0 own nm bytes maxL ret T' h' cells' slots' → Q v h' → G T' (mkF m pc' Ls (v.toList ++ rest))) : G T (mkF m pc Ls st) :=
  own_callV (QQ := fun v h' L => Q v h' ∧ Fr n0 L ∧ Old Z n0 h') (kc := rm.cells) (ks := rm.slots) X w1 w2 nf w3 w4 hy E (fun hZ => own_back M hZ wc wz hf hlo) (fun _ _ _ q => q) hsz hlen hs hW hd hp ha ec es hc hl k
theorem own_callFM (X : own_At G p l e R s m args below meth c Z n0 own nm bytes maxL ret T h cells slots) {pc pc' cells' slots' : Nat} {Ls : Array Slot} {st argsL rest : List Value} {i W : Nat} {as' : Array Value} {Q : Option Value → Heap → Prop} {rm : Room} {y z : MethodName} {C : String} {a : Addr} {cnt : Nat} {bytes' : ByteArray} {maxL' : Nat} {ret' : Option FieldType} (w1 : (Cond.methodLink own i y).before a0 Z = true) (w2 : (Cond.declares y).before a0 Z = true) (wf : ∀ (s' : State) (a' : Array Value), Z.Warmed39 s'.vm → (Cond.interfaceMethod y.cls y.cls y.name y.desc).before a' s' = true) (w3 : (Cond.selects C y z).before a0 Z = true) (w4 : (Cond.instanceMethod z).before a0 Z = true) (w5 : (Cond.publicMethod z).before a0 Z = true) (w6 : (Cond.unhidden C y.name y.desc).before a0 Z = true) (w7 : (Cond.castable C y.cls).before a0 Z = true) (hy : y.cls ≠ "java/lang/invoke/MethodHandle" ∧ y.cls ≠ "java/lang/invoke/VarHandle") (E : Exa Z h a C) (M : own_Met l Z n0 z bytes' maxL' ret' rm as' h Q) (wc : (Jvm.Cond.code z bytes' maxL' ret').before a0 Z = true) (wz : (Jvm.Cond.initialized z.cls).before a0 Z = true) (hf : rm.frames + 1 ≤ R.frames) (hlo : W + (maxL' + 11) + rm.locals ≤ R.locals) (hsz : Ls.size = maxL) (hlen : ∀ sig, parseMethodDescriptor y.desc = some sig → argsL.length = sig.parameters.length) (hs : st = argsL.reverse ++ Value.ref a :: rest) (hW : (rest.map fun v => v.category).sum = W) (hd : decode bytes pc = .ok (.invokeinterface i cnt, 5)) (hp : pc' = pc + 5) (ha : (Value.ref a :: argsL).toArray = as') (ec : cells' = cells + rm.cells) (es : slots' = slots + rm.slots) (hc : cells' ≤ R.cells) (hl : slots' ≤ R.slots)
    (k : ∀ v T' h', own_At G p l e R s m args below meth c Z n0 own nm bytes maxL ret T' h' cells' slots' → Q v h' → G T' (mkF m pc' Ls (v.toList ++ rest))) : G T (mkF m pc Ls st) :=
  own_callF (QQ := fun v h' L => Q v h' ∧ Fr n0 L ∧ Old Z n0 h') (kc := rm.cells) (ks := rm.slots) X w1 w2 wf w3 w4 w5 w6 w7 hy E (fun hZ => own_back M hZ wc wz hf hlo) (fun _ _ _ q => q) hsz hlen hs hW hd hp ha ec es hc hl k
theorem own_instY (X : own_At G p l e R s m args below meth c Z n0 own nm bytes maxL ret T h cells slots) {pc pc' : Nat} {Ls : Array Slot} {st : List Value} {i : Nat} {K : String} {a : Addr} (w : (Cond.classLink own i K).before a0 Z = true) (F : Ins Z h a K true) (hd : decode bytes pc = .ok (.instanceof i, 3)) (hp : pc' = pc + 3)
    (k : ∀ T', own_At G p l e R s m args below meth c Z n0 own nm bytes maxL ret T' h cells slots → G T' (mkF m pc' Ls (.int 1 :: st))) : G T (mkF m pc Ls (.ref a :: st)) := by
  obtain ⟨hG, ⟨c1, c2, hZ, hown, c5⟩, L, X, N, eT, O⟩ := X
  subst hp
  obtain ⟨T', X', e', st'⟩ := instY X c1 hZ hown w eT F (g := mkF m pc Ls (.ref a :: st)) rfl rfl (hb c2 hd)
  exact hG _ _ _ _ st' (k _ ⟨hG, ⟨c1, c2, hZ, hown, c5⟩, L, X', N, e', O⟩)
theorem own_castY (X : own_At G p l e R s m args below meth c Z n0 own nm bytes maxL ret T h cells slots) {pc pc' : Nat} {Ls : Array Slot} {st : List Value} {i : Nat} {K : String} {a : Addr} (w : (Cond.classLink own i K).before a0 Z = true) (F : Ins Z h a K true) (hd : decode bytes pc = .ok (.checkcast i, 3)) (hp : pc' = pc + 3)
    (k : ∀ T', own_At G p l e R s m args below meth c Z n0 own nm bytes maxL ret T' h cells slots → G T' (mkF m pc' Ls (.ref a :: st))) : G T (mkF m pc Ls (.ref a :: st)) := by
  obtain ⟨hG, ⟨c1, c2, hZ, hown, c5⟩, L, X, N, eT, O⟩ := X
  subst hp
  obtain ⟨T', X', e', st'⟩ := castY X c1 hZ hown w eT F (g := mkF m pc Ls (.ref a :: st)) rfl rfl (hb c2 hd)
  exact hG _ _ _ _ st' (k _ ⟨hG, ⟨c1, c2, hZ, hown, c5⟩, L, X', N, e', O⟩)
theorem own_instN (X : own_At G p l e R s m args below meth c Z n0 own nm bytes maxL ret T h cells slots) {pc pc' : Nat} {Ls : Array Slot} {st : List Value} {i : Nat} {K C : String} {a : Addr} (w : (Cond.classLink own i K).before a0 Z = true) (E : Exa Z h a C) (F : ∃ c t, Z.vm.findClass C = some c ∧ Z.vm.findClass K = some t ∧ Z.vm.assignable c t = false) (hd : decode bytes pc = .ok (.instanceof i, 3)) (hp : pc' = pc + 3)
    (k : ∀ T', own_At G p l e R s m args below meth c Z n0 own nm bytes maxL ret T' h cells slots → G T' (mkF m pc' Ls (.int 0 :: st))) : G T (mkF m pc Ls (.ref a :: st)) := by
  obtain ⟨hG, ⟨c1, c2, hZ, hown, c5⟩, L, X, N, eT, O⟩ := X
  subst hp
  obtain ⟨T', X', e', st'⟩ := instNo X c1 hZ hown w eT E F (g := mkF m pc Ls (.ref a :: st)) rfl rfl (hb c2 hd)
  exact hG _ _ _ _ st' (k _ ⟨hG, ⟨c1, c2, hZ, hown, c5⟩, L, X', N, e', O⟩)
theorem own_instNull (X : own_At G p l e R s m args below meth c Z n0 own nm bytes maxL ret T h cells slots) {pc pc' : Nat} {Ls : Array Slot} {st : List Value} {i : Nat} (hd : decode bytes pc = .ok (.instanceof i, 3)) (hp : pc' = pc + 3)
    (k : G T (mkF m pc' Ls (.int 0 :: st))) : G T (mkF m pc Ls (.null :: st)) := by
  obtain ⟨hG, ⟨c1, c2, hZ, hown, c5⟩, L, X, N, eT, O⟩ := X
  subst hp
  exact hG _ _ _ _ (X.instanceofNull c1 (g := mkF m pc Ls (.null :: st)) rfl rfl (hb c2 hd)) k
theorem own_castNull (X : own_At G p l e R s m args below meth c Z n0 own nm bytes maxL ret T h cells slots) {pc pc' : Nat} {Ls : Array Slot} {st : List Value} {i : Nat} (hd : decode bytes pc = .ok (.checkcast i, 3)) (hp : pc' = pc + 3)
    (k : G T (mkF m pc' Ls (.null :: st))) : G T (mkF m pc Ls (.null :: st)) := by
  obtain ⟨hG, ⟨c1, c2, hZ, hown, c5⟩, L, X, N, eT, O⟩ := X
  subst hp
  exact hG _ _ _ _ (X.checkcastNull c1 (g := mkF m pc Ls (.null :: st)) rfl rfl (hb c2 hd)) k
/-- an object of C, whose superclass S has none, is no K -/
theorem own_no {C S K : String} {n : Nat} (w : (Cond.superclass C S).before a0 Z = true) (wS : (Cond.noSuperclass S).before a0 Z = true) (wi : (Cond.instantiable K n).before a0 Z = true) (hn : C ≠ K) (hS : S ≠ K) : ∃ c t, Z.vm.findClass C = some c ∧ Z.vm.findClass K = some t ∧ Z.vm.assignable c t = false := by
  obtain ⟨t, k', g0, g2, g5, g7, -⟩ := Cond.instantiable_spec wi
  obtain ⟨c, h0⟩ := found_sup w
  obtain ⟨q, k, kp, h1, h2, h3, h4, h5, -, h7⟩ := Cond.superclass_spec h0 w
  obtain ⟨cS, kS, s1, s2, s3, -, -⟩ := Cond.noSuperclass_spec wS
  cases h1.symm.trans s1
  have ne := ids_ne h0 g0 hn
  have neS := ids_ne s1 g0 hS
  have n3 : ∀ fuel, Z.vm.isSubclassAux fuel c t = false := by
    intro fuel
    cases fuel with
    | zero => rfl
    | succ f =>
      cases f with
      | zero => simp [Vm.isSubclassAux, ne, h2, h4]
      | succ f => simp [Vm.isSubclassAux, ne, neS, h2, h4, s2, s3]
  have g7' : k'.isInterface = false := by
    cases hq : k'.isInterface with
    | false => rfl
    | true => rw [hq] at g7; cases g7
  refine ⟨c, t, h0, g0, ?_⟩
  show Z.vm.assignableAux (255 + 1) c t = false
  simp [Vm.assignableAux, ne, h2, g2, h5, g5, g7', Vm.isSubclass, n3]
end OwnKit
section OwnDbl
variable {G : State → JFrame → Prop} {p : Program} {l : Launch} {e : Env} {R : Room} {s : State} {m : MethodId} {args : Array Value} {below : List Frame} {meth : Method} {c : Code} {Z : State} {n0 : Nat} {own nm : String} {bytes : ByteArray} {maxL : Nat} {ret : Option FieldType} {T : State} {h : Heap} {cells slots : Nat} {a0 : Array Value}
theorem own_dload_n (X : own_At G p l e R s m args below meth c Z n0 own nm bytes maxL ret T h cells slots) {pc pc' : Nat} {Ls : Array Slot} {st : List Value} {i : Fin 4} {v : UInt64} (hd : decode bytes pc = .ok (.dload_n i, 1)) (hp : pc' = pc + 1) (hl : Ls[i.val]? = some (.val (.double v))) (k : G T (mkF m pc' Ls (.double v :: st))) : G T (mkF m pc Ls st) := by
  obtain ⟨hG, ⟨c1, c2, -⟩, L, X, -⟩ := X
  subst hp
  exact hG _ _ _ _ (fun t q => XS.dloadN X.here c1 rfl (hb c2 hd) hl q) k
theorem own_dload (X : own_At G p l e R s m args below meth c Z n0 own nm bytes maxL ret T h cells slots) {pc pc' : Nat} {Ls : Array Slot} {st : List Value} {i : Nat} {v : UInt64} (hd : decode bytes pc = .ok (.dload i, 2)) (hp : pc' = pc + 2) (hl : Ls[i]? = some (.val (.double v))) (k : G T (mkF m pc' Ls (.double v :: st))) : G T (mkF m pc Ls st) := by
  obtain ⟨hG, ⟨c1, c2, -⟩, L, X, -⟩ := X
  subst hp
  exact hG _ _ _ _ (fun t q => XS.dload X.here c1 rfl (hb c2 hd) hl q) k
theorem own_dstore_n (X : own_At G p l e R s m args below meth c Z n0 own nm bytes maxL ret T h cells slots) {pc pc' : Nat} {Ls : Array Slot} {st : List Value} {i : Fin 4} {v : UInt64} {Ls' : Array Slot} (hd : decode bytes pc = .ok (.dstore_n i, 1)) (hp : pc' = pc + 1) (hl : storeLocals Ls i.val (.double v) = some Ls') (k : G T (mkF m pc' Ls' st)) : G T (mkF m pc Ls (.double v :: st)) := by
  obtain ⟨hG, ⟨c1, c2, -⟩, L, X, -⟩ := X
  subst hp
  exact hG _ _ _ _ (fun t q => XS.dstoreN X.here c1 rfl (hb c2 hd) rfl hl q) k
theorem own_dstore (X : own_At G p l e R s m args below meth c Z n0 own nm bytes maxL ret T h cells slots) {pc pc' : Nat} {Ls : Array Slot} {st : List Value} {i : Nat} {v : UInt64} {Ls' : Array Slot} (hd : decode bytes pc = .ok (.dstore i, 2)) (hp : pc' = pc + 2) (hl : storeLocals Ls i (.double v) = some Ls') (k : G T (mkF m pc' Ls' st)) : G T (mkF m pc Ls (.double v :: st)) := by
  obtain ⟨hG, ⟨c1, c2, -⟩, L, X, -⟩ := X
  subst hp
  exact hG _ _ _ _ (fun t q => XS.dstore X.here c1 rfl (hb c2 hd) rfl hl q) k
theorem own_dconst1 (X : own_At G p l e R s m args below meth c Z n0 own nm bytes maxL ret T h cells slots) {pc pc' : Nat} {Ls : Array Slot} {st : List Value} {v : UInt64} (hd : decode bytes pc = .ok (.dconst 1, 1)) (hp : pc' = pc + 1) (hv : FP.dconst1 = v) (k : G T (mkF m pc' Ls (.double v :: st))) : G T (mkF m pc Ls st) := by
  obtain ⟨hG, ⟨c1, c2, -⟩, L, X, -⟩ := X
  subst hp
  exact hG _ _ _ _ (fun t q => XS.dconst1 X.here c1 rfl (hb c2 hd) hv q) k
theorem own_i2d (X : own_At G p l e R s m args below meth c Z n0 own nm bytes maxL ret T h cells slots) {pc pc' : Nat} {Ls : Array Slot} {st : List Value} {x : Int32} {v : UInt64} (hd : decode bytes pc = .ok (.i2d, 1)) (hp : pc' = pc + 1) (hv : FP.i2d x = v) (k : G T (mkF m pc' Ls (.double v :: st))) : G T (mkF m pc Ls (.int x :: st)) := by
  obtain ⟨hG, ⟨c1, c2, -⟩, L, X, -⟩ := X
  subst hp
  exact hG _ _ _ _ (fun t q => XS.i2dS X.here c1 rfl (hb c2 hd) rfl hv q) k
theorem own_l2d (X : own_At G p l e R s m args below meth c Z n0 own nm bytes maxL ret T h cells slots) {pc pc' : Nat} {Ls : Array Slot} {st : List Value} {x : Int64} (hd : decode bytes pc = .ok (.l2d, 1)) (hp : pc' = pc + 1)  (k : G T (mkF m pc' Ls (.double (FP.l2d x) :: st))) : G T (mkF m pc Ls (.long x :: st)) := by
  obtain ⟨hG, ⟨c1, c2, -⟩, L, X, -⟩ := X
  subst hp
  exact hG _ _ _ _ (fun t q => XS.l2dS X.here c1 rfl (hb c2 hd) rfl rfl q) k
theorem own_dadd (X : own_At G p l e R s m args below meth c Z n0 own nm bytes maxL ret T h cells slots) {pc pc' : Nat} {Ls : Array Slot} {st : List Value} {x y : UInt64} {a : Int64} (hd : decode bytes pc = .ok (.dadd, 1)) (hp : pc' = pc + 1) (hv : FP.dadd x y = FP.l2d a) (k : G T (mkF m pc' Ls (.double (FP.l2d a) :: st))) : G T (mkF m pc Ls (.double y :: .double x :: st)) := by
  obtain ⟨hG, ⟨c1, c2, -⟩, L, X, -⟩ := X
  subst hp
  exact hG _ _ _ _ (fun t q => XS.daddS X.here c1 rfl (hb c2 hd) rfl (nn_w hv) hv q) k
theorem own_dmul (X : own_At G p l e R s m args below meth c Z n0 own nm bytes maxL ret T h cells slots) {pc pc' : Nat} {Ls : Array Slot} {st : List Value} {x y : UInt64} {a : Int64} (hd : decode bytes pc = .ok (.dmul, 1)) (hp : pc' = pc + 1) (hv : FP.dmul x y = FP.l2d a) (k : G T (mkF m pc' Ls (.double (FP.l2d a) :: st))) : G T (mkF m pc Ls (.double y :: .double x :: st)) := by
  obtain ⟨hG, ⟨c1, c2, -⟩, L, X, -⟩ := X
  subst hp
  exact hG _ _ _ _ (fun t q => XS.dmulS X.here c1 rfl (hb c2 hd) rfl (nn_w hv) hv q) k
theorem own_dcmpl (X : own_At G p l e R s m args below meth c Z n0 own nm bytes maxL ret T h cells slots) {pc pc' : Nat} {Ls : Array Slot} {st : List Value} {x y : UInt64} {v : Int32} (hd : decode bytes pc = .ok (.dcmp .l, 1)) (hp : pc' = pc + 1) (hv : cmpValue (FP.dcmp x y) .l = v) (k : G T (mkF m pc' Ls (.int v :: st))) : G T (mkF m pc Ls (.double y :: .double x :: st)) := by
  obtain ⟨hG, ⟨c1, c2, -⟩, L, X, -⟩ := X
  subst hp
  exact hG _ _ _ _ (fun t q => XS.dcmpS X.here c1 rfl (hb c2 hd) rfl hv q) k
theorem own_ldc2D (X : own_At G p l e R s m args below meth c Z n0 own nm bytes maxL ret T h cells slots) {pc pc' : Nat} {Ls : Array Slot} {st : List Value} {i : Nat} {v u : UInt64} (w : (Cond.constantDouble own i v).before a0 Z = true) (hu : v = u) (hd : decode bytes pc = .ok (.ldc2_w i, 3)) (hp : pc' = pc + 3) (k : G T (mkF m pc' Ls (.double u :: st))) : G T (mkF m pc Ls st) := by
  obtain ⟨hG, ⟨c1, c2, hZ, hown, -⟩, L, X, -⟩ := X
  subst hp hu
  exact hG _ _ _ _ (X.ldc2DoubleC c1 hown (mvT hZ w) (g := mkF m pc Ls st) rfl (hb c2 hd)) k
end OwnDbl
theorem dd_prog_12_method_2_0 : decode prog_12_method_2_code 0 = .ok (.ldc2_w 39, 3) := by decide +kernel
theorem dd_prog_12_method_2_3 : decode prog_12_method_2_code 3 = .ok (.lload_n 1, 1) := by decide +kernel
theorem dd_prog_12_method_2_4 : decode prog_12_method_2_code 4 = .ok (.l2d, 1) := by decide +kernel
theorem dd_prog_12_method_2_5 : decode prog_12_method_2_code 5 = .ok (.dmul, 1) := by decide +kernel
theorem dd_prog_12_method_2_6 : decode prog_12_method_2_code 6 = .ok (.ldc2_w 41, 3) := by decide +kernel
theorem dd_prog_12_method_2_9 : decode prog_12_method_2_code 9 = .ok (.dadd, 1) := by decide +kernel
theorem dd_prog_12_method_2_10 : decode prog_12_method_2_code 10 = .ok (.dstore_n 3, 1) := by decide +kernel
theorem dd_prog_12_method_2_11 : decode prog_12_method_2_code 11 = .ok (.ldc2_w 39, 3) := by decide +kernel
theorem dd_prog_12_method_2_14 : decode prog_12_method_2_code 14 = .ok (.lload_n 1, 1) := by decide +kernel
theorem dd_prog_12_method_2_15 : decode prog_12_method_2_code 15 = .ok (.l2d, 1) := by decide +kernel
theorem dd_prog_12_method_2_16 : decode prog_12_method_2_code 16 = .ok (.dmul, 1) := by decide +kernel
theorem dd_prog_12_method_2_17 : decode prog_12_method_2_code 17 = .ok (.dstore 5, 2) := by decide +kernel
theorem dd_prog_12_method_2_19 : decode prog_12_method_2_code 19 = .ok (.ldc2_w 41, 3) := by decide +kernel
theorem dd_prog_12_method_2_22 : decode prog_12_method_2_code 22 = .ok (.dload_n 3, 1) := by decide +kernel
theorem dd_prog_12_method_2_23 : decode prog_12_method_2_code 23 = .ok (.dmul, 1) := by decide +kernel
theorem dd_prog_12_method_2_24 : decode prog_12_method_2_code 24 = .ok (.ldc2_w 43, 3) := by decide +kernel
theorem dd_prog_12_method_2_27 : decode prog_12_method_2_code 27 = .ok (.dload 5, 2) := by decide +kernel
theorem dd_prog_12_method_2_29 : decode prog_12_method_2_code 29 = .ok (.dmul, 1) := by decide +kernel
theorem dd_prog_12_method_2_30 : decode prog_12_method_2_code 30 = .ok (.dadd, 1) := by decide +kernel
theorem dd_prog_12_method_2_31 : decode prog_12_method_2_code 31 = .ok (.ldc2_w 45, 3) := by decide +kernel
theorem dd_prog_12_method_2_34 : decode prog_12_method_2_code 34 = .ok (.iload_n 0, 1) := by decide +kernel
theorem dd_prog_12_method_2_35 : decode prog_12_method_2_code 35 = .ok (.i2d, 1) := by decide +kernel
theorem dd_prog_12_method_2_36 : decode prog_12_method_2_code 36 = .ok (.dconst 1, 1) := by decide +kernel
theorem dd_prog_12_method_2_37 : decode prog_12_method_2_code 37 = .ok (.dadd, 1) := by decide +kernel
theorem dd_prog_12_method_2_38 : decode prog_12_method_2_code 38 = .ok (.dmul, 1) := by decide +kernel
theorem dd_prog_12_method_2_39 : decode prog_12_method_2_code 39 = .ok (.dadd, 1) := by decide +kernel
theorem own_toI (k : Nat) (hk : k < 2 ^ 63) : (OfNat.ofNat k : Int64).toInt = k := by
  show (Int64.ofNat k).toInt = k
  exact Int64.toInt_ofNat_of_lt hk
theorem own_lin (v : Int32) (e : Int64) (h1 : 0 ≤ e.toInt) (h2 : e.toInt < 17592186044416) :
    (2 * e).toInt = 2 * e.toInt ∧ (2 * e + 16).toInt = 2 * e.toInt + 16 ∧ (16 * (2 * e + 16)).toInt = 32 * e.toInt + 256 ∧ (24 * (2 * e)).toInt = 48 * e.toInt ∧ (16 * (2 * e + 16) + 24 * (2 * e)).toInt = 80 * e.toInt + 256 ∧ (v.toInt64 + 1).toInt = v.toInt + 1 ∧ (12 * (v.toInt64 + 1)).toInt = 12 * v.toInt + 12 ∧ (16 * (2 * e + 16) + 24 * (2 * e) + 12 * (v.toInt64 + 1)).toInt = 80 * e.toInt + 12 * v.toInt + 268 := by
  have r := rng32 v
  have a1 : (2 * e).toInt = 2 * e.toInt := by
    have q := c_lmul 2 e; have r := rng64 (2 * e); rw [show (2 : Int64).toInt = 2 from by decide] at q; omega
  have a2 : (2 * e + 16).toInt = 2 * e.toInt + 16 := by
    have q := c_ladd (2 * e) 16; have r := rng64 (2 * e + 16); rw [show (16 : Int64).toInt = 16 from by decide] at q; omega
  have a3 : (16 * (2 * e + 16)).toInt = 32 * e.toInt + 256 := by
    have q := c_lmul 16 (2 * e + 16); have r := rng64 (16 * (2 * e + 16)); rw [show (16 : Int64).toInt = 16 from by decide, a2] at q; omega
  have a4 : (24 * (2 * e)).toInt = 48 * e.toInt := by
    have q := c_lmul 24 (2 * e); have r := rng64 (24 * (2 * e)); rw [show (24 : Int64).toInt = 24 from by decide, a1] at q; omega
  have a5 : (16 * (2 * e + 16) + 24 * (2 * e)).toInt = 80 * e.toInt + 256 := by
    have q := c_ladd (16 * (2 * e + 16)) (24 * (2 * e)); have r := rng64 (16 * (2 * e + 16) + 24 * (2 * e)); rw [a3, a4] at q; omega
  have a6 : (v.toInt64 + 1).toInt = v.toInt + 1 := by
    have q := c_ladd v.toInt64 1; have r := rng64 (v.toInt64 + 1); rw [show (1 : Int64).toInt = 1 from by decide, c_i2l] at q; omega
  have a7 : (12 * (v.toInt64 + 1)).toInt = 12 * v.toInt + 12 := by
    have q := c_lmul 12 (v.toInt64 + 1); have r := rng64 (12 * (v.toInt64 + 1)); rw [show (12 : Int64).toInt = 12 from by decide, a6] at q; omega
  refine ⟨a1, a2, a3, a4, a5, a6, a7, ?_⟩
  have q := c_ladd (16 * (2 * e + 16) + 24 * (2 * e)) (12 * (v.toInt64 + 1)); have r := rng64 (16 * (2 * e + 16) + 24 * (2 * e) + 12 * (v.toInt64 + 1)); rw [a5, a7] at q; omega
theorem own_fl (v : Int32) (e : Int64) (h1 : 0 ≤ e.toInt) (h2 : e.toInt < 17592186044416) :
    FP.dmul (FP.l2d 2) (FP.l2d e) = FP.l2d (2 * e) ∧ FP.dadd (FP.l2d (2 * e)) (FP.l2d 16) = FP.l2d (2 * e + 16) ∧ FP.dmul (FP.l2d 16) (FP.l2d (2 * e + 16)) = FP.l2d (16 * (2 * e + 16)) ∧ FP.dmul (FP.l2d 24) (FP.l2d (2 * e)) = FP.l2d (24 * (2 * e)) ∧ FP.dadd (FP.l2d (16 * (2 * e + 16))) (FP.l2d (24 * (2 * e))) = FP.l2d (16 * (2 * e + 16) + 24 * (2 * e)) ∧ FP.dadd (FP.l2d v.toInt64) (FP.l2d 1) = FP.l2d (v.toInt64 + 1) ∧ FP.dmul (FP.l2d 12) (FP.l2d (v.toInt64 + 1)) = FP.l2d (12 * (v.toInt64 + 1)) ∧ FP.dadd (FP.l2d (16 * (2 * e + 16) + 24 * (2 * e))) (FP.l2d (12 * (v.toInt64 + 1))) = FP.l2d (16 * (2 * e + 16) + 24 * (2 * e) + 12 * (v.toInt64 + 1)) := by
  obtain ⟨a1, a2, a3, a4, a5, a6, a7, a8⟩ := own_lin v e h1 h2
  have r := rng32 v
  have mul : ∀ (k b : Int64) (K : Int), k.toInt = K → 0 < K → K ≤ 24 → -80000000000000 ≤ b.toInt → b.toInt ≤ 80000000000000 → FP.dmul (FP.l2d k) (FP.l2d b) = FP.l2d (k * b) := fun k b K hk h0 h3 hb1 hb2 =>
    dmul_k (A := 24) (B := 80000000000000) (by omega) (by omega) hb1 hb2 (by decide) (by decide) (by decide) (fun q => by rw [q.1] at hk; rw [show (0 : Int64).toInt = 0 from by decide] at hk; omega) (fun q => by have := q.2; rw [Int64.lt_iff_toInt_lt, show (0 : Int64).toInt = 0 from by decide] at this; omega)
  have b : ∀ a : Int64, -9007199254740992 < a.toInt → a.toInt < 9007199254740992 → B53 a := fun a p q => ⟨p, q⟩
  refine ⟨mul 2 e 2 (by decide) (by decide) (by decide) (by omega) (by omega), dadd_w (b _ (by omega) (by omega)) (b _ (by decide) (by decide)), mul 16 _ 16 (by decide) (by decide) (by decide) (by omega) (by omega), mul 24 _ 24 (by decide) (by decide) (by decide) (by omega) (by omega), dadd_w (b _ (by omega) (by omega)) (b _ (by omega) (by omega)), dadd_w (b _ (by rw [c_i2l]; omega) (by rw [c_i2l]; omega)) (b _ (by decide) (by decide)), mul 12 _ 12 (by decide) (by decide) (by decide) (by omega) (by omega), dadd_w (b _ (by omega) (by omega)) (b _ (by omega) (by omega))⟩
theorem dd_prog_12_method_2_40 : decode prog_12_method_2_code 40 = .ok (.dreturn, 1) := by decide +kernel
theorem pn_0 : plainName "com/example/kentro/kentro/graph/Graph$Builder" = true := by first | (simp [plainName, overriddenIn]; done) | decide +kernel
theorem ef_own_b1 (m : MethodId) (x0 : Int32) (x1 : Int64) : entryFrame m #[(.int x0), (.long x1)] 7 = mkF m 0 #[.val (.int x0), .val (.long x1), .second, .unset, .unset, .unset, .unset] [] := by first | (simp [entryFrame, mkF, argsToLocals, Value.category]; done) | rfl
set_option maxRecDepth 65536 in
set_option maxHeartbeats 40000000 in
theorem own_b1 (l : Launch) (Z : State) (a0 : Array Value) (hw : ∀ d ∈ tables_1, d.before a0 Z = true) (n0 : Nat) (v : Int32) (e' : Int64) (h0 : Heap) (O0 : Old Z n0 h0) (h1 : 0 ≤ e'.toInt) (h2 : e'.toInt < 17592186044416) :
    own_Met l Z n0 (⟨"com/example/kentro/kentro/graph/Graph$Builder", "bytesToBuild", "(IJ)D"⟩ : MethodName) prog_12_method_2_code 7 (some .double) ({ frames := 0, cells := 0, slots := 0, locals := 0 } : Room) #[(.int v), (.long e')] h0 (fun w h => w = some (.double (FP.l2d (16 * (2 * e' + 16) + 24 * (2 * e') + 12 * (v.toInt64 + 1)))) ∧ h0 = h) := by
  refine own_enter (own := "com/example/kentro/kentro/graph/Graph$Builder") (nm := "bytesToBuild") pn_0 rfl rfl O0 ?_
  have W : ∀ (k : Nat) {d : Jvm.Cond}, tables_1[k]? = some d → d.before a0 Z = true := fun k d q => hw d (List.mem_of_getElem? q)
  intro G p e s m below meth c T0 hGe X0
  rw [ef_own_b1 m v (e')]
  obtain ⟨m1, m2, m3, m4, m5, m6, m7, m8⟩ := own_fl v e' h1 h2
  refine own_ldc2D (pc' := 3) X0 (u := FP.l2d 2) (W 5 rfl) (by decide +kernel) dd_prog_12_method_2_0 rfl ?_
  refine own_lload_n (pc' := 4) X0 dd_prog_12_method_2_3 rfl rfl ?_
  refine own_l2d (pc' := 5) X0 dd_prog_12_method_2_4 rfl ?_
  refine own_dmul (pc' := 6) X0 (a := (2 * e')) dd_prog_12_method_2_5 rfl m1 ?_
  refine own_ldc2D (pc' := 9) X0 (u := FP.l2d 16) (W 6 rfl) (by decide +kernel) dd_prog_12_method_2_6 rfl ?_
  refine own_dadd (pc' := 10) X0 (a := (2 * e' + 16)) dd_prog_12_method_2_9 rfl m2 ?_
  refine own_dstore_n (pc' := 11) X0 dd_prog_12_method_2_10 rfl (Ls' := #[.val (.int v), .val (.long e'), .second, .val (.double (FP.l2d (2 * e' + 16))), .second, .unset, .unset]) rfl ?_
  refine own_ldc2D (pc' := 14) X0 (u := FP.l2d 2) (W 5 rfl) (by decide +kernel) dd_prog_12_method_2_11 rfl ?_
  refine own_lload_n (pc' := 15) X0 dd_prog_12_method_2_14 rfl rfl ?_
  refine own_l2d (pc' := 16) X0 dd_prog_12_method_2_15 rfl ?_
  refine own_dmul (pc' := 17) X0 (a := (2 * e')) dd_prog_12_method_2_16 rfl m1 ?_
  refine own_dstore (pc' := 19) X0 dd_prog_12_method_2_17 rfl (Ls' := #[.val (.int v), .val (.long e'), .second, .val (.double (FP.l2d (2 * e' + 16))), .second, .val (.double (FP.l2d (2 * e'))), .second]) rfl ?_
  refine own_ldc2D (pc' := 22) X0 (u := FP.l2d 16) (W 6 rfl) (by decide +kernel) dd_prog_12_method_2_19 rfl ?_
  refine own_dload_n (pc' := 23) X0 dd_prog_12_method_2_22 rfl rfl ?_
  refine own_dmul (pc' := 24) X0 (a := (16 * (2 * e' + 16))) dd_prog_12_method_2_23 rfl m3 ?_
  refine own_ldc2D (pc' := 27) X0 (u := FP.l2d 24) (W 7 rfl) (by decide +kernel) dd_prog_12_method_2_24 rfl ?_
  refine own_dload (pc' := 29) X0 dd_prog_12_method_2_27 rfl rfl ?_
  refine own_dmul (pc' := 30) X0 (a := (24 * (2 * e'))) dd_prog_12_method_2_29 rfl m4 ?_
  refine own_dadd (pc' := 31) X0 (a := (16 * (2 * e' + 16) + 24 * (2 * e'))) dd_prog_12_method_2_30 rfl m5 ?_
  refine own_ldc2D (pc' := 34) X0 (u := FP.l2d 12) (W 8 rfl) (by decide +kernel) dd_prog_12_method_2_31 rfl ?_
  refine own_iload_n (pc' := 35) X0 dd_prog_12_method_2_34 rfl rfl ?_
  refine own_i2d (pc' := 36) X0 (v := FP.l2d v.toInt64) dd_prog_12_method_2_35 rfl (i2d_w v) ?_
  refine own_dconst1 (pc' := 37) X0 (v := FP.l2d 1) dd_prog_12_method_2_36 rfl (by decide +kernel) ?_
  refine own_dadd (pc' := 38) X0 (a := (v.toInt64 + 1)) dd_prog_12_method_2_37 rfl m6 ?_
  refine own_dmul (pc' := 39) X0 (a := (12 * (v.toInt64 + 1))) dd_prog_12_method_2_38 rfl m7 ?_
  refine own_dadd (pc' := 40) X0 (a := (16 * (2 * e' + 16) + 24 * (2 * e') + 12 * (v.toInt64 + 1))) dd_prog_12_method_2_39 rfl m8 ?_
  exact own_ret X0 hGe (t := .double) rfl rfl (Or.inr (Or.inr (Or.inl ⟨rfl, rfl, _, rfl⟩))) dd_prog_12_method_2_40 (by decide) (by decide) ⟨rfl, rfl⟩
theorem own_eq (v : Int32) (e : Int64) (h1 : 0 ≤ e.toInt) (h2 : e.toInt < 17592186044416) : 16 * (2 * e + 16) + 24 * (2 * e) + 12 * (v.toInt64 + 1) = 80 * e + 12 * v.toInt64 + 268 := by
  obtain ⟨-, -, -, -, -, -, -, a8⟩ := own_lin v e h1 h2
  have r := rng32 v
  apply Int64.toInt_inj.mp
  rw [a8]
  have q1 := c_lmul 80 e; have r1 := rng64 (80 * e); rw [show (80 : Int64).toInt = 80 from by decide] at q1
  have q2 := c_lmul 12 v.toInt64; have r2 := rng64 (12 * v.toInt64); rw [show (12 : Int64).toInt = 12 from by decide, c_i2l] at q2
  have q3 := c_ladd (80 * e) (12 * v.toInt64); have r3 := rng64 (80 * e + 12 * v.toInt64)
  have q4 := c_ladd (80 * e + 12 * v.toInt64) 268; have r4 := rng64 (80 * e + 12 * v.toInt64 + 268); rw [show (268 : Int64).toInt = 268 from by decide] at q4
  omega
theorem own_e (k : Int64) : 0 ≤ (k &&& 17592186044415).toInt ∧ (k &&& 17592186044415).toInt < 17592186044416 := by
  have h := c_maskL k 17592186044415 44 (by decide) (by decide)
  rw [h]; constructor <;> omega
theorem pd_0 : parseMethodDescriptor "(IJ)D" = some ⟨[.int, .long], some .double⟩ := by decide +kernel
theorem pn_1 : plainName "com/example/kentro/kentro/graph/BuilderBytesToBuildPinLaw" = true := by first | (simp [plainName, overriddenIn]; done) | decide +kernel
theorem ef_own_law (m : MethodId) (x0 : Int32) (x1 : Int64) : entryFrame m #[(.int x0), (.long x1)] maxLocals = mkF m 0 #[.val (.int x0), .val (.long x1), .second, .unset, .unset, .unset, .unset, .unset, .unset] [] := by first | (simp [entryFrame, mkF, argsToLocals, Value.category, maxLocals]; done) | rfl
set_option maxRecDepth 65536 in
set_option maxHeartbeats 40000000 in
theorem own_law (l : Launch) (Z : State) (a0 : Array Value) (hw : ∀ d ∈ tables_1, d.before a0 Z = true) (n0 : Nat) (v : Int32) (k : Int64) (h0 : Heap) (O0 : Old Z n0 h0)  :
    own_Met l Z n0 x code maxLocals ret room_1 #[(.int v), (.long k)] h0 (fun v h => v = some (.int 1)) := by
  refine own_enter (own := "com/example/kentro/kentro/graph/BuilderBytesToBuildPinLaw") (nm := "law") pn_1 rfl rfl O0 ?_
  have W : ∀ (k : Nat) {d : Jvm.Cond}, tables_1[k]? = some d → d.before a0 Z = true := fun k d q => hw d (List.mem_of_getElem? q)
  intro G p e s m below meth c T0 hGe X0
  rw [ef_own_law m v k]
  obtain ⟨h1, h2⟩ := own_e k
  refine own_lload_n (pc' := 1) X0 at_0 rfl rfl ?_
  refine own_ldc2 (pc' := 4) X0 (v := (17592186044415 : Int64)) (W 0 rfl) at_1 rfl ?_
  refine own_land (pc' := 5) X0 at_4 rfl (r := (k &&& (17592186044415 : Int64))) rfl ?_
  generalize (k &&& (17592186044415 : Int64)) = ee at h1 h2 ⊢
  refine own_lstore_n (pc' := 6) X0 at_5 rfl (Ls' := #[.val (.int v), .val (.long k), .second, .val (.long ee), .second, .unset, .unset, .unset, .unset]) rfl ?_
  refine own_iload_n (pc' := 7) X0 at_6 rfl rfl ?_
  refine own_lload_n (pc' := 8) X0 at_7 rfl rfl ?_
  refine own_callSM (pc' := 11) (cells' := 0) (slots' := 0) (argsL := [(.int v), (.long ee)]) (rest := []) (W := 0) (y := (⟨"com/example/kentro/kentro/graph/Graph$Builder", "bytesToBuild", "(IJ)D"⟩ : MethodName)) X0 (W 1 rfl) (W 2 rfl) (by decide) (own_b1 l Z a0 hw n0 v ee h0 (own_old X0) h1 h2) (W 4 rfl) (W 3 rfl) (by decide) (by decide) rfl (lenOf pd_0 rfl) rfl rfl at_8 rfl rfl rfl rfl (by decide) (by decide) ?_
  intro v1 T1 h1 X1 q1
  obtain ⟨rfl, rfl⟩ := q1
  show G T1 (mkF m 11 #[.val (.int v), .val (.long k), .second, .val (.long ee), .second, .unset, .unset, .unset, .unset] [(.double (FP.l2d (16 * (2 * ee + 16) + 24 * (2 * ee) + 12 * (v.toInt64 + 1))))])
  rw [own_eq v ee h1 h2]
  refine own_dstore (pc' := 13) X1 at_11 rfl (Ls' := #[.val (.int v), .val (.long k), .second, .val (.long ee), .second, .val (.double (FP.l2d (80 * ee + 12 * v.toInt64 + 268))), .second, .unset, .unset]) rfl ?_
  refine own_ldc2 (pc' := 16) X1 (v := (80 : Int64)) (W 9 rfl) at_13 rfl ?_
  refine own_lload_n (pc' := 17) X1 at_16 rfl rfl ?_
  refine own_lmul (pc' := 18) X1 at_17 rfl (r := ((80 : Int64) * ee)) rfl ?_
  refine own_ldc2 (pc' := 21) X1 (v := (12 : Int64)) (W 10 rfl) at_18 rfl ?_
  refine own_iload_n (pc' := 22) X1 at_21 rfl rfl ?_
  refine own_i2l (pc' := 23) X1 at_22 rfl (r := v.toInt64) rfl ?_
  refine own_lmul (pc' := 24) X1 at_23 rfl (r := ((12 : Int64) * v.toInt64)) rfl ?_
  refine own_ladd (pc' := 25) X1 at_24 rfl (r := (((80 : Int64) * ee) + ((12 : Int64) * v.toInt64))) rfl ?_
  refine own_ldc2 (pc' := 28) X1 (v := (268 : Int64)) (W 11 rfl) at_25 rfl ?_
  refine own_ladd (pc' := 29) X1 at_28 rfl (r := ((((80 : Int64) * ee) + ((12 : Int64) * v.toInt64)) + (268 : Int64))) rfl ?_
  refine own_lstore (pc' := 31) X1 at_29 rfl (Ls' := #[.val (.int v), .val (.long k), .second, .val (.long ee), .second, .val (.double (FP.l2d (80 * ee + 12 * v.toInt64 + 268))), .second, .val (.long ((((80 : Int64) * ee) + ((12 : Int64) * v.toInt64)) + (268 : Int64))), .second]) rfl ?_
  refine own_dload (pc' := 33) X1 at_31 rfl rfl ?_
  refine own_lload (pc' := 35) X1 at_33 rfl rfl ?_
  refine own_l2d (pc' := 36) X1 at_35 rfl ?_
  refine own_dcmpl (pc' := 37) X1 (v := 0) at_36 rfl (dcmpV_self (nn_w rfl) _) ?_
  refine own_ifN (pc' := 40) X1 at_37 rfl ((teq rfl).2) ?_
  refine own_iconst (pc' := 41) X1 at_40 rfl (z := (1 : Int32)) (by decide) ?_
  refine own_goto (pc' := 45) X1 at_41 (by decide) (by decide) ?_
  exact own_ret X1 hGe (t := .boolean) rfl rfl (Or.inl ⟨rfl, by simp, _, rfl⟩) at_45 (by decide) (by decide) rfl
set_option maxRecDepth 65536 in
set_option maxHeartbeats 40000000 in
theorem comes_1 {Post : Tables → Env → Array Value → State → Outcome → State → Prop} (hpost : ∀ tb e args s v u, (limb_1_1.after args s (.returned v) u = true ∧ limb_1_2.after args s (.returned v) u = true ∧ True) → FrameEnd s (.returned v) u (Jvm.fieldLocs frame_1_writes args s ++ Jvm.arrayLocs frame_1_arrays args s ++ Jvm.staticLocs frame_1_statics s) 0 0 → Post tb e args s (.returned v) u) :
    ArmFor flags0 classFile x code maxLocals ret World_1 tables_1 room_1 Calls_1 rest_1 Pre_1 Post := by
  intro l hfl _ _ p e ha hc hk s m args below hf hA hF happ hP
  obtain ⟨hcalls, hrest, hpre⟩ := hP
  obtain ⟨-, -, -, hnamed, -, -, -, hat⟩ := (Spec.applies_iff hf).mp happ
  obtain ⟨hg, hn⟩ := and_e (Cond.before_iff.mp (show (Jvm.Cond.and given_1 narrow_1).before args s = true from hpre))
  obtain ⟨h1, g0⟩ := and_e hg
  obtain ⟨b0, g1⟩ := and_e g0
  have b1 := g1
  obtain ⟨w0, w1, rfl⟩ : ∃ w0 w1 : Value, args = #[w0, w1] := by
    have hs : args.size = 2 := by simpa [Cond.value, given_1] using h1
    obtain ⟨L⟩ := args
    match L, hs with
    | [w0, w1], _ => exact ⟨w0, w1, rfl⟩
  have hw := fun d (hd : d ∈ tables_1) => atoms_spec (ws := Jvm.Cond.code x code maxLocals ret :: tables_1) hat d (List.mem_cons_of_mem _ hd)
  have hfit : Fit s := fun {y c} hc i hi => by
    obtain ⟨ha, rfl⟩ := Array.getElem?_eq_some_iff.mp hc
    have q := List.all_eq_true.mp ((Array.all_eq_true_iff_forall_mem.mp hF) _ (Array.getElem_mem ha)) i (List.mem_range.mpr hi)
    simpa [Array.getElem?_eq_getElem hi] using q
  obtain ⟨i0, e0⟩ := is_v b0
  obtain rfl : w0 = (.int i0) := Option.some.inj e0
  obtain ⟨i1, e1⟩ := isL_v b1
  obtain rfl : w1 = (.long i1) := Option.some.inj e1
  obtain ⟨n, o, h1, h2, h3, _, L, rfl, ⟨rfl, N, -⟩, hq⟩ := own_law l s _ hw s.heap.size i0 i1 s.heap (Old.start s)  tables_1 p e ha hc hk s m _ below hf ((Spec.applies_iff_loose hf).mp happ).1 ⟨rfl, State.Warmed39.refl s, rfl⟩ trivial
  refine ⟨n, _, h1, h2, h3, hpost _ _ _ _ _ _ ⟨Cond.after_iff.mpr rfl, Cond.after_iff.mpr (eq_i res_at (Term.int_eval (1)) rfl), trivial⟩ ⟨hq.1, hq.2.1, (hq.2.2.sift fun y hy => Or.inr (N y hy)).mono (by decide) (by decide)⟩⟩
theorem main_1_1 : Claimed_1_1 := comes_1 fun _ _ _ _ _ _ h hF => ⟨h.1, hF⟩
theorem main_1_2 : Claimed_1_2 := comes_1 fun _ _ _ _ _ _ h hF => ⟨h.2.1, hF⟩
end Jvm.Pilot.@@N@@
namespace Jvm.Pilot.@@N@@
open Jvm Jvm.ClassFile Sem Op Lib Jvm.Free Jvm.Stand Jvm.Pilot.@@N@@.Jvm.D
/-! MADE BY PROGRAM (witnessworld.py) out of the Statement's table words and the real class files: 9 classes; the members and pool entries that the words name. The judged class is class 1, her method 1. -/
namespace start1
open Jvm.ClassFile
def u (s : String) : CpInfo := .utf8 (stringToUtf16 s)
/-- a pool by its gaps: so many unusable entries, then the entry; so many at the end -/
def gap : Nat → List CpInfo → List CpInfo
  | 0, r => r
  | n + 1, r => .unusable :: gap n r
def poolList (es : List (Nat × CpInfo)) (last : Nat) : List CpInfo := es.foldr (fun e r => gap e.1 (e.2 :: r)) (gap last [])
def pool (es : List (Nat × CpInfo)) (last : Nat) : Array CpInfo := ⟨poolList es last⟩
def fileOf (pool : Array CpInfo) (this : Nat) (attrs : Array Attribute := #[]) (ms : Array MethodInfo := #[]) (fl : Nat := 33) (sup : Nat := 0) (ifs : Array Nat := #[]) (fds : Array FieldInfo := #[]) : ClassFile where
  minorVersion := 0
  majorVersion := 65
  constantPool := pool
  accessFlags := fl
  thisClass := this
  superClass := sup
  interfaces := ifs
  fields := fds
  methods := ms
  attributes := attrs
def plain (name : String) (sup : Option ClassId) : Class where
  name := name
  kind := .ordinary
  loader := none
  accessFlags := 33
  super := sup
  interfaces := #[]
  cf := none
  fields := #[]
  methods := #[]
  instanceTypes := #[]
  staticTypes := #[]
  resolved := #[]
  callSites := []
  init := .initialized
  statics := none
  mirror := none

def pool0 : Array CpInfo := pool [(5, u "<init>"), (0, u "()V"), (1, .class_ 10), (1, u "java/lang/Object")] 113

def k0m0 : Method := { name := "<init>", desc := "()V", sig := { parameters := [], returnType := none }, accessFlags := 1, code := none }
/-- java/lang/Object -/
def k0 : Class := { plain "java/lang/Object" none with
  accessFlags := 33
  interfaces := #[]
  cf := some (fileOf pool0 8 #[] #[{ accessFlags := 1, nameIndex := 5, descriptorIndex := 6, attributes := #[] }] 33 0 #[] #[])
  fields := #[]
  methods := #[k0m0]
  instanceTypes := #[]
  staticTypes := #[]
  resolved := Array.replicate 124 none
  statics := none }

def pool1 : Array CpInfo := pool [(2, .class_ 4), (1, u "java/lang/Object"), (0, u "<init>"), (0, u "()V"), (0, .long 17592186044415), (1, .methodref 10 11), (0, .class_ 12), (0, .nameAndType 13 14), (0, u "com/example/kentro/kentro/graph/Graph$Builder"), (0, u "bytesToBuild"), (0, u "(IJ)D"), (0, .long 80), (1, .long 12), (1, .long 268), (1, .class_ 22), (0, u "com/example/kentro/kentro/graph/BuilderBytesToBuildPinLaw"), (2, u "law"), (0, u "(IJ)Z")] 7

def k1m0 : Method := { name := "<init>", desc := "()V", sig := { parameters := [], returnType := none }, accessFlags := 2, code := none }
def k1c1 : Code := { maxStack := 6, maxLocals := 9, code := code, exceptionTable := #[], attributes := #[] }
def k1m1 : Method := { name := "law", desc := "(IJ)Z", sig := { parameters := [.int, .long], returnType := some .boolean }, accessFlags := 9, code := some k1c1 }
/-- com/example/kentro/kentro/graph/BuilderBytesToBuildPinLaw -/
def k1 : Class := { plain "com/example/kentro/kentro/graph/BuilderBytesToBuildPinLaw" (some 0) with
  accessFlags := 49
  interfaces := #[]
  cf := some (fileOf pool1 21 #[] #[{ accessFlags := 2, nameIndex := 5, descriptorIndex := 6, attributes := #[] }, { accessFlags := 9, nameIndex := 25, descriptorIndex := 26, attributes := #[] }] 49 2 #[] #[])
  fields := #[]
  methods := #[k1m0, k1m1]
  instanceTypes := #[]
  staticTypes := #[]
  resolved := Array.replicate 34 none
  statics := none }

def pool2 : Array CpInfo := pool [(5, .class_ 6), (0, u "com/example/kentro/kentro/graph/Graph"), (1, .class_ 10), (1, u "java/lang/Object"), (2, .class_ 14), (0, u "com/example/kentro/kentro/graph/Graph$Builder"), (2, u "tails"), (0, u "[I"), (2, u "heads"), (2, u "lengths"), (0, u "[J"), (11, u "vertexCount"), (0, u "I"), (0, .double 4611686018427387904), (1, .double 4625196817309499392), (1, .double 4627448617123184640), (1, .double 4622945017495814144), (9, u "totalLength"), (0, u "J"), (8, u "edgeCount"), (22, u "INITIAL_CAPACITY"), (2, u "EDGE_BYTES"), (4, u "bytesToBuild"), (0, u "(IJ)D")] 29

def k2c0 : Code := { maxStack := 8, maxLocals := 7, code := prog_12_method_2_code, exceptionTable := #[], attributes := #[] }
def k2m0 : Method := { name := "bytesToBuild", desc := "(IJ)D", sig := { parameters := [.int, .long], returnType := some .double }, accessFlags := 9, code := some k2c0 }
/-- com/example/kentro/kentro/graph/Graph$Builder -/
def k2 : Class := { plain "com/example/kentro/kentro/graph/Graph$Builder" (some 0) with
  accessFlags := 49
  interfaces := #[]
  cf := some (fileOf pool2 13 #[.nestHost 5] #[{ accessFlags := 9, nameIndex := 96, descriptorIndex := 97, attributes := #[] }] 49 8 #[] #[{ accessFlags := 26, nameIndex := 88, descriptorIndex := 38, attributes := #[] }, { accessFlags := 26, nameIndex := 91, descriptorIndex := 38, attributes := #[] }, { accessFlags := 18, nameIndex := 37, descriptorIndex := 38, attributes := #[] }, { accessFlags := 2, nameIndex := 65, descriptorIndex := 38, attributes := #[] }, { accessFlags := 2, nameIndex := 17, descriptorIndex := 18, attributes := #[] }, { accessFlags := 2, nameIndex := 21, descriptorIndex := 18, attributes := #[] }, { accessFlags := 2, nameIndex := 24, descriptorIndex := 25, attributes := #[] }, { accessFlags := 2, nameIndex := 55, descriptorIndex := 56, attributes := #[] }])
  fields := #[{ name := "INITIAL_CAPACITY", type := .int, accessFlags := 26, slot := 0, constantValue := 0 }, { name := "EDGE_BYTES", type := .int, accessFlags := 26, slot := 1, constantValue := 0 }, { name := "vertexCount", type := .int, accessFlags := 18, slot := 0, constantValue := 0 }, { name := "edgeCount", type := .int, accessFlags := 2, slot := 1, constantValue := 0 }, { name := "tails", type := (.array .int), accessFlags := 2, slot := 2, constantValue := 0 }, { name := "heads", type := (.array .int), accessFlags := 2, slot := 3, constantValue := 0 }, { name := "lengths", type := (.array .long), accessFlags := 2, slot := 4, constantValue := 0 }, { name := "totalLength", type := .long, accessFlags := 2, slot := 5, constantValue := 0 }]
  methods := #[k2m0]
  instanceTypes := #[.int, .int, (.array .int), (.array .int), (.array .long), .long]
  staticTypes := #[.int, .int]
  resolved := Array.replicate 127 none
  statics := none }

def pool3 : Array CpInfo := pool [(1, u "java/lang/Cloneable"), (0, .class_ 1), (0, u "java/lang/Object"), (0, .class_ 3)] 3

/-- java/lang/Cloneable -/
def k3 : Class := { plain "java/lang/Cloneable" (some 0) with
  accessFlags := 1537
  interfaces := #[]
  cf := some (fileOf pool3 2 #[] #[] 1537 4 #[] #[])
  fields := #[]
  methods := #[]
  instanceTypes := #[]
  staticTypes := #[]
  resolved := Array.replicate 8 none
  statics := none }

def pool4 : Array CpInfo := pool [(1, u "java/io/Serializable"), (0, .class_ 1), (0, u "java/lang/Object"), (0, .class_ 3)] 3

/-- java/io/Serializable -/
def k4 : Class := { plain "java/io/Serializable" (some 0) with
  accessFlags := 1537
  interfaces := #[]
  cf := some (fileOf pool4 2 #[] #[] 1537 4 #[] #[])
  fields := #[]
  methods := #[]
  instanceTypes := #[]
  staticTypes := #[]
  resolved := Array.replicate 8 none
  statics := none }

/-- the primitive byte -/
def k5 : Class := { plain "byte" none with kind := .primitive 'B', accessFlags := 0x411 }
/-- [B -/
def k6 : Class := { plain "[B" (some 0) with kind := .array 5 .byte, interfaces := #[3, 4], accessFlags := 1041 }

/-- the primitive int -/
def k7 : Class := { plain "int" none with kind := .primitive 'I', accessFlags := 0x411 }
/-- [I -/
def k8 : Class := { plain "[I" (some 0) with kind := .array 7 .int, interfaces := #[3, 4], accessFlags := 1041 }

def heap : Heap := #[]
def classes : Array Class := #[k0, k1, k2, k3, k4, k5, k6, k7, k8]
def interned : List (Array UInt16 × Addr) := []
def slotsUsed : Nat := 0
def theMethod : MethodId := ⟨1, 1⟩
def args0 : Array Value := #[.int 5, .long 7]
def aboutOver (below : List Frame) : State where
  vm := { classes := classes, interned := interned.toArray }
  heap := heap
  slotsUsed := slotsUsed
  threads := #[{ frames := .invoking theMethod args0 :: below }]
def below0 : List Frame := [.native { method := ⟨0, 0⟩, args := #[] }]
def about1 : State := aboutOver below0
def p0 : Program := .bare "" "" ""
def e0 : Env := launch0.env 0 0 0
theorem w_frames : about1.frames = Frame.invoking theMethod args0 :: below0 := rfl
set_option maxRecDepth 65536 in
theorem w_args : argsFit about1.vm theMethod args0 = true := by decide +kernel
set_option maxRecDepth 65536 in
theorem w_heap : heapFits about1 = true := by decide +kernel
set_option maxRecDepth 65536 in
theorem w_runnable : about1.curStatus? = some .runnable := by decide +kernel
set_option maxRecDepth 65536 in
theorem w_alone : about1.alone = true := by decide +kernel
set_option maxRecDepth 65536 in
theorem w_named : about1.methodNamed? x = some theMethod := by decide +kernel
set_option maxRecDepth 65536 in
theorem w_hears : about1.hears theMethod below0 = true := by decide +kernel
set_option maxRecDepth 65536 in
theorem w_ripe : about1.ripe theMethod args0 below0 = true := by decide +kernel
theorem w_running : about1.status = .running := rfl
set_option maxRecDepth 65536 in
theorem w_room : about1.hasRoom e0.platform room_1 = true :=
  launch0.hasRoom_least _ room_1 (by decide +kernel) (by decide +kernel) (by decide +kernel) (by decide +kernel) (by decide +kernel) (by decide +kernel)
theorem allAtoms_all (ts : List Jvm.Cond) (a : Array Jvm.Value) (st : Jvm.State) : (allAtoms ts).before a st = ts.all (fun c => c.before a st) := by
  induction ts with
  | nil => rfl
  | cons c t ih =>
    show (Jvm.Cond.and c (allAtoms t)).before a st = _
    rw [Jvm.Cond.before_and, ih, List.all_cons]
def words1 : List Jvm.Cond := Jvm.Cond.code x code maxLocals ret :: tables_1
/-- a 'code' word, met by the world's own term for the bytes: nothing is compared byte by byte -/
theorem code_word {y : MethodName} {bytes : ByteArray} {mx : Nat} {rt : Option FieldType} {a : Array Value} {s : State} {m : MethodId} {meth : Method} {c : Code} (h1 : s.methodNamed? y = some m) (h2 : s.vm.method? m = some meth) (h3 : meth.code = some c) (h4 : c.code = bytes)
    (h5 : (c.maxLocals == mx && c.exceptionTable.isEmpty && decide (c.maxStack ≤ mostOperands) && decide (meth.sig.returnType = rt) && !meth.locks && decide (parseMethodDescriptor y.desc = some meth.sig)) = true) : (Jvm.Cond.code y bytes mx rt).before a s = true := by
  simp only [Bool.and_eq_true, beq_iff_eq, Bool.not_eq_true', decide_eq_true_eq] at h5
  obtain ⟨⟨⟨⟨⟨g1, g2⟩, g3⟩, g4⟩, g5⟩, g6⟩ := h5
  simp [Cond.before, Cond.holds, Cond.value, h1, h2, h3, h4, g1, g2, g3, g4, g5, g6]
def isCode : Jvm.Cond → Bool
  | .code _ _ _ _ => true
  | _ => false
theorem all_split {L : List Jvm.Cond} {P : Jvm.Cond → Bool} (h1 : L.all (fun c => isCode c || P c) = true) (h2 : ∀ c ∈ L.filter isCode, P c = true) : L.all P = true := by
  refine List.all_eq_true.mpr fun c hc => ?_
  have h := List.all_eq_true.mp h1 c hc
  rcases Bool.eq_false_or_eq_true (isCode c) with hi | hi
  · exact h2 c (List.mem_filter.mpr ⟨hc, hi⟩)
  · simpa [hi] using h
set_option maxRecDepth 65536 in
theorem w_c0 : (Jvm.Cond.code x code maxLocals ret).before args0 about1 = true := code_word (m := ⟨1, 1⟩) (meth := k1m1) (c := k1c1) (by decide +kernel) rfl rfl rfl (by decide +kernel)
set_option maxRecDepth 65536 in
theorem w_c1 : (Jvm.Cond.code ({ cls := "com/example/kentro/kentro/graph/Graph$Builder", name := "bytesToBuild", desc := "(IJ)D" } : Jvm.MethodName) prog_12_method_2_code (7 : Nat) (Option.some Jvm.ClassFile.FieldType.double)).before args0 about1 = true := code_word (m := ⟨2, 0⟩) (meth := k2m0) (c := k2c0) (by decide +kernel) rfl rfl rfl (by decide +kernel)
def codes1 : List Jvm.Cond := [Jvm.Cond.code x code maxLocals ret, Jvm.Cond.code ({ cls := "com/example/kentro/kentro/graph/Graph$Builder", name := "bytesToBuild", desc := "(IJ)D" } : Jvm.MethodName) prog_12_method_2_code (7 : Nat) (Option.some Jvm.ClassFile.FieldType.double)]
set_option maxRecDepth 65536 in
theorem codes_eq : words1.filter isCode = codes1 := rfl
theorem w_codes : ∀ c ∈ words1.filter isCode, c.before args0 about1 = true := by
  rw [codes_eq]
  intro c hc
  simp only [codes1, List.mem_cons, List.not_mem_nil, or_false] at hc
  rcases hc with rfl | rfl
  · exact w_c0
  · exact w_c1
set_option maxRecDepth 65536 in
theorem w_t1 : words1.all (fun c => isCode c || c.before args0 about1) = true := by decide +kernel
theorem w_tables : (allAtoms (Jvm.Cond.code x code maxLocals ret :: tables_1)).before args0 about1 = true := by
  rw [allAtoms_all]
  show words1.all (fun c => c.before args0 about1) = true
  refine all_split ?_ w_codes
  rw [w_t1]
set_option maxRecDepth 65536 in
theorem w_case : (Jvm.Cond.and given_1 narrow_1).before args0 about1 = true := by decide +kernel
theorem w_applies : (headSpec (Jvm.Cond.code x code maxLocals ret :: tables_1) room_1).applies x e0.platform about1 = true :=
  (Spec.applies_iff w_frames).mpr ⟨w_running, w_runnable, w_alone, w_named, w_hears, w_ripe, w_room, w_tables⟩
theorem atStart : AtStart classFile x code maxLocals ret World_1 tables_1 room_1 Calls_1 rest_1 Pre_1 launch0 p0 e0 about1 theMethod args0 below0 :=
  ⟨lists_1, trivial, launch0.admits_env _ _ _, launch0.least_env, fairChoices_fair.cas, fairChoices_fair.clock, w_frames, w_args, w_heap, w_applies, trivial, trivial, w_case⟩
end start1
theorem witness_1 : WitnessClaimed_1 := ⟨start1.p0, start1.e0, start1.about1, start1.theMethod, start1.args0, start1.below0, start1.atStart⟩
end Jvm.Pilot.@@N@@
