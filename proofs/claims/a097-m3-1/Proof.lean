import JvmDerived
import JvmDerived.Pilot.@@N@@Statement
import JvmDerived.Pilot.@@N@@Code
set_option linter.unusedVariables false
set_option linter.unusedSimpArgs false
namespace Jvm.Wk
open Sem ClassFile Op Lib Jvm.Stand Jvm.Free Jvm.LawKit Jvm.RoadKit
/-! A small logic of walks: the heap above the law's start is a list of records, a walk is a predicate over (records, pc, locals, stack). -/
abbrev Key := String × String × String
abbrev Rec := (String × List Key × List Value) ⊕ (FieldType × List Value)
abbrev obj (C : String) (ks : List Key) (vs : List Value) : Rec := Sum.inl (C, ks, vs)
abbrev arr (t : FieldType) (vs : List Value) : Rec := Sum.inr (t, vs)
abbrev ints (xs : List Int32) : Rec := arr .int (xs.map Value.int)
abbrev longs (xs : List Int64) : Rec := arr .long (xs.map Value.long)
abbrev rf (hB : Heap) (i : Nat) : Value := .ref (hB.size + i)
def kslot (Z : State) (k : Key) : Nat := Jvm.RoadKit.slotOf Z k.1 k.2.1 k.2.2
def OvrT (Z : State) (cA : ClassId) (t : FieldType) : Prop := (∀ C, t = .object C → Ovr Z cA C) ∧ (∀ ty, t = .array ty → OvrA Z cA ty (FieldType.array ty).toString)
def RecAt (Z : State) (h : Heap) (a : Addr) : Rec → Prop
  | .inl (C, ks, vs) => Exa Z h a C ∧ Unt h a ∧ (∀ (i : Nat) (k : Key) (v : Value), ks[i]? = some k → vs[i]? = some v → Fld Z h a k.1 k.2.1 k.2.2 v) ∧ (∀ (i j : Nat) (k k' : Key), ks[i]? = some k → ks[j]? = some k' → i ≠ j → kslot Z k ≠ kslot Z k')
  | .inr (t, vs) => ∃ c : Cell, Arr Z h a c t ∧ c.slots = vs.toArray ∧ c.vm = .none ∧ c.monitor = {} ∧ Exa Z h a ("[" ++ t.toString) ∧ OvrT Z c.cls t ∧ ∀ v ∈ vs, fits t v = true
def Hp (Z : State) (hB h : Heap) (H : List Rec) : Prop := h.size = hB.size + H.length ∧ (∀ (a : Addr) (c : Cell), hB[a]? = some c → h[a]? = some c) ∧ ∀ (i : Nat) (r : Rec), H[i]? = some r → RecAt Z h (hB.size + i) r
section Heaps
variable {Z : State} {hB h h' : Heap} {H : List Rec} {a b : Addr} {r : Rec} {sl : Nat} {v : Value}
theorem RecAt.ext (E : Ext h h') : ∀ {r : Rec}, RecAt Z h a r → RecAt Z h' a r
  | .inl _, F => ⟨F.1.ext E, F.2.1.ext E, fun i k v h1 h2 => (F.2.2.1 i k v h1 h2).ext E, F.2.2.2⟩
  | .inr _, F => by
    obtain ⟨c, h1, h2, h3, h4, h5, h6⟩ := F
    exact ⟨c, h1.ext E, h2, h3, h4, h5.ext E, h6⟩
theorem RecAt.other (W : Wr h h' b sl v) (hne : a ≠ b) : ∀ {r : Rec}, RecAt Z h a r → RecAt Z h' a r
  | .inl _, F => ⟨F.1.wr W, F.2.1.wr W, fun i k v h1 h2 => (F.2.2.1 i k v h1 h2).other W (Or.inl hne), F.2.2.2⟩
  | .inr _, F => by
    obtain ⟨c, h1, h2, h3, h4, h5, h6⟩ := F
    exact ⟨c, h1.other W hne, h2, h3, h4, h5.wr W, h6⟩
theorem RecAt.lt : ∀ {r : Rec}, RecAt Z h a r → a < h.size
  | .inl _, F => F.1.lt
  | .inr _, F => by obtain ⟨c, h1, -⟩ := F; exact h1.lt
theorem Hp.toExt (P : Hp Z hB h H) : Ext hB h := ⟨by rw [P.1]; exact Nat.le_add_right _ _, P.2.1⟩
theorem Hp.start (Z : State) (hB : Heap) : Hp Z hB hB [] := ⟨rfl, fun _ _ q => q, fun i r q => by cases q⟩
theorem Hp.at (P : Hp Z hB h H) {i : Nat} (q : H[i]? = some r) : RecAt Z h (hB.size + i) r := P.2.2 i r q
theorem Hp.setR (P : Hp Z hB h H) {i : Nat} {r r' : Rec} (q : H[i]? = some r) (W : Wr h h' (hB.size + i) sl v) (F : RecAt Z h' (hB.size + i) r') : Hp Z hB h' (H.set i r') := by
  refine ⟨by rw [W.size, P.1, List.length_set], fun a c ha => ?_, fun j r2 hj => ?_⟩
  · obtain ⟨c', e1, -, -, -, e5, -⟩ := wr_at W (P.2.1 a c ha)
    have : a < hB.size := (Array.getElem?_eq_some_iff.mp ha).1
    rw [e1, e5 fun q => absurd this (by rw [q]; exact Nat.not_lt.mpr (Nat.le_add_right _ _))]
  · rw [List.getElem?_set] at hj
    split at hj
    · rename_i e
      subst e
      split at hj
      · cases hj; exact F
      · cases hj
    · rename_i e
      exact (P.2.2 j r2 hj).other W fun q => e (Nat.add_left_cancel q).symm
theorem Hp.wrO (P : Hp Z hB h H) {i j : Nat} {C : String} {ks : List Key} {vs : List Value} {k : Key} (q : H[i]? = some (obj C ks vs)) (hk : ks[j]? = some k) (hj : j < vs.length) (W : Wr h h' (hB.size + i) (kslot Z k) v) : Hp Z hB h' (H.set i (obj C ks (vs.set j v))) := by
  obtain ⟨f1, f2, f3, f4⟩ := P.at q
  refine P.setR q W ⟨f1.wr W, f2.wr W, fun i' k' v' h1 h2 => ?_, f4⟩
  by_cases e : j = i'
  · subst e
    rw [List.getElem?_set_self hj] at h2
    cases h2
    cases hk.symm.trans h1
    exact (f3 j k vs[j] hk (List.getElem?_eq_getElem hj)).same W
  · rw [List.getElem?_set_ne e] at h2
    exact (f3 i' k' v' h1 h2).other W (Or.inr (f4 i' j k' k h1 hk (Ne.symm e)))
theorem Hp.wrA (P : Hp Z hB h H) {i j : Nat} {t : FieldType} {vs : List Value} (q : H[i]? = some (arr t vs)) (hf : fits t v = true) (W : Wr h h' (hB.size + i) j v) : Hp Z hB h' (H.set i (arr t (vs.set j v))) := by
  obtain ⟨c, h1, h2, h3, h4, h5, h6, h7⟩ := P.at q
  refine P.setR q W ⟨c.setSlot j v, h1.same W, ?_, h3, h4, h5.wr W, h6, fun w hw => ?_⟩
  · show c.slots.setIfInBounds j v = _
    rw [h2]; simp
  · rcases List.mem_or_eq_of_mem_set hw with z | z
    · exact h7 w z
    · rw [z]; exact hf
theorem Hp.push (P : Hp Z hB h H) (E : Ext h h') (hs : h'.size ≤ h.size + 1) (F : RecAt Z h' h.size r) : Hp Z hB h' (H ++ [r]) := by
  have hlt : Array.size h < Array.size h' := F.lt
  refine ⟨by rw [List.length_append, List.length_singleton]; have := P.1; omega, fun a c ha => E.2 _ _ (P.2.1 a c ha), fun i r2 hi => ?_⟩
  rw [List.getElem?_append] at hi
  split at hi
  · exact (P.2.2 i r2 hi).ext E
  · rename_i e
    have hl := P.1
    obtain ⟨h1, h2⟩ := List.getElem?_eq_some_iff.mp hi
    simp only [List.length_singleton] at h1
    have e2 : i = H.length := by omega
    subst e2
    simp only [Nat.sub_self, List.getElem_cons_zero] at h2
    subst h2
    rw [← hl]; exact F
theorem Hp.fld (P : Hp Z hB h H) {i j : Nat} {C O n d : String} {ks : List Key} {vs : List Value} (q : H[i]? = some (obj C ks vs)) (hk : ks[j]? = some (O, n, d)) (hv : vs[j]? = some v) : Fld Z h (hB.size + i) O n d v := (P.at q).2.2.1 j _ v hk hv
theorem Hp.exa (P : Hp Z hB h H) {i : Nat} {C : String} {ks : List Key} {vs : List Value} (q : H[i]? = some (obj C ks vs)) : Exa Z h (hB.size + i) C := (P.at q).1
theorem Hp.exaA (P : Hp Z hB h H) {i : Nat} {t : FieldType} {vs : List Value} {C : String} (q : H[i]? = some (arr t vs)) (hC : "[" ++ t.toString = C) : Exa Z h (hB.size + i) C := by
  obtain ⟨c, -, -, -, -, h5, -⟩ := P.at q
  exact hC ▸ h5
end Heaps
/-- what an array's place holds; an array with one place set -/
def gI (l : List Int32) (i : Int32) : Option Int32 := if i < 0 then none else l[i.toNatClampNeg]?
def sI (l : List Int32) (i x : Int32) : Option (List Int32) := if i < 0 then none else if i.toNatClampNeg < l.length then some (l.set i.toNatClampNeg x) else none
theorem gI_at {l : List Int32} {i x : Int32} (h : gI l i = some x) : ¬ i < 0 ∧ l[i.toNatClampNeg]? = some x := by
  unfold gI at h; split at h
  · cases h
  · rename_i q; exact ⟨q, h⟩
theorem sI_at {l l' : List Int32} {i x : Int32} (h : sI l i x = some l') : ¬ i < 0 ∧ i.toNatClampNeg < l.length ∧ l' = l.set i.toNatClampNeg x := by
  unfold sI at h; split at h
  · cases h
  · rename_i q; split at h
    · rename_i r; cases h; exact ⟨q, r, rfl⟩
    · cases h
section Walk
/-- the walk comes to its return -/
def Done (Z : State) (hB : Heap) (R : Room) (Q : Option Value → List Rec → Prop) (p : Program) (e : Env) (s : State) (below : List Frame) (S0 : State) : Prop :=
  ∃ U o, Steps p.tables e below S0 U ∧ U.status = .running ∧ Ended U below o ∧ ∃ v L H', o = .returned v ∧ Q v H' ∧ Hp Z hB U.heap H' ∧ Fr hB.size L ∧ FrameEnd s o U L R.cells R.slots
def Cx (Z : State) (hB : Heap) (y : MethodName) (bytes : ByteArray) (ml : Nat) (ret : Option FieldType) (n1 : Nat) (p : Program) (s : State) (m : MethodId) (meth : Method) (c : Code) : Prop :=
  p.tables.exec = Jvm.exec ∧ Z.Warmed39 s.vm ∧ c.code = bytes ∧ c.maxLocals = ml ∧ s.vm.findClass y.cls = some m.cls ∧ meth.name = y.name ∧ meth.sig.returnType = ret ∧ meth.locks = false ∧ s.heap.size = hB.size + n1
def WP (l : Launch) (Z : State) (hB : Heap) (y : MethodName) (bytes : ByteArray) (ml : Nat) (ret : Option FieldType) (R : Room) (n1 : Nat) (Q : Option Value → List Rec → Prop) (sl : Nat) (H : List Rec) (pc : Nat) (Ls : Array Slot) (st : List Value) : Prop :=
  ∀ p e s m args below meth c, Cx Z hB y bytes ml ret n1 p s m meth c → ∀ T locs cells slots, Stand p l e R s m args below meth c T locs cells slots → Fr hB.size locs → Hp Z hB T.heap H → slots ≤ sl →
    Done Z hB R Q p e s below (T.setTop (mkF m pc Ls st))
/-- a method's contract at given arguments and records -/
def Ctr (l : Launch) (Z : State) (hB : Heap) (y : MethodName) (bytes : ByteArray) (ml : Nat) (ret : Option FieldType) (ws : List Jvm.Cond) (rm : Room) (as' : Array Value) (H : List Rec) (Q : Option Value → List Rec → Prop) : Prop :=
  MetFree l y (head1 (Jvm.Cond.code y bytes ml ret :: ws) rm) (fun a U => a = as' ∧ Z.Warmed39 U.vm ∧ Hp Z hB U.heap H) (fun _ _ _ _ _ => True)
    (fun _ U o U' => ∃ v L H', o = .returned v ∧ Q v H' ∧ Hp Z hB U'.heap H' ∧ Fr hB.size L ∧ FrameEnd U o U' L rm.cells rm.slots)
variable {l : Launch} {Z : State} {hB : Heap} {y : MethodName} {bytes : ByteArray} {ml : Nat} {ret : Option FieldType} {R : Room} {n1 : Nat} {Q : Option Value → List Rec → Prop} {sl : Nat} {H H' : List Rec} {pc pc' : Nat} {Ls Ls' : Array Slot} {st st' rest : List Value} {a0 : Array Value}
theorem exact' {p : Program} {l : Launch} {e : Env} {R : Room} {s : State} {m : MethodId} {args : Array Value} {below : List Frame} {meth : Method} {c : Code} {T : State} {locs : List Loc} {cells slots : Nat} (X : Stand p l e R s m args below meth c T locs cells slots) {k : Nat} (hk : T.heap.size ≤ s.heap.size + k) : Stand p l e R s m args below meth c T locs k slots :=
  { X with same := ⟨X.same.1, X.same.2.1, hk, X.same.2.2.2⟩ }
theorem ctr {ws : List Jvm.Cond} {as' : Array Value} (hpn : plainName y.cls = true) (ef : ∀ m, entryFrame m as' ml = mkF m 0 Ls []) (h : WP l Z hB y bytes ml ret R H.length Q 0 H 0 Ls []) : Ctr l Z hB y bytes ml ret ws R as' H Q := by
  refine MetFree.of_bodySF (plainFor_of_name hpn) hisR ?_
  intro p e s m args below meth c s₁ Bd hml0 hP hK
  obtain ⟨rfl, hZ, hh⟩ := hP
  have X0 := Stand.of_body Bd
  have e0 : s₁.heap = s.heap := by rw [Bd.state]; rfl
  obtain ⟨U, o, st, h1, h2, v, L, H', ho, hq, hp, hf, hfe⟩ := h p e s m _ below meth c ⟨Bd.exec, hZ, Bd.bytes, hml0, findClass_of_methodNamed Bd.named, (name_of_methodNamed Bd.named Bd.method).1, Bd.returns, Bd.notSynchronized, hh.1⟩ s₁ [] 0 0 X0 (Fr.nil _) (by rw [e0]; exact hh) (Nat.zero_le _)
  exact ⟨U, o, castTop (ef m) st, h1, h2, v, L, H', ho, hq, hp, hf, hfe⟩
/-- a step that leaves the state as it is, but for the frame -/
theorem WP.step (k : ∀ (p : Program) (e : Env) (s : State) (m : MethodId) (args : Array Value) (below : List Frame) (meth : Method) (c : Code) (T : State) (locs : List Loc) (cells slots : Nat), Cx Z hB y bytes ml ret n1 p s m meth c → Stand p l e R s m args below meth c T locs cells slots → Hp Z hB T.heap H → ∀ target, Steps p.tables e below (T.setTop (mkF m pc' Ls' st')) target → Steps p.tables e below (T.setTop (mkF m pc Ls st)) target)
    (hr : WP l Z hB y bytes ml ret R n1 Q sl H pc' Ls' st') : WP l Z hB y bytes ml ret R n1 Q sl H pc Ls st := by
  intro p e s m args below meth c C T locs cells slots X N P hs
  obtain ⟨U, o, h1, h2⟩ := hr p e s m args below meth c C T locs cells slots X N P hs
  exact ⟨U, o, k p e s m args below meth c T locs cells slots C X P U h1, h2⟩
/-- a step that warms the tables -/
theorem WP.stepT (k : ∀ (p : Program) (e : Env) (s : State) (m : MethodId) (args : Array Value) (below : List Frame) (meth : Method) (c : Code) (T : State) (locs : List Loc) (cells slots : Nat), Cx Z hB y bytes ml ret n1 p s m meth c → Stand p l e R s m args below meth c T locs cells slots → Hp Z hB T.heap H → ∃ T', Stand p l e R s m args below meth c T' locs cells slots ∧ T'.heap = T.heap ∧ ∀ target, Steps p.tables e below (T'.setTop (mkF m pc' Ls' st')) target → Steps p.tables e below (T.setTop (mkF m pc Ls st)) target)
    (hr : WP l Z hB y bytes ml ret R n1 Q sl H pc' Ls' st') : WP l Z hB y bytes ml ret R n1 Q sl H pc Ls st := by
  intro p e s m args below meth c C T locs cells slots X N P hs
  obtain ⟨T', X', e', k'⟩ := k p e s m args below meth c T locs cells slots C X P
  obtain ⟨U, o, h1, h2⟩ := hr p e s m args below meth c C T' locs cells slots X' N (by rw [e']; exact P) hs
  exact ⟨U, o, k' U h1, h2⟩
/-- a step that moves the heap -/
theorem WP.stepH {sl' : Nat} (k : ∀ (p : Program) (e : Env) (s : State) (m : MethodId) (args : Array Value) (below : List Frame) (meth : Method) (c : Code) (T : State) (locs : List Loc) (cells slots : Nat), Cx Z hB y bytes ml ret n1 p s m meth c → Stand p l e R s m args below meth c T locs cells slots → T.heap.size = s.heap.size + cells → Fr hB.size locs → Hp Z hB T.heap H → slots ≤ sl →
      ∃ T' locs' cells' slots', Stand p l e R s m args below meth c T' locs' cells' slots' ∧ Fr hB.size locs' ∧ Hp Z hB T'.heap H' ∧ slots' ≤ sl' ∧ ∀ target, Steps p.tables e below (T'.setTop (mkF m pc' Ls' st')) target → Steps p.tables e below (T.setTop (mkF m pc Ls st)) target)
    (hr : WP l Z hB y bytes ml ret R n1 Q sl' H' pc' Ls' st') : WP l Z hB y bytes ml ret R n1 Q sl H pc Ls st := by
  intro p e s m args below meth c C T locs cells slots X N P hs
  have hz : T.heap.size = s.heap.size + (T.heap.size - s.heap.size) := by have := X.same.2.1; have : s.heap.size ≤ T.heap.size := this; omega
  obtain ⟨T', locs', cells', slots', X', N', P', hs', k'⟩ := k p e s m args below meth c T locs _ slots C (exact' X (Nat.le_of_eq hz)) hz N P hs
  obtain ⟨U, o, h1, h2⟩ := hr p e s m args below meth c C T' locs' cells' slots' X' N' P' hs'
  exact ⟨U, o, k' U h1, h2⟩
theorem WP.monoQ {Q' : Option Value → List Rec → Prop} (hq : ∀ v H, Q v H → Q' v H) (h : WP l Z hB y bytes ml ret R n1 Q sl H pc Ls st) : WP l Z hB y bytes ml ret R n1 Q' sl H pc Ls st := by
  intro p e s m args below meth c C T locs cells slots X N P hs
  obtain ⟨U, o, h1, h2, h3, v, L, H', h4, h5, h6⟩ := h p e s m args below meth c C T locs cells slots X N P hs
  exact ⟨U, o, h1, h2, h3, v, L, H', h4, hq _ _ h5, h6⟩
theorem WP.mono {sl' : Nat} (hs : sl ≤ sl') (h : WP l Z hB y bytes ml ret R n1 Q sl' H pc Ls st) : WP l Z hB y bytes ml ret R n1 Q sl H pc Ls st := by
  intro p e s m args below meth c C T locs cells slots X N P hs'
  exact h p e s m args below meth c C T locs cells slots X N P (Nat.le_trans hs' hs)
theorem aloadN {k : Fin 4} {v : Value} (hd : decode bytes pc = .ok (.aload_n k, 1)) (hl : Ls[k.val]? = some (.val v)) (hv : v.isRef = true) (hp : pc + 1 = pc') (hr : WP l Z hB y bytes ml ret R n1 Q sl H pc' Ls (v :: st)) : WP l Z hB y bytes ml ret R n1 Q sl H pc Ls (st) := by
  subst hp
  exact WP.step (fun p e s m args below meth c T locs cells slots C X _ tgt h => XS.aloadN X.here C.1 rfl (hb C.2.2.1 hd) hl hv h) hr
theorem aload {k : Nat} {v : Value} (hd : decode bytes pc = .ok (.aload k, 2)) (hl : Ls[k]? = some (.val v)) (hv : v.isRef = true) (hp : pc + 2 = pc') (hr : WP l Z hB y bytes ml ret R n1 Q sl H pc' Ls (v :: st)) : WP l Z hB y bytes ml ret R n1 Q sl H pc Ls (st) := by
  subst hp
  exact WP.step (fun p e s m args below meth c T locs cells slots C X _ tgt h => XS.aload X.here C.1 rfl (hb C.2.2.1 hd) hl hv h) hr
theorem iloadN {k : Fin 4} {x : Int32} (hd : decode bytes pc = .ok (.iload_n k, 1)) (hl : Ls[k.val]? = some (.val (.int x))) (hp : pc + 1 = pc') (hr : WP l Z hB y bytes ml ret R n1 Q sl H pc' Ls (.int x :: st)) : WP l Z hB y bytes ml ret R n1 Q sl H pc Ls (st) := by
  subst hp
  exact WP.step (fun p e s m args below meth c T locs cells slots C X _ tgt h => XS.iloadN X.here C.1 rfl (hb C.2.2.1 hd) hl h) hr
theorem iload {k : Nat} {x : Int32} (hd : decode bytes pc = .ok (.iload k, 2)) (hl : Ls[k]? = some (.val (.int x))) (hp : pc + 2 = pc') (hr : WP l Z hB y bytes ml ret R n1 Q sl H pc' Ls (.int x :: st)) : WP l Z hB y bytes ml ret R n1 Q sl H pc Ls (st) := by
  subst hp
  exact WP.step (fun p e s m args below meth c T locs cells slots C X _ tgt h => XS.iload X.here C.1 rfl (hb C.2.2.1 hd) hl h) hr
theorem lloadN {k : Fin 4} {x : Int64} (hd : decode bytes pc = .ok (.lload_n k, 1)) (hl : Ls[k.val]? = some (.val (.long x))) (hp : pc + 1 = pc') (hr : WP l Z hB y bytes ml ret R n1 Q sl H pc' Ls (.long x :: st)) : WP l Z hB y bytes ml ret R n1 Q sl H pc Ls (st) := by
  subst hp
  exact WP.step (fun p e s m args below meth c T locs cells slots C X _ tgt h => XT.lloadN X.here C.1 rfl (hb C.2.2.1 hd) hl h) hr
theorem lload {k : Nat} {x : Int64} (hd : decode bytes pc = .ok (.lload k, 2)) (hl : Ls[k]? = some (.val (.long x))) (hp : pc + 2 = pc') (hr : WP l Z hB y bytes ml ret R n1 Q sl H pc' Ls (.long x :: st)) : WP l Z hB y bytes ml ret R n1 Q sl H pc Ls (st) := by
  subst hp
  exact WP.step (fun p e s m args below meth c T locs cells slots C X _ tgt h => XT.lload X.here C.1 rfl (hb C.2.2.1 hd) hl h) hr
theorem iconst {i : Int} (x : Int32) (hd : decode bytes pc = .ok (.iconst i, 1)) (hv : Int32.ofInt i = x) (hp : pc + 1 = pc') (hr : WP l Z hB y bytes ml ret R n1 Q sl H pc' Ls (.int x :: st)) : WP l Z hB y bytes ml ret R n1 Q sl H pc Ls (st) := by
  subst hp
  exact WP.step (fun p e s m args below meth c T locs cells slots C X _ tgt h => XS.iconst X.here C.1 rfl (hb C.2.2.1 hd) (hv ▸ h)) hr
theorem bipush {i : Int} (x : Int32) (hd : decode bytes pc = .ok (.bipush i, 2)) (hv : (Int8.ofInt i).toInt32 = x) (hp : pc + 2 = pc') (hr : WP l Z hB y bytes ml ret R n1 Q sl H pc' Ls (.int x :: st)) : WP l Z hB y bytes ml ret R n1 Q sl H pc Ls (st) := by
  subst hp
  exact WP.step (fun p e s m args below meth c T locs cells slots C X _ tgt h => XS.bipush X.here C.1 rfl (hb C.2.2.1 hd) (hv ▸ h)) hr
theorem sipush {i : Int} (x : Int32) (hd : decode bytes pc = .ok (.sipush i, 3)) (hv : (Int16.ofInt i).toInt32 = x) (hp : pc + 3 = pc') (hr : WP l Z hB y bytes ml ret R n1 Q sl H pc' Ls (.int x :: st)) : WP l Z hB y bytes ml ret R n1 Q sl H pc Ls (st) := by
  subst hp
  exact WP.step (fun p e s m args below meth c T locs cells slots C X _ tgt h => XT.sipushV X.here C.1 rfl x (hb C.2.2.1 hd) hv h) hr
theorem lconst {k : Fin 2} (x : Int64) (hd : decode bytes pc = .ok (.lconst k, 1)) (hv : Int64.ofNat k = x) (hp : pc + 1 = pc') (hr : WP l Z hB y bytes ml ret R n1 Q sl H pc' Ls (.long x :: st)) : WP l Z hB y bytes ml ret R n1 Q sl H pc Ls (st) := by
  subst hp
  exact WP.step (fun p e s m args below meth c T locs cells slots C X _ tgt h => XT.lconst X.here C.1 rfl (hb C.2.2.1 hd) (hv ▸ h)) hr
theorem aconstNull  (hd : decode bytes pc = .ok (.aconst_null, 1)) (hp : pc + 1 = pc') (hr : WP l Z hB y bytes ml ret R n1 Q sl H pc' Ls (.null :: st)) : WP l Z hB y bytes ml ret R n1 Q sl H pc Ls (st) := by
  subst hp
  exact WP.step (fun p e s m args below meth c T locs cells slots C X _ tgt h => XS.aconstNull X.here C.1 rfl (hb C.2.2.1 hd) h) hr
theorem iadd {x z : Int32} (hd : decode bytes pc = .ok (.iadd, 1)) (hp : pc + 1 = pc') (hr : WP l Z hB y bytes ml ret R n1 Q sl H pc' Ls (.int (x + z) :: st)) : WP l Z hB y bytes ml ret R n1 Q sl H pc Ls (.int z :: .int x :: st) := by
  subst hp
  exact WP.step (fun p e s m args below meth c T locs cells slots C X _ tgt h => XS.iadd X.here C.1 rfl (hb C.2.2.1 hd) rfl h) hr
theorem isub {x z : Int32} (hd : decode bytes pc = .ok (.isub, 1)) (hp : pc + 1 = pc') (hr : WP l Z hB y bytes ml ret R n1 Q sl H pc' Ls (.int (x - z) :: st)) : WP l Z hB y bytes ml ret R n1 Q sl H pc Ls (.int z :: .int x :: st) := by
  subst hp
  exact WP.step (fun p e s m args below meth c T locs cells slots C X _ tgt h => XS.isub X.here C.1 rfl (hb C.2.2.1 hd) rfl h) hr
theorem iand {x z : Int32} (hd : decode bytes pc = .ok (.iand, 1)) (hp : pc + 1 = pc') (hr : WP l Z hB y bytes ml ret R n1 Q sl H pc' Ls (.int (x &&& z) :: st)) : WP l Z hB y bytes ml ret R n1 Q sl H pc Ls (.int z :: .int x :: st) := by
  subst hp
  exact WP.step (fun p e s m args below meth c T locs cells slots C X _ tgt h => XS.iand X.here C.1 rfl (hb C.2.2.1 hd) rfl h) hr
theorem imul {x z : Int32} (hd : decode bytes pc = .ok (.imul, 1)) (hp : pc + 1 = pc') (hr : WP l Z hB y bytes ml ret R n1 Q sl H pc' Ls (.int (x * z) :: st)) : WP l Z hB y bytes ml ret R n1 Q sl H pc Ls (.int z :: .int x :: st) := by
  subst hp
  exact WP.step (fun p e s m args below meth c T locs cells slots C X _ tgt h => XS.imul X.here C.1 rfl (hb C.2.2.1 hd) rfl h) hr
theorem ixor {x z : Int32} (hd : decode bytes pc = .ok (.ixor, 1)) (hp : pc + 1 = pc') (hr : WP l Z hB y bytes ml ret R n1 Q sl H pc' Ls (.int (x ^^^ z) :: st)) : WP l Z hB y bytes ml ret R n1 Q sl H pc Ls (.int z :: .int x :: st) := by
  subst hp
  exact WP.step (fun p e s m args below meth c T locs cells slots C X _ tgt h => XT.ixor X.here C.1 rfl (hb C.2.2.1 hd) rfl h) hr
theorem ior {x z : Int32} (hd : decode bytes pc = .ok (.ior, 1)) (hp : pc + 1 = pc') (hr : WP l Z hB y bytes ml ret R n1 Q sl H pc' Ls (.int (x ||| z) :: st)) : WP l Z hB y bytes ml ret R n1 Q sl H pc Ls (.int z :: .int x :: st) := by
  subst hp
  exact WP.step (fun p e s m args below meth c T locs cells slots C X _ tgt h => XT.ior X.here C.1 rfl (hb C.2.2.1 hd) rfl h) hr
theorem ishl {x z : Int32} (hd : decode bytes pc = .ok (.ishl, 1)) (hp : pc + 1 = pc') (hr : WP l Z hB y bytes ml ret R n1 Q sl H pc' Ls (.int (x <<< (z &&& 31)) :: st)) : WP l Z hB y bytes ml ret R n1 Q sl H pc Ls (.int z :: .int x :: st) := by
  subst hp
  exact WP.step (fun p e s m args below meth c T locs cells slots C X _ tgt h => XT.ishl X.here C.1 rfl (hb C.2.2.1 hd) rfl h) hr
theorem ishr {x z : Int32} (hd : decode bytes pc = .ok (.ishr, 1)) (hp : pc + 1 = pc') (hr : WP l Z hB y bytes ml ret R n1 Q sl H pc' Ls (.int (x >>> (z &&& 31)) :: st)) : WP l Z hB y bytes ml ret R n1 Q sl H pc Ls (.int z :: .int x :: st) := by
  subst hp
  exact WP.step (fun p e s m args below meth c T locs cells slots C X _ tgt h => XT.ishr X.here C.1 rfl (hb C.2.2.1 hd) rfl h) hr
theorem iushr {x z : Int32} (hd : decode bytes pc = .ok (.iushr, 1)) (hp : pc + 1 = pc') (hr : WP l Z hB y bytes ml ret R n1 Q sl H pc' Ls (.int (XT.ushr x z) :: st)) : WP l Z hB y bytes ml ret R n1 Q sl H pc Ls (.int z :: .int x :: st) := by
  subst hp
  exact WP.step (fun p e s m args below meth c T locs cells slots C X _ tgt h => XT.iushr X.here C.1 rfl (hb C.2.2.1 hd) rfl h) hr
theorem ladd {x z : Int64} (hd : decode bytes pc = .ok (.ladd, 1)) (hp : pc + 1 = pc') (hr : WP l Z hB y bytes ml ret R n1 Q sl H pc' Ls (.long (x + z) :: st)) : WP l Z hB y bytes ml ret R n1 Q sl H pc Ls (.long z :: .long x :: st) := by
  subst hp
  exact WP.step (fun p e s m args below meth c T locs cells slots C X _ tgt h => XT.ladd X.here C.1 rfl (hb C.2.2.1 hd) rfl h) hr
theorem lsub {x z : Int64} (hd : decode bytes pc = .ok (.lsub, 1)) (hp : pc + 1 = pc') (hr : WP l Z hB y bytes ml ret R n1 Q sl H pc' Ls (.long (x - z) :: st)) : WP l Z hB y bytes ml ret R n1 Q sl H pc Ls (.long z :: .long x :: st) := by
  subst hp
  exact WP.step (fun p e s m args below meth c T locs cells slots C X _ tgt h => XT.lsub X.here C.1 rfl (hb C.2.2.1 hd) rfl h) hr
theorem land {x z : Int64} (hd : decode bytes pc = .ok (.land, 1)) (hp : pc + 1 = pc') (hr : WP l Z hB y bytes ml ret R n1 Q sl H pc' Ls (.long (x &&& z) :: st)) : WP l Z hB y bytes ml ret R n1 Q sl H pc Ls (.long z :: .long x :: st) := by
  subst hp
  exact WP.step (fun p e s m args below meth c T locs cells slots C X _ tgt h => XT.land X.here C.1 rfl (hb C.2.2.1 hd) rfl h) hr
theorem lmul {x z : Int64} (hd : decode bytes pc = .ok (.lmul, 1)) (hp : pc + 1 = pc') (hr : WP l Z hB y bytes ml ret R n1 Q sl H pc' Ls (.long (x * z) :: st)) : WP l Z hB y bytes ml ret R n1 Q sl H pc Ls (.long z :: .long x :: st) := by
  subst hp
  exact WP.step (fun p e s m args below meth c T locs cells slots C X _ tgt h => XT.lmul X.here C.1 rfl (hb C.2.2.1 hd) rfl h) hr
theorem lushr {x : Int64} {z : Int32} (hd : decode bytes pc = .ok (.lushr, 1)) (hp : pc + 1 = pc') (hr : WP l Z hB y bytes ml ret R n1 Q sl H pc' Ls (.long (XT.ushrL x z) :: st)) : WP l Z hB y bytes ml ret R n1 Q sl H pc Ls (.int z :: .long x :: st) := by
  subst hp
  exact WP.step (fun p e s m args below meth c T locs cells slots C X _ tgt h => XT.lushr X.here C.1 rfl (hb C.2.2.1 hd) rfl h) hr
theorem lcmp {x z : Int64} (hd : decode bytes pc = .ok (.lcmp, 1)) (hp : pc + 1 = pc') (hr : WP l Z hB y bytes ml ret R n1 Q sl H pc' Ls (.int (XT.cmpL x z) :: st)) : WP l Z hB y bytes ml ret R n1 Q sl H pc Ls (.long z :: .long x :: st) := by
  subst hp
  exact WP.step (fun p e s m args below meth c T locs cells slots C X _ tgt h => XT.lcmp X.here C.1 rfl (hb C.2.2.1 hd) rfl h) hr
theorem idiv {x z : Int32} (hd : decode bytes pc = .ok (.idiv, 1)) (hz : z ≠ 0) (hp : pc + 1 = pc') (hr : WP l Z hB y bytes ml ret R n1 Q sl H pc' Ls (.int (x / z) :: st)) : WP l Z hB y bytes ml ret R n1 Q sl H pc Ls (.int z :: .int x :: st) := by
  subst hp
  exact WP.step (fun p e s m args below meth c T locs cells slots C X _ tgt h => XS.idiv X.here C.1 rfl (hb C.2.2.1 hd) rfl hz h) hr
theorem irem {x z : Int32} (hd : decode bytes pc = .ok (.irem, 1)) (hz : z ≠ 0) (hp : pc + 1 = pc') (hr : WP l Z hB y bytes ml ret R n1 Q sl H pc' Ls (.int (x % z) :: st)) : WP l Z hB y bytes ml ret R n1 Q sl H pc Ls (.int z :: .int x :: st) := by
  subst hp
  exact WP.step (fun p e s m args below meth c T locs cells slots C X _ tgt h => iremM X C.1 rfl (hb C.2.2.1 hd) rfl hz h) hr
theorem ineg {x : Int32} (hd : decode bytes pc = .ok (.ineg, 1)) (hp : pc + 1 = pc') (hr : WP l Z hB y bytes ml ret R n1 Q sl H pc' Ls (.int (-x) :: st)) : WP l Z hB y bytes ml ret R n1 Q sl H pc Ls (.int x :: st) := by
  subst hp
  exact WP.step (fun p e s m args below meth c T locs cells slots C X _ tgt h => XS.ineg X.here C.1 rfl (hb C.2.2.1 hd) rfl h) hr
theorem lneg {x : Int64} (hd : decode bytes pc = .ok (.lneg, 1)) (hp : pc + 1 = pc') (hr : WP l Z hB y bytes ml ret R n1 Q sl H pc' Ls (.long (-x) :: st)) : WP l Z hB y bytes ml ret R n1 Q sl H pc Ls (.long x :: st) := by
  subst hp
  exact WP.step (fun p e s m args below meth c T locs cells slots C X _ tgt h => XT.lneg X.here C.1 rfl (hb C.2.2.1 hd) rfl h) hr
theorem i2l {x : Int32} (hd : decode bytes pc = .ok (.i2l, 1)) (hp : pc + 1 = pc') (hr : WP l Z hB y bytes ml ret R n1 Q sl H pc' Ls (.long x.toInt64 :: st)) : WP l Z hB y bytes ml ret R n1 Q sl H pc Ls (.int x :: st) := by
  subst hp
  exact WP.step (fun p e s m args below meth c T locs cells slots C X _ tgt h => XT.i2l X.here C.1 rfl (hb C.2.2.1 hd) rfl h) hr
theorem l2i {x : Int64} (hd : decode bytes pc = .ok (.l2i, 1)) (hp : pc + 1 = pc') (hr : WP l Z hB y bytes ml ret R n1 Q sl H pc' Ls (.int x.toInt32 :: st)) : WP l Z hB y bytes ml ret R n1 Q sl H pc Ls (.long x :: st) := by
  subst hp
  exact WP.step (fun p e s m args below meth c T locs cells slots C X _ tgt h => XT.l2i X.here C.1 rfl (hb C.2.2.1 hd) rfl h) hr
theorem i2c {x : Int32} (hd : decode bytes pc = .ok (.i2c, 1)) (hp : pc + 1 = pc') (hr : WP l Z hB y bytes ml ret R n1 Q sl H pc' Ls (.int x.toUInt32.toUInt16.toUInt32.toInt32 :: st)) : WP l Z hB y bytes ml ret R n1 Q sl H pc Ls (.int x :: st) := by
  subst hp
  exact WP.step (fun p e s m args below meth c T locs cells slots C X _ tgt h => XT.i2c X.here C.1 rfl (hb C.2.2.1 hd) rfl h) hr
theorem i2b {x : Int32} (hd : decode bytes pc = .ok (.i2b, 1)) (hp : pc + 1 = pc') (hr : WP l Z hB y bytes ml ret R n1 Q sl H pc' Ls (.int x.toInt8.toInt32 :: st)) : WP l Z hB y bytes ml ret R n1 Q sl H pc Ls (.int x :: st) := by
  subst hp
  exact WP.step (fun p e s m args below meth c T locs cells slots C X _ tgt h => XT.i2b X.here C.1 rfl (hb C.2.2.1 hd) rfl h) hr
theorem dup {v : Value} (hd : decode bytes pc = .ok (.dup, 1)) (hc : v.category = 1) (hp : pc + 1 = pc') (hr : WP l Z hB y bytes ml ret R n1 Q sl H pc' Ls (v :: v :: st)) : WP l Z hB y bytes ml ret R n1 Q sl H pc Ls (v :: st) := by
  subst hp
  exact WP.step (fun p e s m args below meth c T locs cells slots C X _ tgt h => XS.dup X.here C.1 rfl (hb C.2.2.1 hd) rfl hc h) hr
theorem dupX1 {v w : Value} (hd : decode bytes pc = .ok (.dup_x1, 1)) (hc : v.category = 1) (hc2 : w.category = 1) (hp : pc + 1 = pc') (hr : WP l Z hB y bytes ml ret R n1 Q sl H pc' Ls (v :: w :: v :: st)) : WP l Z hB y bytes ml ret R n1 Q sl H pc Ls (v :: w :: st) := by
  subst hp
  exact WP.step (fun p e s m args below meth c T locs cells slots C X _ tgt h => XT.dupX1 X.here C.1 rfl (hb C.2.2.1 hd) rfl hc hc2 h) hr
theorem dup2 {v w : Value} (hd : decode bytes pc = .ok (.dup2, 1)) (hc : v.category = 1) (hc2 : w.category = 1) (hp : pc + 1 = pc') (hr : WP l Z hB y bytes ml ret R n1 Q sl H pc' Ls (v :: w :: v :: w :: st)) : WP l Z hB y bytes ml ret R n1 Q sl H pc Ls (v :: w :: st) := by
  subst hp
  exact WP.step (fun p e s m args below meth c T locs cells slots C X _ tgt h => XT.dup2 X.here C.1 rfl (hb C.2.2.1 hd) rfl hc hc2 h) hr
theorem popV {v : Value} (hd : decode bytes pc = .ok (.pop, 1)) (hc : v.category = 1) (hp : pc + 1 = pc') (hr : WP l Z hB y bytes ml ret R n1 Q sl H pc' Ls (st)) : WP l Z hB y bytes ml ret R n1 Q sl H pc Ls (v :: st) := by
  subst hp
  exact WP.step (fun p e s m args below meth c T locs cells slots C X _ tgt h => XT.pop X.here C.1 rfl (hb C.2.2.1 hd) rfl hc h) hr
theorem istoreN {k : Fin 4} {x : Int32} (hd : decode bytes pc = .ok (.istore_n k, 1)) (hl : storeLocals Ls k.val (.int x) = some Ls') (hp : pc + 1 = pc') (hr : WP l Z hB y bytes ml ret R n1 Q sl H pc' Ls' (st)) : WP l Z hB y bytes ml ret R n1 Q sl H pc Ls (.int x :: st) := by
  subst hp
  exact WP.step (fun p e s m args below meth c T locs cells slots C X _ tgt h => XS.istoreN X.here C.1 rfl (hb C.2.2.1 hd) rfl hl h) hr
theorem istore {k : Nat} {x : Int32} (hd : decode bytes pc = .ok (.istore k, 2)) (hl : storeLocals Ls k (.int x) = some Ls') (hp : pc + 2 = pc') (hr : WP l Z hB y bytes ml ret R n1 Q sl H pc' Ls' (st)) : WP l Z hB y bytes ml ret R n1 Q sl H pc Ls (.int x :: st) := by
  subst hp
  exact WP.step (fun p e s m args below meth c T locs cells slots C X _ tgt h => XS.istore X.here C.1 rfl (hb C.2.2.1 hd) rfl hl h) hr
theorem lstoreN {k : Fin 4} {x : Int64} (hd : decode bytes pc = .ok (.lstore_n k, 1)) (hl : storeLocals Ls k.val (.long x) = some Ls') (hp : pc + 1 = pc') (hr : WP l Z hB y bytes ml ret R n1 Q sl H pc' Ls' (st)) : WP l Z hB y bytes ml ret R n1 Q sl H pc Ls (.long x :: st) := by
  subst hp
  exact WP.step (fun p e s m args below meth c T locs cells slots C X _ tgt h => XT.lstoreN X.here C.1 rfl (hb C.2.2.1 hd) rfl hl h) hr
theorem lstore {k : Nat} {x : Int64} (hd : decode bytes pc = .ok (.lstore k, 2)) (hl : storeLocals Ls k (.long x) = some Ls') (hp : pc + 2 = pc') (hr : WP l Z hB y bytes ml ret R n1 Q sl H pc' Ls' (st)) : WP l Z hB y bytes ml ret R n1 Q sl H pc Ls (.long x :: st) := by
  subst hp
  exact WP.step (fun p e s m args below meth c T locs cells slots C X _ tgt h => XT.lstore X.here C.1 rfl (hb C.2.2.1 hd) rfl hl h) hr
theorem astoreN {k : Fin 4} {v : Value} (hd : decode bytes pc = .ok (.astore_n k, 1)) (hv : v.isRef = true) (hl : storeLocals Ls k.val v = some Ls') (hp : pc + 1 = pc') (hr : WP l Z hB y bytes ml ret R n1 Q sl H pc' Ls' (st)) : WP l Z hB y bytes ml ret R n1 Q sl H pc Ls (v :: st) := by
  subst hp
  exact WP.step (fun p e s m args below meth c T locs cells slots C X _ tgt h => XS.astoreN X.here C.1 rfl (hb C.2.2.1 hd) rfl hv hl h) hr
theorem astore {k : Nat} {v : Value} (hd : decode bytes pc = .ok (.astore k, 2)) (hv : v.isRef = true) (hl : storeLocals Ls k v = some Ls') (hp : pc + 2 = pc') (hr : WP l Z hB y bytes ml ret R n1 Q sl H pc' Ls' (st)) : WP l Z hB y bytes ml ret R n1 Q sl H pc Ls (v :: st) := by
  subst hp
  exact WP.step (fun p e s m args below meth c T locs cells slots C X _ tgt h => XS.astore X.here C.1 rfl (hb C.2.2.1 hd) rfl hv hl h) hr
theorem iinc {k : Nat} {cst : Int} {x : Int32} (z : Int32) (hd : decode bytes pc = .ok (.iinc k cst, 3)) (hl : Ls[k]? = some (.val (.int x))) (hz : x + Int32.ofInt cst = z) (hl' : storeLocals Ls k (.int z) = some Ls') (hp : pc + 3 = pc') (hr : WP l Z hB y bytes ml ret R n1 Q sl H pc' Ls' (st)) : WP l Z hB y bytes ml ret R n1 Q sl H pc Ls (st) := by
  subst hp
  exact WP.step (fun p e s m args below meth c T locs cells slots C X _ tgt h => XS.iinc X.here C.1 rfl (hb C.2.2.1 hd) hl (hz ▸ hl') h) hr
theorem goTo  {o : Int} (hd : decode bytes pc = .ok (.goto o, 3)) (ho : 0 ≤ (pc : Int) + o) (hp : ((pc : Int) + o).toNat = pc') (hr : WP l Z hB y bytes ml ret R n1 Q sl H pc' Ls st) : WP l Z hB y bytes ml ret R n1 Q sl H pc Ls (st) :=
  WP.step (fun p e s m args below meth c T locs cells slots C X _ tgt h => XS.goto X.here C.1 rfl rfl (hb C.2.2.1 hd) ho hp h) hr
theorem ifY {cd : ClassFile.Cond} {x : Int32} {o : Int} (hd : decode bytes pc = .ok (.ifCond cd o, 3)) (hc : ifCond.holds cd x = true) (ho : 0 ≤ (pc : Int) + o) (hp : ((pc : Int) + o).toNat = pc') (hr : WP l Z hB y bytes ml ret R n1 Q sl H pc' Ls st) : WP l Z hB y bytes ml ret R n1 Q sl H pc Ls (.int x :: st) :=
  WP.step (fun p e s m args below meth c T locs cells slots C X _ tgt h => XS.ifYes X.here C.1 rfl rfl (hb C.2.2.1 hd) rfl hc ho hp h) hr
theorem ifN {cd : ClassFile.Cond} {x : Int32} {o : Int} (hd : decode bytes pc = .ok (.ifCond cd o, 3)) (hc : ifCond.holds cd x = false) (hp : pc + 3 = pc') (hr : WP l Z hB y bytes ml ret R n1 Q sl H pc' Ls st) : WP l Z hB y bytes ml ret R n1 Q sl H pc Ls (.int x :: st) := by
  subst hp
  exact WP.step (fun p e s m args below meth c T locs cells slots C X _ tgt h => XS.ifNo X.here C.1 rfl (hb C.2.2.1 hd) rfl hc h) hr
theorem icY {cd : ClassFile.Cond} {x z : Int32} {o : Int} (hd : decode bytes pc = .ok (.if_icmp cd o, 3)) (hc : if_icmp.holds cd x z = true) (ho : 0 ≤ (pc : Int) + o) (hp : ((pc : Int) + o).toNat = pc') (hr : WP l Z hB y bytes ml ret R n1 Q sl H pc' Ls st) : WP l Z hB y bytes ml ret R n1 Q sl H pc Ls (.int z :: .int x :: st) :=
  WP.step (fun p e s m args below meth c T locs cells slots C X _ tgt h => XS.icmpYes X.here C.1 rfl rfl (hb C.2.2.1 hd) rfl hc ho hp h) hr
theorem icN {cd : ClassFile.Cond} {x z : Int32} {o : Int} (hd : decode bytes pc = .ok (.if_icmp cd o, 3)) (hc : if_icmp.holds cd x z = false) (hp : pc + 3 = pc') (hr : WP l Z hB y bytes ml ret R n1 Q sl H pc' Ls st) : WP l Z hB y bytes ml ret R n1 Q sl H pc Ls (.int z :: .int x :: st) := by
  subst hp
  exact WP.step (fun p e s m args below meth c T locs cells slots C X _ tgt h => XS.icmpNo X.here C.1 rfl (hb C.2.2.1 hd) rfl hc h) hr
theorem nullY  {o : Int} (hd : decode bytes pc = .ok (.ifnull o, 3)) (ho : 0 ≤ (pc : Int) + o) (hp : ((pc : Int) + o).toNat = pc') (hr : WP l Z hB y bytes ml ret R n1 Q sl H pc' Ls st) : WP l Z hB y bytes ml ret R n1 Q sl H pc Ls (.null :: st) :=
  WP.step (fun p e s m args below meth c T locs cells slots C X _ tgt h => XS.ifnullYes X.here C.1 rfl rfl (hb C.2.2.1 hd) rfl ho hp h) hr
theorem nullN {b : Addr} {o : Int} (hd : decode bytes pc = .ok (.ifnull o, 3)) (hp : pc + 3 = pc') (hr : WP l Z hB y bytes ml ret R n1 Q sl H pc' Ls st) : WP l Z hB y bytes ml ret R n1 Q sl H pc Ls (.ref b :: st) := by
  subst hp
  exact WP.step (fun p e s m args below meth c T locs cells slots C X _ tgt h => XS.ifnullNo X.here C.1 rfl (hb C.2.2.1 hd) rfl h) hr
theorem nonnullY {b : Addr} {o : Int} (hd : decode bytes pc = .ok (.ifnonnull o, 3)) (ho : 0 ≤ (pc : Int) + o) (hp : ((pc : Int) + o).toNat = pc') (hr : WP l Z hB y bytes ml ret R n1 Q sl H pc' Ls st) : WP l Z hB y bytes ml ret R n1 Q sl H pc Ls (.ref b :: st) :=
  WP.step (fun p e s m args below meth c T locs cells slots C X _ tgt h => XT.ifnonnullYes X.here C.1 rfl rfl (hb C.2.2.1 hd) rfl ho hp h) hr
theorem nonnullN  {o : Int} (hd : decode bytes pc = .ok (.ifnonnull o, 3)) (hp : pc + 3 = pc') (hr : WP l Z hB y bytes ml ret R n1 Q sl H pc' Ls st) : WP l Z hB y bytes ml ret R n1 Q sl H pc Ls (.null :: st) := by
  subst hp
  exact WP.step (fun p e s m args below meth c T locs cells slots C X _ tgt h => XT.ifnonnullNo X.here C.1 rfl (hb C.2.2.1 hd) rfl h) hr
theorem acY {cd : ClassFile.ACond} {v w : Value} {o : Int} (hd : decode bytes pc = .ok (.if_acmp cd o, 3)) (hv : v.isRef = true) (hw : w.isRef = true) (hc : XT.acmp cd v w = true) (ho : 0 ≤ (pc : Int) + o) (hp : ((pc : Int) + o).toNat = pc') (hr : WP l Z hB y bytes ml ret R n1 Q sl H pc' Ls st) : WP l Z hB y bytes ml ret R n1 Q sl H pc Ls (w :: v :: st) :=
  WP.step (fun p e s m args below meth c T locs cells slots C X _ tgt h => XT.acmpYes X.here C.1 rfl rfl (hb C.2.2.1 hd) rfl hv hw hc ho hp h) hr
theorem acN {cd : ClassFile.ACond} {v w : Value} {o : Int} (hd : decode bytes pc = .ok (.if_acmp cd o, 3)) (hv : v.isRef = true) (hw : w.isRef = true) (hc : XT.acmp cd v w = false) (hp : pc + 3 = pc') (hr : WP l Z hB y bytes ml ret R n1 Q sl H pc' Ls st) : WP l Z hB y bytes ml ret R n1 Q sl H pc Ls (w :: v :: st) := by
  subst hp
  exact WP.step (fun p e s m args below meth c T locs cells slots C X _ tgt h => XT.acmpNo X.here C.1 rfl (hb C.2.2.1 hd) rfl hv hw hc h) hr
theorem tswIn {dflt low high : Int} {offs : Array Int} {len : Nat} {o : Int} {i : Int32} (hd : decode bytes pc = .ok (.tableswitch dflt low high offs, len)) (hin : ¬ (i.toInt < low ∨ i.toInt > high)) (hoff : offs[(i.toInt - low).toNat]? = some o) (ho : 0 ≤ (pc : Int) + o) (hp : ((pc : Int) + o).toNat = pc') (hr : WP l Z hB y bytes ml ret R n1 Q sl H pc' Ls st) : WP l Z hB y bytes ml ret R n1 Q sl H pc Ls (.int i :: st) :=
  WP.step (fun p e s m args below meth c T locs cells slots C X _ tgt h => XS.tswIn X.here C.1 rfl rfl (hb C.2.2.1 hd) rfl hin hoff ho hp h) hr
theorem pop2L {x : Int64} (hd : decode bytes pc = .ok (.pop2, 1)) (hp : pc + 1 = pc') (hr : WP l Z hB y bytes ml ret R n1 Q sl H pc' Ls st) : WP l Z hB y bytes ml ret R n1 Q sl H pc Ls (.long x :: st) := by
  subst hp
  refine WP.step (fun p e s m args below meth c T locs cells slots C X _ tgt h => ?_) hr
  have hx := C.1
  have hd' := (hb C.2.2.1 hd)
  jvm_step X.here [X.here.top, hx, hd', Value.category]
  exact h
theorem getFl {a : Addr} {R0 O n d host : String} {v : Value} {index : Nat} (hd : decode bytes pc = .ok (.getfield index, 3)) (w : (Jvm.Cond.fieldLink y.cls index R0 n d).before a0 Z = true ∨ (Jvm.Cond.fieldLinkNest y.cls index R0 n d host).before a0 Z = true) (via : Via Z R0 O n d) (F : ∀ h, Hp Z hB h H → Fld Z h a O n d v) (hp : pc + 3 = pc') (hr : WP l Z hB y bytes ml ret R n1 Q sl H pc' Ls (v :: st)) : WP l Z hB y bytes ml ret R n1 Q sl H pc Ls (.ref a :: st) := by
  subst hp
  exact WP.stepT (fun p e s m args below meth c T locs cells slots C X P => getF X C.1 C.2.1 C.2.2.2.2.1 w via rfl (F _ P) (g := mkF m pc Ls (.ref a :: st)) rfl rfl (hb C.2.2.1 hd)) hr
theorem getF0 {O n d : String} {v : Value} {index i j : Nat} {C : String} {ks : List Key} {vs : List Value} (hd : decode bytes pc = .ok (.getfield index, 3)) (w : (Jvm.Cond.fieldLink y.cls index O n d).before a0 Z = true) (hi : H[i]? = some (obj C ks vs)) (hk : ks[j]? = some (O, n, d)) (hv : vs[j]? = some v) (hp : pc + 3 = pc') (hr : WP l Z hB y bytes ml ret R n1 Q sl H pc' Ls (v :: st)) : WP l Z hB y bytes ml ret R n1 Q sl H pc Ls (rf hB i :: st) :=
  getFl (host := "") hd (Or.inl w) Via.refl (fun _ P => P.fld hi hk hv) hp hr
theorem getFold {a : Addr} {O n d : String} {v : Value} {index : Nat} (hd : decode bytes pc = .ok (.getfield index, 3)) (w : (Jvm.Cond.fieldLink y.cls index O n d).before a0 Z = true) (F : Fld Z hB a O n d v) (hp : pc + 3 = pc') (hr : WP l Z hB y bytes ml ret R n1 Q sl H pc' Ls (v :: st)) : WP l Z hB y bytes ml ret R n1 Q sl H pc Ls (.ref a :: st) :=
  getFl (host := "") hd (Or.inl w) Via.refl (fun _ P => F.ext P.toExt) hp hr
theorem getSt {O n d : String} {v : Value} {index : Nat} (hd : decode bytes pc = .ok (.getstatic index, 3)) (w : (Jvm.Cond.fieldLink y.cls index O n d).before a0 Z = true) (F : Sta Z hB O n d v) (hp : pc + 3 = pc') (hr : WP l Z hB y bytes ml ret R n1 Q sl H pc' Ls (v :: st)) : WP l Z hB y bytes ml ret R n1 Q sl H pc Ls st := by
  subst hp
  exact WP.stepT (fun p e s m args below meth c T locs cells slots C X P => getS2 X C.1 C.2.1 C.2.2.2.2.1 (host := "") (Or.inl w) Via.refl rfl (F.ext P.toExt) (g := mkF m pc Ls st) rfl (hb C.2.2.1 hd)) hr
theorem putF0 {O n d : String} {v : Value} {ty : FieldType} {index i j kk : Nat} {C : String} {ks : List Key} {vs : List Value} (hd : decode bytes pc = .ok (.putfield index, 3)) (w : (Jvm.Cond.fieldLink y.cls index O n d).before a0 Z = true) (hi : H[i]? = some (obj C ks vs)) (hk : ks[j]? = some (O, n, d)) (hj : j < vs.length)
    (L : (Jvm.Cond.lays C O n d).before a0 Z = true ∨ ((Jvm.Cond.laysFinal C O n d).before a0 Z = true ∧ y.cls = O ∧ y.name = "<init>")) (wi : (Jvm.Cond.instantiable C kk).before a0 Z = true) (hty : parseFieldDescriptor d = some ty) (hn : narrow ty v = v) (hf : fits ty v = true) (hH : H.set i (obj C ks (vs.set j v)) = H') (hp : pc + 3 = pc') (hr : WP l Z hB y bytes ml ret R n1 Q sl H' pc' Ls st) : WP l Z hB y bytes ml ret R n1 Q sl H pc Ls (v :: rf hB i :: st) := by
  subst hp; subst hH
  refine WP.stepH (fun p e s m args below meth c T locs cells slots C X hz N P hs => ?_) hr
  obtain ⟨T', h', X', e', W, k⟩ := putF X C.1 C.2.1 C.2.2.2.2.1 (host := "") (Or.inl w) Via.refl rfl (P.fld hi hk (List.getElem?_eq_getElem hj)) (P.exa hi) (L.imp id fun q => ⟨q.1, q.2.1, C.2.2.2.2.2.1.trans q.2.2⟩) wi hty hn hf (g := mkF m pc Ls (v :: rf hB i :: st)) rfl rfl (hb C.2.2.1 hd)
  exact ⟨T', _, _, _, X', Fr.snoc X' N (Nat.le_add_right _ _), by rw [e']; exact P.wrO hi hk hj W, hs, k⟩
theorem initObj {i' : Addr} {index : Nat} (hd : decode bytes pc = .ok (.invokespecial index, 3)) (w1 : (Jvm.Cond.methodLink y.cls index Lib.objectInit).before a0 Z = true) (w2 : (Jvm.Cond.instanceMethod Lib.objectInit).before a0 Z = true) (w3 : (Jvm.Cond.code Lib.objectInit ⟨#[0xb1]⟩ 1 none).before a0 Z = true) (hml : Ls.size = ml) (hf : 1 ≤ R.frames) (hl : (st.map fun v => v.category).sum + 12 ≤ R.locals) (hp : pc + 3 = pc') (hr : WP l Z hB y bytes ml ret R n1 Q sl H pc' Ls st) : WP l Z hB y bytes ml ret R n1 Q sl H pc Ls (.ref i' :: st) := by
  subst hp
  exact WP.stepT (fun p e s m args below meth c T locs cells slots C X P => initO X C.1 C.2.1 C.2.2.2.2.1 w1 w2 w3 rfl (g := mkF m pc Ls (.ref i' :: st)) rfl (hml.trans C.2.2.2.1.symm) rfl (hb C.2.2.1 hd) hf (W := (st.map fun v => v.category).sum) (by show 2 * 0 + _ ≤ _; omega) hl) hr
theorem newObj {C : String} {index n : Nat} {ks : List Key} {vs : List Value} (hd : decode bytes pc = .ok (.new index, 3)) (w : (Jvm.Cond.classLink y.cls index C).before a0 Z = true) (wi : (Jvm.Cond.instantiable C n).before a0 Z = true) (wz : (Jvm.Cond.initialized C).before a0 Z = true)
    (hlaid : ∀ (i : Nat) (k : Key) (v : Value), ks[i]? = some k → vs[i]? = some v → Laid Z a0 C k.1 k.2.1 k.2.2 ∧ ∃ ty, parseFieldDescriptor k.2.2 = some ty ∧ v = defaultValue ty) (hdist : ∀ (i j : Nat) (k k' : Key), ks[i]? = some k → ks[j]? = some k' → i ≠ j → kslot Z k ≠ kslot Z k')
    (hc : H.length + 1 ≤ n1 + R.cells) (hsl : sl + n ≤ R.slots) (hH : H ++ [obj C ks vs] = H') (hlen : H.length = i) (hp : pc + 3 = pc') (hr : WP l Z hB y bytes ml ret R n1 Q (sl + n) H' pc' Ls (rf hB i :: st)) : WP l Z hB y bytes ml ret R n1 Q sl H pc Ls st := by
  subst hp; subst hH; subst hlen
  refine WP.stepH (fun p e s m args below meth c T locs cells slots Cx X hz N P hs => ?_) hr
  have hsz := Cx.2.2.2.2.2.2.2.2
  have hp1 := P.1
  obtain ⟨T', h', X', e', E, A, D, U, k⟩ := newO X Cx.1 Cx.2.1 Cx.2.2.2.2.1 w wi wz rfl (g := mkF m pc Ls st) rfl (hb Cx.2.2.1 hd) (by omega) (by omega)
  subst e'
  have hle := X'.heapSize
  refine ⟨T', _, _, _, X', N, P.push E (by omega) ⟨A, U, fun i k v h1 h2 => ?_, hdist⟩, by omega, by rw [show rf hB H.length = .ref T.heap.size from by show Value.ref _ = _; rw [hp1]]; exact k⟩
  obtain ⟨q1, ty, q2, rfl⟩ := hlaid i k v h1 h2
  exact D q1 q2
theorem newArr {aty : ArrayType} {i : Nat} {n : Int32} {nn : Nat} (hd : decode bytes pc = .ok (.newarray aty, 2)) (w : (Jvm.Cond.arrayClass (newarray.typeOf aty)).before a0 Z = true) (hn : ¬ n < 0) (hnn : n.toNatClampNeg = nn) (hb8 : nn * 8 ≤ 536870912) (hdf : fits (newarray.typeOf aty) (defaultValue (newarray.typeOf aty)) = true) (hnr : (∀ C, newarray.typeOf aty ≠ .object C) ∧ ∀ t, newarray.typeOf aty ≠ .array t)
    (hc : H.length + 1 ≤ n1 + R.cells) (hsl : sl + nn ≤ R.slots) (hH : H ++ [arr (newarray.typeOf aty) (List.replicate nn (defaultValue (newarray.typeOf aty)))] = H') (hlen : H.length = i) (hp : pc + 2 = pc') (hr : WP l Z hB y bytes ml ret R n1 Q (sl + nn) H' pc' Ls (rf hB i :: st)) : WP l Z hB y bytes ml ret R n1 Q sl H pc Ls (.int n :: st) := by
  subst hp; subst hH; subst hlen; subst hnn
  refine WP.stepH (fun p e s m args below meth c T locs cells slots Cx X hz N P hs => ?_) hr
  have hsz := Cx.2.2.2.2.2.2.2.2
  have hp1 := P.1
  obtain ⟨T', h', cA, X', e', E, A, Ex, k⟩ := newPE X Cx.1 Cx.2.1 w rfl (g := mkF m pc Ls (.int n :: st)) rfl (hb Cx.2.2.1 hd) rfl hn (cap := n.toNatClampNeg) (Nat.le_refl _) hb8 (by omega) (by omega) rfl
  subst e'
  have hle := X'.heapSize
  refine ⟨T', _, _, _, X', N, P.push E (by omega) ⟨_, A, by simp [newA], rfl, rfl, Ex, ⟨fun C q => absurd q (hnr.1 C), fun t q => absurd q (hnr.2 t)⟩, fun v hv => by rw [List.eq_of_mem_replicate hv]; exact hdf⟩, by omega, by rw [show rf hB H.length = .ref T.heap.size from by show Value.ref _ = _; rw [hp1]]; exact k⟩
theorem newRef {C : String} {index i : Nat} {n : Int32} {nn : Nat} (hd : decode bytes pc = .ok (.anewarray index, 3)) (w1 : (Jvm.Cond.classLink y.cls index C).before a0 Z = true) (w2 : (Jvm.Cond.arrayOver (.object C)).before a0 Z = true) (hn : ¬ n < 0) (hnn : n.toNatClampNeg = nn) (hb8 : nn * 8 ≤ 536870912)
    (hc : H.length + 1 ≤ n1 + R.cells) (hsl : sl + nn ≤ R.slots) (hH : H ++ [arr (.object C) (List.replicate nn .null)] = H') (hlen : H.length = i) (hp : pc + 3 = pc') (hr : WP l Z hB y bytes ml ret R n1 Q (sl + nn) H' pc' Ls (rf hB i :: st)) : WP l Z hB y bytes ml ret R n1 Q sl H pc Ls (.int n :: st) := by
  subst hp; subst hH; subst hlen; subst hnn
  refine WP.stepH (fun p e s m args below meth c T locs cells slots Cx X hz N P hs => ?_) hr
  have hsz := Cx.2.2.2.2.2.2.2.2
  have hp1 := P.1
  obtain ⟨T', h', cA, X', e', E, A, Ex, O, k⟩ := newRE X Cx.1 Cx.2.1 Cx.2.2.2.2.1 w1 w2 rfl (g := mkF m pc Ls (.int n :: st)) rfl (hb Cx.2.2.1 hd) rfl hn (cap := n.toNatClampNeg) (Nat.le_refl _) hb8 (by omega) (by omega) rfl
  subst e'
  have hle := X'.heapSize
  refine ⟨T', _, _, _, X', N, P.push E (by omega) ⟨_, A, by simp [newA, defaultValue], rfl, rfl, Ex, ⟨fun C' q => (by cases q; exact O), fun t q => (by cases q)⟩, fun v hv => by rw [List.eq_of_mem_replicate hv]; rfl⟩, by omega, by rw [show rf hB H.length = .ref T.heap.size from by show Value.ref _ = _; rw [hp1]]; exact k⟩
theorem newRefA {ty : FieldType} {C : String} {index i : Nat} {n : Int32} {nn : Nat} (hd : decode bytes pc = .ok (.anewarray index, 3)) (hC : (FieldType.array ty).toString = C) (w1 : (Jvm.Cond.classLink y.cls index C).before a0 Z = true) (w2 : (Jvm.Cond.arrayOver (.array ty)).before a0 Z = true) (hn : ¬ n < 0) (hnn : n.toNatClampNeg = nn) (hb8 : nn * 8 ≤ 536870912)
    (hc : H.length + 1 ≤ n1 + R.cells) (hsl : sl + nn ≤ R.slots) (hH : H ++ [arr (.array ty) (List.replicate nn .null)] = H') (hlen : H.length = i) (hp : pc + 3 = pc') (hr : WP l Z hB y bytes ml ret R n1 Q (sl + nn) H' pc' Ls (rf hB i :: st)) : WP l Z hB y bytes ml ret R n1 Q sl H pc Ls (.int n :: st) := by
  subst hp; subst hH; subst hlen; subst hnn; subst hC
  refine WP.stepH (fun p e s m args below meth c T locs cells slots Cx X hz N P hs => ?_) hr
  have hsz := Cx.2.2.2.2.2.2.2.2
  have hp1 := P.1
  obtain ⟨T', h', cA, X', e', E, A, Ex, O, k⟩ := newRA X Cx.1 Cx.2.1 Cx.2.2.2.2.1 rfl w1 w2 rfl (g := mkF m pc Ls (.int n :: st)) rfl (hb Cx.2.2.1 hd) rfl hn (cap := n.toNatClampNeg) (Nat.le_refl _) hb8 (by omega) (by omega) rfl
  subst e'
  have hle := X'.heapSize
  refine ⟨T', _, _, _, X', N, P.push E (by omega) ⟨_, A, by simp [newA, defaultValue], rfl, rfl, Ex, ⟨fun C' q => (by cases q), fun t q => (by cases q; exact O)⟩, fun v hv => by rw [List.eq_of_mem_replicate hv]; rfl⟩, by omega, by rw [show rf hB H.length = .ref T.heap.size from by show Value.ref _ = _; rw [hp1]]; exact k⟩
theorem inb {c : Cell} {vs : List Value} {j : Int32} {v : Value} (hc : c.slots = vs.toArray) (h0 : ¬ j < 0) (hv : vs[j.toNatClampNeg]? = some v) : ¬ (j < 0 ∨ c.slots.size ≤ j.toNatClampNeg) ∧ c.slots[j.toNatClampNeg]? = some v := by
  have := (List.getElem?_eq_some_iff.mp hv).1
  refine ⟨fun q => q.elim h0 fun z => ?_, by rw [hc]; simpa using hv⟩
  rw [hc, List.size_toArray] at z; omega
theorem arrLen {i : Nat} {t : FieldType} {vs : List Value} {z : Int32} (hd : decode bytes pc = .ok (.arraylength, 1)) (hi : H[i]? = some (arr t vs)) (hz : vs.length.toInt32 = z) (hp : pc + 1 = pc') (hr : WP l Z hB y bytes ml ret R n1 Q sl H pc' Ls (.int z :: st)) : WP l Z hB y bytes ml ret R n1 Q sl H pc Ls (rf hB i :: st) := by
  subst hp
  refine WP.step (fun p e s m args below meth c T locs cells slots C X P tgt h => ?_) hr
  obtain ⟨cl, h1, h2, -⟩ := P.at hi
  exact X.arraylength C.1 h1.1 (State.isArrayOf_alike C.2.1.alike h1.2.1) (g := mkF m pc Ls (rf hB i :: st)) rfl rfl (hb C.2.2.1 hd) _ (by rw [h2, List.size_toArray, hz]; exact h)
theorem arrLenOld {a : Addr} {t : FieldType} {cl : Cell} {z : Int32} (hd : decode bytes pc = .ok (.arraylength, 1)) (A : Arr Z hB a cl t) (hz : cl.slots.size.toInt32 = z) (hp : pc + 1 = pc') (hr : WP l Z hB y bytes ml ret R n1 Q sl H pc' Ls (.int z :: st)) : WP l Z hB y bytes ml ret R n1 Q sl H pc Ls (.ref a :: st) := by
  subst hp
  refine WP.step (fun p e s m args below meth c T locs cells slots C X P tgt h => ?_) hr
  have h1 := A.ext P.toExt
  exact X.arraylength C.1 h1.1 (State.isArrayOf_alike C.2.1.alike h1.2.1) (g := mkF m pc Ls (.ref a :: st)) rfl rfl (hb C.2.2.1 hd) _ (by rw [hz]; exact h)
theorem iaload {i : Nat} {vs : List Value} {j : Int32} {v : Value} {jn : Nat} (hd : decode bytes pc = .ok (.iaload, 1)) (hi : H[i]? = some (arr .int vs)) (h0 : ¬ j < 0) (hjn : j.toNatClampNeg = jn) (hv : vs[jn]? = some v) (hp : pc + 1 = pc') (hr : WP l Z hB y bytes ml ret R n1 Q sl H pc' Ls (v :: st)) : WP l Z hB y bytes ml ret R n1 Q sl H pc Ls (.int j :: rf hB i :: st) := by
  subst hp; subst hjn
  refine WP.step (fun p e s m args below meth c T locs cells slots C X P tgt h => ?_) hr
  obtain ⟨cl, h1, h2, -⟩ := P.at hi
  exact X.iaload C.1 h1.1 (State.isArrayOf_alike C.2.1.alike h1.2.1) h1.2.2 (inb h2 h0 hv).1 (inb h2 h0 hv).2 (g := mkF m pc Ls (.int j :: rf hB i :: st)) rfl rfl (hb C.2.2.1 hd) _ h
theorem laload {i : Nat} {vs : List Value} {j : Int32} {v : Value} {jn : Nat} (hd : decode bytes pc = .ok (.laload, 1)) (hi : H[i]? = some (arr .long vs)) (h0 : ¬ j < 0) (hjn : j.toNatClampNeg = jn) (hv : vs[jn]? = some v) (hp : pc + 1 = pc') (hr : WP l Z hB y bytes ml ret R n1 Q sl H pc' Ls (v :: st)) : WP l Z hB y bytes ml ret R n1 Q sl H pc Ls (.int j :: rf hB i :: st) := by
  subst hp; subst hjn
  refine WP.step (fun p e s m args below meth c T locs cells slots C X P tgt h => ?_) hr
  obtain ⟨cl, h1, h2, -⟩ := P.at hi
  exact X.laload C.1 h1.1 (State.isArrayOf_alike C.2.1.alike h1.2.1) h1.2.2 (inb h2 h0 hv).1 (inb h2 h0 hv).2 (g := mkF m pc Ls (.int j :: rf hB i :: st)) rfl rfl (hb C.2.2.1 hd) _ h
theorem caload {i : Nat} {vs : List Value} {j : Int32} {v : Value} {jn : Nat} (hd : decode bytes pc = .ok (.caload, 1)) (hi : H[i]? = some (arr .char vs)) (h0 : ¬ j < 0) (hjn : j.toNatClampNeg = jn) (hv : vs[jn]? = some v) (hp : pc + 1 = pc') (hr : WP l Z hB y bytes ml ret R n1 Q sl H pc' Ls (v :: st)) : WP l Z hB y bytes ml ret R n1 Q sl H pc Ls (.int j :: rf hB i :: st) := by
  subst hp; subst hjn
  refine WP.step (fun p e s m args below meth c T locs cells slots C X P tgt h => ?_) hr
  obtain ⟨cl, h1, h2, -⟩ := P.at hi
  exact X.caload C.1 h1.1 (State.isArrayOf_alike C.2.1.alike h1.2.1) h1.2.2 (inb h2 h0 hv).1 (inb h2 h0 hv).2 (g := mkF m pc Ls (.int j :: rf hB i :: st)) rfl rfl (hb C.2.2.1 hd) _ h
theorem baload {i : Nat} {vs : List Value} {j : Int32} {v : Value} {jn : Nat} (hd : decode bytes pc = .ok (.baload, 1)) (hi : H[i]? = some (arr .byte vs)) (h0 : ¬ j < 0) (hjn : j.toNatClampNeg = jn) (hv : vs[jn]? = some v) (hp : pc + 1 = pc') (hr : WP l Z hB y bytes ml ret R n1 Q sl H pc' Ls (v :: st)) : WP l Z hB y bytes ml ret R n1 Q sl H pc Ls (.int j :: rf hB i :: st) := by
  subst hp; subst hjn
  refine WP.step (fun p e s m args below meth c T locs cells slots C X P tgt h => ?_) hr
  obtain ⟨cl, h1, h2, -⟩ := P.at hi
  exact X.baloadBytes C.1 h1.1 (State.isArrayOf_alike C.2.1.alike h1.2.1) h1.2.2 (inb h2 h0 hv).1 (inb h2 h0 hv).2 (g := mkF m pc Ls (.int j :: rf hB i :: st)) rfl rfl (hb C.2.2.1 hd) _ h
theorem zaload {i : Nat} {vs : List Value} {j : Int32} {v : Value} {jn : Nat} (hd : decode bytes pc = .ok (.baload, 1)) (hi : H[i]? = some (arr .boolean vs)) (h0 : ¬ j < 0) (hjn : j.toNatClampNeg = jn) (hv : vs[jn]? = some v) (hp : pc + 1 = pc') (hr : WP l Z hB y bytes ml ret R n1 Q sl H pc' Ls (v :: st)) : WP l Z hB y bytes ml ret R n1 Q sl H pc Ls (.int j :: rf hB i :: st) := by
  subst hp; subst hjn
  refine WP.step (fun p e s m args below meth c T locs cells slots C X P tgt h => ?_) hr
  obtain ⟨cl, h1, h2, -⟩ := P.at hi
  exact X.baloadBooleans C.1 h1.1 (State.isArrayOf_alike C.2.1.alike h1.2.1) h1.2.2 (inb h2 h0 hv).1 (inb h2 h0 hv).2 (g := mkF m pc Ls (.int j :: rf hB i :: st)) rfl rfl (hb C.2.2.1 hd) _ h
theorem aaload {i : Nat} {t : FieldType} {vs : List Value} {j : Int32} {v : Value} {jn : Nat} (hd : decode bytes pc = .ok (.aaload, 1)) (hi : H[i]? = some (arr t vs)) (ht : t.isReference = true) (h0 : ¬ j < 0) (hjn : j.toNatClampNeg = jn) (hv : vs[jn]? = some v) (hp : pc + 1 = pc') (hr : WP l Z hB y bytes ml ret R n1 Q sl H pc' Ls (v :: st)) : WP l Z hB y bytes ml ret R n1 Q sl H pc Ls (.int j :: rf hB i :: st) := by
  subst hp; subst hjn
  refine WP.step (fun p e s m args below meth c T locs cells slots C X P tgt h => ?_) hr
  obtain ⟨cl, h1, h2, -⟩ := P.at hi
  exact X.aaload C.1 h1.1 (State.isArrayOf_alike C.2.1.alike h1.2.1) ht h1.2.2 (inb h2 h0 hv).1 (inb h2 h0 hv).2 (g := mkF m pc Ls (.int j :: rf hB i :: st)) rfl rfl (hb C.2.2.1 hd) _ h
theorem baloadOld {a : Addr} {cl : Cell} {j : Int32} {v : Value} (hd : decode bytes pc = .ok (.baload, 1)) (A : Arr Z hB a cl .byte) (h0 : ¬ (j < 0 ∨ cl.slots.size ≤ j.toNatClampNeg)) (hv : cl.slots[j.toNatClampNeg]? = some v) (hp : pc + 1 = pc') (hr : WP l Z hB y bytes ml ret R n1 Q sl H pc' Ls (v :: st)) : WP l Z hB y bytes ml ret R n1 Q sl H pc Ls (.int j :: .ref a :: st) := by
  subst hp
  refine WP.step (fun p e s m args below meth c T locs cells slots C X P tgt h => ?_) hr
  have h1 := A.ext P.toExt
  exact X.baloadBytes C.1 h1.1 (State.isArrayOf_alike C.2.1.alike h1.2.1) h1.2.2 h0 hv (g := mkF m pc Ls (.int j :: .ref a :: st)) rfl rfl (hb C.2.2.1 hd) _ h
theorem ialoadOld {a : Addr} {cl : Cell} {j : Int32} {v : Value} (hd : decode bytes pc = .ok (.iaload, 1)) (A : Arr Z hB a cl .int) (h0 : ¬ (j < 0 ∨ cl.slots.size ≤ j.toNatClampNeg)) (hv : cl.slots[j.toNatClampNeg]? = some v) (hp : pc + 1 = pc') (hr : WP l Z hB y bytes ml ret R n1 Q sl H pc' Ls (v :: st)) : WP l Z hB y bytes ml ret R n1 Q sl H pc Ls (.int j :: .ref a :: st) := by
  subst hp
  refine WP.step (fun p e s m args below meth c T locs cells slots C X P tgt h => ?_) hr
  have h1 := A.ext P.toExt
  exact X.iaload C.1 h1.1 (State.isArrayOf_alike C.2.1.alike h1.2.1) h1.2.2 h0 hv (g := mkF m pc Ls (.int j :: .ref a :: st)) rfl rfl (hb C.2.2.1 hd) _ h
theorem aaloadOld {a : Addr} {t : FieldType} {cl : Cell} {j : Int32} {v : Value} (hd : decode bytes pc = .ok (.aaload, 1)) (A : Arr Z hB a cl t) (ht : t.isReference = true) (h0 : ¬ (j < 0 ∨ cl.slots.size ≤ j.toNatClampNeg)) (hv : cl.slots[j.toNatClampNeg]? = some v) (hp : pc + 1 = pc') (hr : WP l Z hB y bytes ml ret R n1 Q sl H pc' Ls (v :: st)) : WP l Z hB y bytes ml ret R n1 Q sl H pc Ls (.int j :: .ref a :: st) := by
  subst hp
  refine WP.step (fun p e s m args below meth c T locs cells slots C X P tgt h => ?_) hr
  have h1 := A.ext P.toExt
  exact X.aaload C.1 h1.1 (State.isArrayOf_alike C.2.1.alike h1.2.1) ht h1.2.2 h0 hv (g := mkF m pc Ls (.int j :: .ref a :: st)) rfl rfl (hb C.2.2.1 hd) _ h
theorem iastore {i : Nat} {vs : List Value} {j : Int32} {x : Int32} {jn : Nat} (hd : decode bytes pc = .ok (.iastore, 1)) (hi : H[i]? = some (arr .int vs)) (h0 : ¬ j < 0) (hjn : j.toNatClampNeg = jn) (hlt : jn < vs.length) (hH : H.set i (arr .int (vs.set jn (.int x))) = H') (hp : pc + 1 = pc') (hr : WP l Z hB y bytes ml ret R n1 Q sl H' pc' Ls st) : WP l Z hB y bytes ml ret R n1 Q sl H pc Ls (.int x :: .int j :: rf hB i :: st) := by
  subst hp; subst hH; subst hjn
  refine WP.stepH (fun p e s m args below meth c T locs cells slots C X hz N P hs => ?_) hr
  obtain ⟨cl, h1, h2, -⟩ := P.at hi
  obtain ⟨T', h', X', e', W, k⟩ := stI X C.1 C.2.1 rfl h1 (inb h2 h0 (List.getElem?_eq_getElem hlt)).1 (g := mkF m pc Ls (.int x :: .int j :: rf hB i :: st)) rfl rfl (hb C.2.2.1 hd)
  exact ⟨T', _, _, _, X', Fr.snoc X' N (Nat.le_add_right _ _), by rw [e']; exact P.wrA hi (rfl) W, hs, k⟩
theorem lastore {i : Nat} {vs : List Value} {j : Int32} {x : Int64} {jn : Nat} (hd : decode bytes pc = .ok (.lastore, 1)) (hi : H[i]? = some (arr .long vs)) (h0 : ¬ j < 0) (hjn : j.toNatClampNeg = jn) (hlt : jn < vs.length) (hH : H.set i (arr .long (vs.set jn (.long x))) = H') (hp : pc + 1 = pc') (hr : WP l Z hB y bytes ml ret R n1 Q sl H' pc' Ls st) : WP l Z hB y bytes ml ret R n1 Q sl H pc Ls (.long x :: .int j :: rf hB i :: st) := by
  subst hp; subst hH; subst hjn
  refine WP.stepH (fun p e s m args below meth c T locs cells slots C X hz N P hs => ?_) hr
  obtain ⟨cl, h1, h2, -⟩ := P.at hi
  obtain ⟨T', h', X', e', W, k⟩ := stJ X C.1 C.2.1 rfl h1 (inb h2 h0 (List.getElem?_eq_getElem hlt)).1 (g := mkF m pc Ls (.long x :: .int j :: rf hB i :: st)) rfl rfl (hb C.2.2.1 hd)
  exact ⟨T', _, _, _, X', Fr.snoc X' N (Nat.le_add_right _ _), by rw [e']; exact P.wrA hi (rfl) W, hs, k⟩
theorem castore {i : Nat} {vs : List Value} {j : Int32} {x : Int32} {jn : Nat} (hd : decode bytes pc = .ok (.castore, 1)) (hi : H[i]? = some (arr .char vs)) (h0 : ¬ j < 0) (hjn : j.toNatClampNeg = jn) (hlt : jn < vs.length) (hH : H.set i (arr .char (vs.set jn (.int (nar .char x)))) = H') (hp : pc + 1 = pc') (hr : WP l Z hB y bytes ml ret R n1 Q sl H' pc' Ls st) : WP l Z hB y bytes ml ret R n1 Q sl H pc Ls (.int x :: .int j :: rf hB i :: st) := by
  subst hp; subst hH; subst hjn
  refine WP.stepH (fun p e s m args below meth c T locs cells slots C X hz N P hs => ?_) hr
  obtain ⟨cl, h1, h2, -⟩ := P.at hi
  obtain ⟨T', h', X', e', W, k⟩ := stC X C.1 C.2.1 rfl h1 (inb h2 h0 (List.getElem?_eq_getElem hlt)).1 (g := mkF m pc Ls (.int x :: .int j :: rf hB i :: st)) rfl rfl (hb C.2.2.1 hd)
  exact ⟨T', _, _, _, X', Fr.snoc X' N (Nat.le_add_right _ _), by rw [e']; exact P.wrA hi (fits_nar_char x) W, hs, k⟩
theorem bastore {i : Nat} {vs : List Value} {j : Int32} {x : Int32} {jn : Nat} (hd : decode bytes pc = .ok (.bastore, 1)) (hi : H[i]? = some (arr .byte vs)) (h0 : ¬ j < 0) (hjn : j.toNatClampNeg = jn) (hlt : jn < vs.length) (hH : H.set i (arr .byte (vs.set jn (.int (nar .byte x)))) = H') (hp : pc + 1 = pc') (hr : WP l Z hB y bytes ml ret R n1 Q sl H' pc' Ls st) : WP l Z hB y bytes ml ret R n1 Q sl H pc Ls (.int x :: .int j :: rf hB i :: st) := by
  subst hp; subst hH; subst hjn
  refine WP.stepH (fun p e s m args below meth c T locs cells slots C X hz N P hs => ?_) hr
  obtain ⟨cl, h1, h2, -⟩ := P.at hi
  obtain ⟨T', h', X', e', W, k⟩ := stB X C.1 C.2.1 rfl h1 (inb h2 h0 (List.getElem?_eq_getElem hlt)).1 (g := mkF m pc Ls (.int x :: .int j :: rf hB i :: st)) rfl rfl (hb C.2.2.1 hd)
  exact ⟨T', _, _, _, X', Fr.snoc X' N (Nat.le_add_right _ _), by rw [e']; exact P.wrA hi (fits_nar_byte x) W, hs, k⟩
theorem zastore {i : Nat} {vs : List Value} {j : Int32} {x : Int32} {jn : Nat} (hd : decode bytes pc = .ok (.bastore, 1)) (hi : H[i]? = some (arr .boolean vs)) (h0 : ¬ j < 0) (hjn : j.toNatClampNeg = jn) (hlt : jn < vs.length) (hH : H.set i (arr .boolean (vs.set jn (.int (nar .boolean x)))) = H') (hp : pc + 1 = pc') (hr : WP l Z hB y bytes ml ret R n1 Q sl H' pc' Ls st) : WP l Z hB y bytes ml ret R n1 Q sl H pc Ls (.int x :: .int j :: rf hB i :: st) := by
  subst hp; subst hH; subst hjn
  refine WP.stepH (fun p e s m args below meth c T locs cells slots C X hz N P hs => ?_) hr
  obtain ⟨cl, h1, h2, -⟩ := P.at hi
  obtain ⟨T', h', X', e', W, k⟩ := stZ X C.1 C.2.1 rfl h1 (inb h2 h0 (List.getElem?_eq_getElem hlt)).1 (g := mkF m pc Ls (.int x :: .int j :: rf hB i :: st)) rfl rfl (hb C.2.2.1 hd)
  exact ⟨T', _, _, _, X', Fr.snoc X' N (Nat.le_add_right _ _), by rw [e']; exact P.wrA hi (fits_nar_bool x) W, hs, k⟩
theorem aastore {i : Nat} {t : FieldType} {vs : List Value} {j : Int32} {v : Value} {jn : Nat} (hd : decode bytes pc = .ok (.aastore, 1)) (hi : H[i]? = some (arr t vs)) (ht : t.isReference = true) (F : ∀ h, Hp Z hB h H → Sto Z h (hB.size + i) v) (hf : fits t v = true) (h0 : ¬ j < 0) (hjn : j.toNatClampNeg = jn) (hlt : jn < vs.length) (hH : H.set i (arr t (vs.set jn v)) = H') (hp : pc + 1 = pc') (hr : WP l Z hB y bytes ml ret R n1 Q sl H' pc' Ls st) : WP l Z hB y bytes ml ret R n1 Q sl H pc Ls (v :: .int j :: rf hB i :: st) := by
  subst hp; subst hH; subst hjn
  refine WP.stepH (fun p e s m args below meth c T locs cells slots C X hz N P hs => ?_) hr
  obtain ⟨cl, h1, h2, -⟩ := P.at hi
  obtain ⟨T', h', X', e', W, k⟩ := stR X C.1 C.2.1 rfl h1 (inb h2 h0 (List.getElem?_eq_getElem hlt)).1 ht (F _ P) (g := mkF m pc Ls (v :: .int j :: rf hB i :: st)) rfl rfl (hb C.2.2.1 hd)
  exact ⟨T', _, _, _, X', Fr.snoc X' N (Nat.le_add_right _ _), by rw [e']; exact P.wrA hi hf W, hs, k⟩
theorem ialoadI {i : Nat} {xs : List Int32} {j x : Int32} {jn : Nat} (hd : decode bytes pc = .ok (.iaload, 1)) (hi : H[i]? = some (ints xs)) (h0 : ¬ j < 0) (hjn : j.toNatClampNeg = jn) (hv : xs[jn]? = some x) (hp : pc + 1 = pc') (hr : WP l Z hB y bytes ml ret R n1 Q sl H pc' Ls (.int x :: st)) : WP l Z hB y bytes ml ret R n1 Q sl H pc Ls (.int j :: rf hB i :: st) :=
  iaload hd hi h0 hjn (by rw [List.getElem?_map, hv]; rfl) hp hr
theorem iastoreI {i : Nat} {xs : List Int32} {j x : Int32} {jn : Nat} (hd : decode bytes pc = .ok (.iastore, 1)) (hi : H[i]? = some (ints xs)) (h0 : ¬ j < 0) (hjn : j.toNatClampNeg = jn) (hlt : jn < xs.length) (hH : H.set i (ints (xs.set jn x)) = H') (hp : pc + 1 = pc') (hr : WP l Z hB y bytes ml ret R n1 Q sl H' pc' Ls st) : WP l Z hB y bytes ml ret R n1 Q sl H pc Ls (.int x :: .int j :: rf hB i :: st) :=
  iastore hd hi h0 hjn (by rw [List.length_map]; exact hlt) (by rw [← hH]; show H.set i (arr .int ((xs.map Value.int).set jn (Value.int x))) = H.set i (arr .int ((xs.set jn x).map Value.int)); rw [List.map_set]) hp hr
theorem ialoadG {i : Nat} {xs : List Int32} {j x : Int32} (hd : decode bytes pc = .ok (.iaload, 1)) (hi : H[i]? = some (ints xs)) (hg : gI xs j = some x) (hp : pc + 1 = pc') (hr : WP l Z hB y bytes ml ret R n1 Q sl H pc' Ls (.int x :: st)) : WP l Z hB y bytes ml ret R n1 Q sl H pc Ls (.int j :: rf hB i :: st) :=
  ialoadI hd hi (gI_at hg).1 rfl (gI_at hg).2 hp hr
theorem iastoreG {i : Nat} {xs xs' : List Int32} {j x : Int32} (hd : decode bytes pc = .ok (.iastore, 1)) (hi : H[i]? = some (ints xs)) (hg : sI xs j x = some xs') (hH : H.set i (ints xs') = H') (hp : pc + 1 = pc') (hr : WP l Z hB y bytes ml ret R n1 Q sl H' pc' Ls st) : WP l Z hB y bytes ml ret R n1 Q sl H pc Ls (.int x :: .int j :: rf hB i :: st) :=
  iastoreI hd hi (sI_at hg).1 rfl (sI_at hg).2.1 (by rw [← hH, (sI_at hg).2.2]) hp hr
theorem stoO {h : Heap} (P : Hp Z hB h H) {i : Nat} {C : String} {vs : List Value} {b : Addr} (hi : H[i]? = some (arr (.object C) vs)) (I : Ins Z h b C true) : Sto Z h (hB.size + i) (.ref b) := by
  obtain ⟨cl, h1, -, -, -, -, h6, -⟩ := P.at hi
  exact Sto.of h1 (h6.1 _ rfl) I
theorem stoA {h : Heap} (P : Hp Z hB h H) {i : Nat} {ty : FieldType} {C : String} {vs : List Value} {b : Addr} (hi : H[i]? = some (arr (.array ty) vs)) (hC : (FieldType.array ty).toString = C) (I : Ins Z h b C true) : Sto Z h (hB.size + i) (.ref b) := by
  subst hC
  obtain ⟨cl, h1, -, -, -, -, h6, -⟩ := P.at hi
  obtain ⟨k, comp, o1, o2, o3⟩ := h6.2 _ rfl
  obtain ⟨cv, cT, i1, i2, i3⟩ := I
  cases o3.symm.trans i2
  simp only [Bool.and_eq_true, Bool.not_eq_true'] at i3
  obtain ⟨kc, q⟩ := Vm.classAt_of_findClass o3
  obtain ⟨kv, q2⟩ := Vm.classAt_of_assignable i3.2 ⟨kc, q⟩
  exact Or.inr ⟨cl, cv, k, kv, kc, _, _, b, h1.1, o1, o2, q, rfl, i1, i3.1, q2, i3.2⟩
theorem ldcInt {index : Nat} {x : Int32} (hd : decode bytes pc = .ok (.ldc index, 2)) (w : (Jvm.Cond.constant y.cls index x).before a0 Z = true) (hp : pc + 2 = pc') (hr : WP l Z hB y bytes ml ret R n1 Q sl H pc' Ls (.int x :: st)) : WP l Z hB y bytes ml ret R n1 Q sl H pc Ls st := by
  subst hp
  exact WP.step (fun p e s m args below meth c T locs cells slots C X P tgt h => X.ldcInt C.1 C.2.2.2.2.1 (mvT C.2.1 w) (g := mkF m pc Ls st) rfl (hb C.2.2.1 hd) _ h) hr
theorem ldc2Long {index : Nat} {x : Int64} (hd : decode bytes pc = .ok (.ldc2_w index, 3)) (w : (Jvm.Cond.constantLong y.cls index x).before a0 Z = true) (hp : pc + 3 = pc') (hr : WP l Z hB y bytes ml ret R n1 Q sl H pc' Ls (.long x :: st)) : WP l Z hB y bytes ml ret R n1 Q sl H pc Ls st := by
  subst hp
  exact WP.step (fun p e s m args below meth c T locs cells slots C X P tgt h => X.ldc2Long C.1 C.2.2.2.2.1 (mvT C.2.1 w) (g := mkF m pc Ls st) rfl (hb C.2.2.1 hd) _ h) hr
theorem castTo {K : String} {index : Nat} {a : Addr} (hd : decode bytes pc = .ok (.checkcast index, 3)) (w : (Jvm.Cond.classLink y.cls index K).before a0 Z = true) (F : ∀ h, Hp Z hB h H → Ins Z h a K true) (hp : pc + 3 = pc') (hr : WP l Z hB y bytes ml ret R n1 Q sl H pc' Ls (.ref a :: st)) : WP l Z hB y bytes ml ret R n1 Q sl H pc Ls (.ref a :: st) := by
  subst hp
  exact WP.stepT (fun p e s m args below meth c T locs cells slots C X P => castY X C.1 C.2.1 C.2.2.2.2.1 w rfl (F _ P) (g := mkF m pc Ls (.ref a :: st)) rfl rfl (hb C.2.2.1 hd)) hr
theorem instYes {K : String} {index : Nat} {a : Addr} (hd : decode bytes pc = .ok (.instanceof index, 3)) (w : (Jvm.Cond.classLink y.cls index K).before a0 Z = true) (F : ∀ h, Hp Z hB h H → Ins Z h a K true) (hp : pc + 3 = pc') (hr : WP l Z hB y bytes ml ret R n1 Q sl H pc' Ls (.int 1 :: st)) : WP l Z hB y bytes ml ret R n1 Q sl H pc Ls (.ref a :: st) := by
  subst hp
  exact WP.stepT (fun p e s m args below meth c T locs cells slots C X P => instY X C.1 C.2.1 C.2.2.2.2.1 w rfl (F _ P) (g := mkF m pc Ls (.ref a :: st)) rfl rfl (hb C.2.2.1 hd)) hr
theorem instNot {K C : String} {index : Nat} {a : Addr} (hd : decode bytes pc = .ok (.instanceof index, 3)) (w : (Jvm.Cond.classLink y.cls index K).before a0 Z = true) (E : ∀ h, Hp Z hB h H → Exa Z h a C) (F : ∃ c t, Z.vm.findClass C = some c ∧ Z.vm.findClass K = some t ∧ Z.vm.assignable c t = false) (hp : pc + 3 = pc') (hr : WP l Z hB y bytes ml ret R n1 Q sl H pc' Ls (.int 0 :: st)) : WP l Z hB y bytes ml ret R n1 Q sl H pc Ls (.ref a :: st) := by
  subst hp
  exact WP.stepT (fun p e s m args below meth c T locs cells slots C X P => instNo X C.1 C.2.1 C.2.2.2.2.1 w rfl (E _ P) F (g := mkF m pc Ls (.ref a :: st)) rfl rfl (hb C.2.2.1 hd)) hr
theorem instNull {index : Nat} (hd : decode bytes pc = .ok (.instanceof index, 3)) (hp : pc + 3 = pc') (hr : WP l Z hB y bytes ml ret R n1 Q sl H pc' Ls (.int 0 :: st)) : WP l Z hB y bytes ml ret R n1 Q sl H pc Ls (.null :: st) := by
  subst hp
  exact WP.step (fun p e s m args below meth c T locs cells slots C X P tgt h => X.instanceofNull C.1 (g := mkF m pc Ls (.null :: st)) rfl rfl (hb C.2.2.1 hd) _ h) hr
theorem castNull {index : Nat} (hd : decode bytes pc = .ok (.checkcast index, 3)) (hp : pc + 3 = pc') (hr : WP l Z hB y bytes ml ret R n1 Q sl H pc' Ls (.null :: st)) : WP l Z hB y bytes ml ret R n1 Q sl H pc Ls (.null :: st) := by
  subst hp
  exact WP.step (fun p e s m args below meth c T locs cells slots C X P tgt h => X.checkcastNull C.1 (g := mkF m pc Ls (.null :: st)) rfl rfl (hb C.2.2.1 hd) _ h) hr
/-! returns -/
theorem retV {w : Value} {t : FieldType} {i : Instr} (hd : decode bytes pc = .ok (i, 1)) (hret : ret = some t) (hn : narrow t w = w)
    (hi : (i = .ireturn ∧ (t = .int ∨ t = .boolean ∨ t = .byte ∨ t = .char ∨ t = .short) ∧ ∃ z, w = .int z) ∨ (i = .lreturn ∧ t = .long ∧ ∃ z, w = .long z) ∨ (i = .dreturn ∧ t = .double ∧ ∃ z, w = .double z) ∨ (i = .freturn ∧ t = .float ∧ ∃ z, w = .float z) ∨ (i = .areturn ∧ t.isReference = true ∧ w.isRef = true))
    (hc : H.length ≤ n1 + R.cells) (hs : sl ≤ R.slots) (hQ : Q (some w) H) : WP l Z hB y bytes ml ret R n1 Q sl H pc Ls (w :: st) := by
  intro p e s m args below meth c C T locs cells slots X N P hs'
  have hr := C.2.2.2.2.2.2.1.trans hret
  have hsz := C.2.2.2.2.2.2.2.2
  have hp1 := P.1
  obtain ⟨fs, hl, hrun, hended, hW, hsame⟩ := (exact' X (k := R.cells) (by omega)).leave (v := some w) (fun h => by rw [hr] at h; cases h) C.2.2.2.2.2.2.2.1
  exact ⟨_, _, retOut X C.1 hr hn hi (hb C.2.2.1 hd) hl, hrun, hended, some w, locs, H, rfl, hQ, P, N, ⟨_, rfl⟩, hW, hsame.mono (Nat.le_refl _) (Nat.le_trans hs' hs)⟩
theorem iret {x : Int32} {t : FieldType} (hd : decode bytes pc = .ok (.ireturn, 1)) (hret : ret = some t) (ht : t = .int ∨ t = .boolean ∨ t = .byte ∨ t = .char ∨ t = .short) (hn : narrow t (.int x) = .int x) (hc : H.length ≤ n1 + R.cells) (hs : sl ≤ R.slots) (hQ : Q (some (.int x)) H) : WP l Z hB y bytes ml ret R n1 Q sl H pc Ls (.int x :: st) :=
  retV hd hret hn (Or.inl ⟨rfl, ht, _, rfl⟩) hc hs hQ
theorem lret {x : Int64} (hd : decode bytes pc = .ok (.lreturn, 1)) (hret : ret = some .long) (hc : H.length ≤ n1 + R.cells) (hs : sl ≤ R.slots) (hQ : Q (some (.long x)) H) : WP l Z hB y bytes ml ret R n1 Q sl H pc Ls (.long x :: st) :=
  retV hd hret rfl (Or.inr (Or.inl ⟨rfl, rfl, _, rfl⟩)) hc hs hQ
theorem aret {w : Value} {t : FieldType} (hd : decode bytes pc = .ok (.areturn, 1)) (hret : ret = some t) (ht : t.isReference = true) (hw : w.isRef = true) (hc : H.length ≤ n1 + R.cells) (hs : sl ≤ R.slots) (hQ : Q (some w) H) : WP l Z hB y bytes ml ret R n1 Q sl H pc Ls (w :: st) :=
  retV hd hret (by rcases ref_cases hw with rfl | ⟨a, rfl⟩ <;> cases t <;> first | rfl | cases ht) (Or.inr (Or.inr (Or.inr (Or.inr ⟨rfl, ht, hw⟩)))) hc hs hQ
theorem vret (hd : decode bytes pc = .ok (.return_, 1)) (hret : ret = none) (hc : H.length ≤ n1 + R.cells) (hs : sl ≤ R.slots) (hQ : Q none H) : WP l Z hB y bytes ml ret R n1 Q sl H pc Ls [] := by
  intro p e s m args below meth c C T locs cells slots X N P hs'
  have hr := C.2.2.2.2.2.2.1.trans hret
  have hsz := C.2.2.2.2.2.2.2.2
  have hp1 := P.1
  obtain ⟨fs, hl, hrun, hended, hW, hsame⟩ := (exact' X (k := R.cells) (by omega)).leave (v := none) (fun _ => rfl) C.2.2.2.2.2.2.2.1
  exact ⟨_, _, X.returnOut C.1 hr (hb C.2.2.1 hd) hl, hrun, hended, none, locs, H, rfl, hQ, P, N, ⟨_, rfl⟩, hW, hsame.mono (Nat.le_refl _) (Nat.le_trans hs' hs)⟩
/-! calls -/
section Calls
variable {y' z' : MethodName} {bytes' : ByteArray} {ml' : Nat} {ret' : Option FieldType} {rm : Room} {Q' : Option Value → List Rec → Prop} {index : Nat} {argsL st0 : List Value}
theorem mkBack {p : Program} {e : Env} {s : State} {args : Array Value} {below : List Frame} {h : Heap} {len W : Nat} {as' : Array Value} (hC : Ctr l Z hB y' bytes' ml' ret' [] rm as' H Q') (P : Hp Z hB h H) (hZ : Z.Warmed39 s.vm) (w4 : (Jvm.Cond.code y' bytes' ml' ret').before a0 Z = true) (w3 : (Jvm.Cond.initialized y'.cls).before a0 Z = true) (hfr : rm.frames + 1 ≤ R.frames) (hlo : W + (ml' + 11) + rm.locals ≤ R.locals) :
    Back l R p e below s args y' len W (fun A a => a = as' ∧ A.U.heap = h ∧ A.cells + rm.cells ≤ R.cells ∧ A.slots + rm.slots ≤ R.slots)
      (fun A _ v B => ∃ L, (∃ H', Q' v H' ∧ Hp Z hB B.U.heap H' ∧ Fr hB.size L) ∧ B.locs = A.locs ++ L ∧ B.cells = A.cells + rm.cells ∧ B.slots = A.slots + rm.slots) :=
  backOf (Q := fun v h L => ∃ H', Q' v H' ∧ Hp Z hB h H' ∧ Fr hB.size L) (MetFree.mono hC (fun a s h => ⟨h.1, h.2.1, by rw [h.2.2]; exact P⟩) (fun _ _ _ _ _ h => h) (fun a s o s' _ ⟨v, L, H', h1, h2, h3, h4, h5⟩ => ⟨v, L, h1, ⟨H', h2, h3, h4⟩, h5⟩)) hZ w4 w3 hfr hlo
theorem callS (hd : decode bytes pc = .ok (.invokestatic index, 3)) (w1 : (Jvm.Cond.methodLink y.cls index y').before a0 Z = true) (w2 : (Jvm.Cond.static y').before a0 Z = true) (w3 : (Jvm.Cond.initialized y'.cls).before a0 Z = true) (w4 : (Jvm.Cond.code y' bytes' ml' ret').before a0 Z = true) (hy : y'.cls ≠ "java/lang/invoke/MethodHandle" ∧ y'.cls ≠ "java/lang/invoke/VarHandle") (hlen : ∀ sig, parseMethodDescriptor y'.desc = some sig → argsL.length = sig.parameters.length)
    (hC : Ctr l Z hB y' bytes' ml' ret' [] rm argsL.toArray H Q') (hml : Ls.size = ml) (hfr : rm.frames + 1 ≤ R.frames) (hlo : (st.map fun v => v.category).sum + (ml' + 11) + rm.locals ≤ R.locals) (hcl : H.length + rm.cells ≤ n1 + R.cells) (hsl : sl + rm.slots ≤ R.slots) (hst : argsL.reverse ++ st = st0) (hp : pc + 3 = pc')
    (hr : ∀ v H', Q' v H' → WP l Z hB y bytes ml ret R n1 Q (sl + rm.slots) H' pc' Ls (v.toList ++ st)) : WP l Z hB y bytes ml ret R n1 Q sl H pc Ls st0 := by
  subst hp; subst hst
  intro p e s m args below meth c C T locs cells slots X N P hs
  have hsz := C.2.2.2.2.2.2.2.2
  have hp1 := P.1
  have hz : T.heap.size = s.heap.size + (T.heap.size - s.heap.size) := by have := X.same.2.1; have : s.heap.size ≤ T.heap.size := this; omega
  obtain ⟨v, vm1, ⟨U', ls, cc, ss⟩, -, X', ⟨L, hq, e1, e2, e3⟩, stp⟩ := Jvm.LawKit.callS (exact' X (Nat.le_of_eq hz)) C.1 (y := y') C.2.2.2.2.1 (mvT C.2.1 w1) (mvT C.2.1 w2) (mvT C.2.1 w3) (mvT C.2.1 w4) hy (mkBack (W := (st.map fun v => v.category).sum) hC P C.2.1 w4 w3 hfr hlo) (g := mkF m pc Ls (argsL.reverse ++ st)) rfl (hml.trans C.2.2.2.1.symm) (argsL := argsL) (rest := st) hlen rfl (by show 2 * 0 + _ ≤ _; omega) (hb C.2.2.1 hd) (fun _ _ => ⟨rfl, rfl, by show T.heap.size - s.heap.size + _ ≤ _; omega, by show slots + _ ≤ _; omega⟩)
  dsimp only [Pt.U, Pt.locs, Pt.cells, Pt.slots] at X' e1 e2 e3 stp hq
  subst e1 e2 e3
  obtain ⟨H', q1, q2, q3⟩ := hq
  obtain ⟨U, o, h1, h2⟩ := hr v H' q1 p e s m args below meth c C U' _ _ _ X' (Fr.app N q3) q2 (by omega)
  exact ⟨U, o, stp U h1, h2⟩
theorem callI {a : Addr} (hd : decode bytes pc = .ok (.invokespecial index, 3)) (hy1 : y'.name = "<init>") (w1 : (Jvm.Cond.methodLink y.cls index y').before a0 Z = true) (w2 : (Jvm.Cond.instanceMethod y').before a0 Z = true) (w3 : (Jvm.Cond.initialized y'.cls).before a0 Z = true) (w4 : (Jvm.Cond.code y' bytes' ml' none).before a0 Z = true) (hy : y'.cls ≠ "java/lang/invoke/MethodHandle" ∧ y'.cls ≠ "java/lang/invoke/VarHandle") (hlen : ∀ sig, parseMethodDescriptor y'.desc = some sig → argsL.length = sig.parameters.length)
    (hC : Ctr l Z hB y' bytes' ml' none [] rm (.ref a :: argsL).toArray H Q') (hml : Ls.size = ml) (hfr : rm.frames + 1 ≤ R.frames) (hlo : (st.map fun v => v.category).sum + (ml' + 11) + rm.locals ≤ R.locals) (hcl : H.length + rm.cells ≤ n1 + R.cells) (hsl : sl + rm.slots ≤ R.slots) (hst : argsL.reverse ++ .ref a :: st = st0) (hp : pc + 3 = pc')
    (hr : ∀ v H', Q' v H' → WP l Z hB y bytes ml ret R n1 Q (sl + rm.slots) H' pc' Ls (v.toList ++ st)) : WP l Z hB y bytes ml ret R n1 Q sl H pc Ls st0 := by
  subst hp; subst hst
  intro p e s m args below meth c C T locs cells slots X N P hs
  have hsz := C.2.2.2.2.2.2.2.2
  have hp1 := P.1
  have hz : T.heap.size = s.heap.size + (T.heap.size - s.heap.size) := by have := X.same.2.1; have : s.heap.size ≤ T.heap.size := this; omega
  obtain ⟨v, vm1, ⟨U', ls, cc, ss⟩, -, X', ⟨L, hq, e1, e2, e3⟩, stp⟩ := (exact' X (Nat.le_of_eq hz)).specialBack C.1 (y := y') hy1 C.2.2.2.2.1 (mvT C.2.1 w1) (mvT C.2.1 w2) (mvT C.2.1 w4) hy (mkBack (W := (st.map fun v => v.category).sum) hC P C.2.1 w4 w3 hfr hlo) (g := mkF m pc Ls (argsL.reverse ++ .ref a :: st)) rfl (hml.trans C.2.2.2.1.symm) (Steps.refl _) (a := a) (argsL := argsL) (rest := st) hlen rfl (by show 2 * 0 + _ ≤ _; omega) (hb C.2.2.1 hd) (fun _ _ => ⟨rfl, rfl, by show T.heap.size - s.heap.size + _ ≤ _; omega, by show slots + _ ≤ _; omega⟩)
  dsimp only [Pt.U, Pt.locs, Pt.cells, Pt.slots] at X' e1 e2 e3 stp hq
  subst e1 e2 e3
  obtain ⟨H', q1, q2, q3⟩ := hq
  obtain ⟨U, o, h1, h2⟩ := hr v H' q1 p e s m args below meth c C U' _ _ _ X' (Fr.app N q3) q2 (by omega)
  exact ⟨U, o, stp.trans h1, h2⟩
theorem nfSel {C : String} (w : (Jvm.Cond.selects C y' y').before a0 Z = true) : ∀ s : State, Z.Warmed39 s.vm → NotFace s y' := fun s hZ => notFace_of_selects (args := #[]) (mvT hZ w)
theorem callV {a : Addr} {C : String} (hd : decode bytes pc = .ok (.invokevirtual index, 3)) (w1 : (Jvm.Cond.methodLink y.cls index y').before a0 Z = true) (w2 : (Jvm.Cond.declares y').before a0 Z = true) (hnf : ∀ s : State, Z.Warmed39 s.vm → NotFace s y') (w5 : (Jvm.Cond.selects C y' z').before a0 Z = true) (w6 : (Jvm.Cond.instanceMethod z').before a0 Z = true) (w3 : (Jvm.Cond.initialized z'.cls).before a0 Z = true) (w4 : (Jvm.Cond.code z' bytes' ml' ret').before a0 Z = true) (hy : y'.cls ≠ "java/lang/invoke/MethodHandle" ∧ y'.cls ≠ "java/lang/invoke/VarHandle") (hlen : ∀ sig, parseMethodDescriptor y'.desc = some sig → argsL.length = sig.parameters.length)
    (E : ∀ h, Hp Z hB h H → Exa Z h a C) (hC : Ctr l Z hB z' bytes' ml' ret' [] rm (.ref a :: argsL).toArray H Q') (hml : Ls.size = ml) (hfr : rm.frames + 1 ≤ R.frames) (hlo : (st.map fun v => v.category).sum + (ml' + 11) + rm.locals ≤ R.locals) (hcl : H.length + rm.cells ≤ n1 + R.cells) (hsl : sl + rm.slots ≤ R.slots) (hst : argsL.reverse ++ .ref a :: st = st0) (hp : pc + 3 = pc')
    (hr : ∀ v H', Q' v H' → WP l Z hB y bytes ml ret R n1 Q (sl + rm.slots) H' pc' Ls (v.toList ++ st)) : WP l Z hB y bytes ml ret R n1 Q sl H pc Ls st0 := by
  subst hp; subst hst
  intro p e s m args below meth c C' T locs cells slots X N P hs
  have hsz := C'.2.2.2.2.2.2.2.2
  have hp1 := P.1
  have hz : T.heap.size = s.heap.size + (T.heap.size - s.heap.size) := by have := X.same.2.1; have : s.heap.size ≤ T.heap.size := this; omega
  obtain ⟨cq, kq, qa, qb, qc⟩ := isOf (s := s) (T := T) C'.2.1 rfl (E _ P)
  obtain ⟨v, vm1, ⟨U', ls, cc, ss⟩, -, X', ⟨L, hq, e1, e2, e3⟩, stp⟩ := (exact' X (Nat.le_of_eq hz)).virtualBack C'.1 (y := y') (z := z') C'.2.2.2.2.1 (mvT C'.2.1 w1) (mvT C'.2.1 w2) (hnf s C'.2.1) (mvT C'.2.1 w5) (mvT C'.2.1 w6) hy (mkBack (W := (st.map fun v => v.category).sum) hC P C'.2.1 w4 w3 hfr hlo) qa qc (g := mkF m pc Ls (argsL.reverse ++ .ref a :: st)) rfl (hml.trans C'.2.2.2.1.symm) (Steps.refl _) (argsL := argsL) (rest := st) hlen rfl (by show 2 * 0 + _ ≤ _; omega) (hb C'.2.2.1 hd) (fun _ _ => ⟨rfl, rfl, by show T.heap.size - s.heap.size + _ ≤ _; omega, by show slots + _ ≤ _; omega⟩)
  dsimp only [Pt.U, Pt.locs, Pt.cells, Pt.slots] at X' e1 e2 e3 stp hq
  subst e1 e2 e3
  obtain ⟨H', q1, q2, q3⟩ := hq
  obtain ⟨U, o, h1, h2⟩ := hr v H' q1 p e s m args below meth c C' U' _ _ _ X' (Fr.app N q3) q2 (by omega)
  exact ⟨U, o, stp.trans h1, h2⟩
/-- through a subclass's name: the class 'owner' declares it -/
theorem callU {a : Addr} {C owner : String} (hd : decode bytes pc = .ok (.invokevirtual index, 3)) (w1 : (Jvm.Cond.methodLink y.cls index y').before a0 Z = true) (w7 : (Jvm.Cond.sameMethod y'.cls owner y'.name y'.desc).before a0 Z = true) (w2 : (Jvm.Cond.declares ⟨owner, y'.name, y'.desc⟩).before a0 Z = true) (w5 : (Jvm.Cond.selects C y' z').before a0 Z = true) (w6 : (Jvm.Cond.instanceMethod z').before a0 Z = true) (w3 : (Jvm.Cond.initialized z'.cls).before a0 Z = true) (w4 : (Jvm.Cond.code z' bytes' ml' ret').before a0 Z = true) (hy : owner ≠ "java/lang/invoke/MethodHandle" ∧ owner ≠ "java/lang/invoke/VarHandle") (hlen : ∀ sig, parseMethodDescriptor y'.desc = some sig → argsL.length = sig.parameters.length)
    (E : ∀ h, Hp Z hB h H → Exa Z h a C) (hC : Ctr l Z hB z' bytes' ml' ret' [] rm (.ref a :: argsL).toArray H Q') (hml : Ls.size = ml) (hfr : rm.frames + 1 ≤ R.frames) (hlo : (st.map fun v => v.category).sum + (ml' + 11) + rm.locals ≤ R.locals) (hcl : H.length + rm.cells ≤ n1 + R.cells) (hsl : sl + rm.slots ≤ R.slots) (hst : argsL.reverse ++ .ref a :: st = st0) (hp : pc + 3 = pc')
    (hr : ∀ v H', Q' v H' → WP l Z hB y bytes ml ret R n1 Q (sl + rm.slots) H' pc' Ls (v.toList ++ st)) : WP l Z hB y bytes ml ret R n1 Q sl H pc Ls st0 := by
  subst hp; subst hst
  intro p e s m args below meth c C' T locs cells slots X N P hs
  have hsz := C'.2.2.2.2.2.2.2.2
  have hp1 := P.1
  have hz : T.heap.size = s.heap.size + (T.heap.size - s.heap.size) := by have := X.same.2.1; have : s.heap.size ≤ T.heap.size := this; omega
  obtain ⟨cq, kq, qa, qb, qc⟩ := isOf (s := s) (T := T) C'.2.1 rfl (E _ P)
  obtain ⟨v, vm1, ⟨U', ls, cc, ss⟩, -, X', ⟨L, hq, e1, e2, e3⟩, stp⟩ := (exact' X (Nat.le_of_eq hz)).virtualBackUp C'.1 (x := y') (y := z') C'.2.2.2.2.1 (mvT C'.2.1 w1) (mvT C'.2.1 w7) (mvT C'.2.1 w2) hy (mvT C'.2.1 w5) (mvT C'.2.1 w6) (mkBack (W := (st.map fun v => v.category).sum) hC P C'.2.1 w4 w3 hfr hlo) qa qc (g := mkF m pc Ls (argsL.reverse ++ .ref a :: st)) rfl (hml.trans C'.2.2.2.1.symm) (Steps.refl _) (argsL := argsL) (rest := st) hlen rfl (by show 2 * 0 + _ ≤ _; omega) (hb C'.2.2.1 hd) (fun _ _ => ⟨rfl, rfl, by show T.heap.size - s.heap.size + _ ≤ _; omega, by show slots + _ ≤ _; omega⟩)
  dsimp only [Pt.U, Pt.locs, Pt.cells, Pt.slots] at X' e1 e2 e3 stp hq
  subst e1 e2 e3
  obtain ⟨H', q1, q2, q3⟩ := hq
  obtain ⟨U, o, h1, h2⟩ := hr v H' q1 p e s m args below meth c C' U' _ _ _ X' (Fr.app N q3) q2 (by omega)
  exact ⟨U, o, stp.trans h1, h2⟩
/-- a private method, by invokevirtual -/
theorem callP {a : Addr} {C : String} (hd : decode bytes pc = .ok (.invokevirtual index, 3)) (w1 : (Jvm.Cond.methodLink y.cls index y').before a0 Z = true) (w6 : (Jvm.Cond.instanceMethod y').before a0 Z = true) (w5 : (Jvm.Cond.selects y'.cls y' y').before a0 Z = true) (w8 : (Jvm.Cond.privateMethod y').before a0 Z = true) (w3 : (Jvm.Cond.initialized y'.cls).before a0 Z = true) (w4 : (Jvm.Cond.code y' bytes' ml' ret').before a0 Z = true) (hy : y'.cls ≠ "java/lang/invoke/MethodHandle" ∧ y'.cls ≠ "java/lang/invoke/VarHandle") (hlen : ∀ sig, parseMethodDescriptor y'.desc = some sig → argsL.length = sig.parameters.length)
    (E : ∀ h, Hp Z hB h H → Exa Z h a C) (hC : Ctr l Z hB y' bytes' ml' ret' [] rm (.ref a :: argsL).toArray H Q') (hml : Ls.size = ml) (hfr : rm.frames + 1 ≤ R.frames) (hlo : (st.map fun v => v.category).sum + (ml' + 11) + rm.locals ≤ R.locals) (hcl : H.length + rm.cells ≤ n1 + R.cells) (hsl : sl + rm.slots ≤ R.slots) (hst : argsL.reverse ++ .ref a :: st = st0) (hp : pc + 3 = pc')
    (hr : ∀ v H', Q' v H' → WP l Z hB y bytes ml ret R n1 Q (sl + rm.slots) H' pc' Ls (v.toList ++ st)) : WP l Z hB y bytes ml ret R n1 Q sl H pc Ls st0 := by
  subst hp; subst hst
  intro p e s m args below meth c C' T locs cells slots X N P hs
  have hsz := C'.2.2.2.2.2.2.2.2
  have hp1 := P.1
  have hz : T.heap.size = s.heap.size + (T.heap.size - s.heap.size) := by have := X.same.2.1; have : s.heap.size ≤ T.heap.size := this; omega
  obtain ⟨cq, qa, qb⟩ := (E _ P).cell
  obtain ⟨v, vm1, ⟨U', ls, cc, ss⟩, -, X', ⟨L, hq, e1, e2, e3⟩, stp⟩ := (exact' X (Nat.le_of_eq hz)).privateBack C'.1 (y := y') C'.2.2.2.2.1 (mvT C'.2.1 w1) (mvT C'.2.1 w6) (mvT C'.2.1 w5) (Cond.privateMethod_at (mvP C'.2.1 w8 (args := #[]))) (mvT C'.2.1 w4) hy (mkBack (W := (st.map fun v => v.category).sum) hC P C'.2.1 w4 w3 hfr hlo) (g := mkF m pc Ls (argsL.reverse ++ .ref a :: st)) rfl (hml.trans C'.2.2.2.1.symm) (Steps.refl _) (a := a) qa qb (argsL := argsL) (rest := st) hlen rfl (by show 2 * 0 + _ ≤ _; omega) (hb C'.2.2.1 hd) (fun _ _ => ⟨rfl, rfl, by show T.heap.size - s.heap.size + _ ≤ _; omega, by show slots + _ ≤ _; omega⟩)
  dsimp only [Pt.U, Pt.locs, Pt.cells, Pt.slots] at X' e1 e2 e3 stp hq
  subst e1 e2 e3
  obtain ⟨H', q1, q2, q3⟩ := hq
  obtain ⟨U, o, h1, h2⟩ := hr v H' q1 p e s m args below meth c C' U' _ _ _ X' (Fr.app N q3) q2 (by omega)
  exact ⟨U, o, stp.trans h1, h2⟩
theorem callF {a : Addr} {C : String} {count : Nat} (hfa : (Jvm.Cond.interfaceMethod y'.cls y'.cls y'.name y'.desc).faceAtom = true) (hd : decode bytes pc = .ok (.invokeinterface index count, 5)) (w1 : (Jvm.Cond.methodLink y.cls index y').before a0 Z = true) (w2 : (Jvm.Cond.declares y').before a0 Z = true) (wf : (Jvm.Cond.interfaceMethod y'.cls y'.cls y'.name y'.desc).before a0 Z = true) (w5 : (Jvm.Cond.selects C y' z').before a0 Z = true) (w6 : (Jvm.Cond.instanceMethod z').before a0 Z = true) (wp : (Jvm.Cond.publicMethod z').before a0 Z = true) (wu : (Jvm.Cond.unhidden C y'.name y'.desc).before a0 Z = true) (wc : (Jvm.Cond.castable C y'.cls).before a0 Z = true) (w3 : (Jvm.Cond.initialized z'.cls).before a0 Z = true) (w4 : (Jvm.Cond.code z' bytes' ml' ret').before a0 Z = true) (hy : y'.cls ≠ "java/lang/invoke/MethodHandle" ∧ y'.cls ≠ "java/lang/invoke/VarHandle") (hlen : ∀ sig, parseMethodDescriptor y'.desc = some sig → argsL.length = sig.parameters.length)
    (E : ∀ h, Hp Z hB h H → Exa Z h a C) (hC : Ctr l Z hB z' bytes' ml' ret' [] rm (.ref a :: argsL).toArray H Q') (hml : Ls.size = ml) (hfr : rm.frames + 1 ≤ R.frames) (hlo : (st.map fun v => v.category).sum + (ml' + 11) + rm.locals ≤ R.locals) (hcl : H.length + rm.cells ≤ n1 + R.cells) (hsl : sl + rm.slots ≤ R.slots) (hst : argsL.reverse ++ .ref a :: st = st0) (hp : pc + 5 = pc')
    (hr : ∀ v H', Q' v H' → WP l Z hB y bytes ml ret R n1 Q (sl + rm.slots) H' pc' Ls (v.toList ++ st)) : WP l Z hB y bytes ml ret R n1 Q sl H pc Ls st0 := by
  subst hp; subst hst
  intro p e s m args below meth c C' T locs cells slots X N P hs
  have hsz := C'.2.2.2.2.2.2.2.2
  have hp1 := P.1
  have hz : T.heap.size = s.heap.size + (T.heap.size - s.heap.size) := by have := X.same.2.1; have : s.heap.size ≤ T.heap.size := this; omega
  obtain ⟨cq, kq, qa, qb, qc⟩ := isOf (s := s) (T := T) C'.2.1 rfl (E _ P)
  obtain ⟨v, vm1, ⟨U', ls, cc, ss⟩, -, X', ⟨L, hq, e1, e2, e3⟩, stp⟩ := (exact' X (Nat.le_of_eq hz)).interfaceBack C'.1 (xi := y') (y := z') C'.2.2.2.2.1 (mvT C'.2.1 w1) (mvT C'.2.1 w2) (mvT C'.2.1 wf (by simp [Cond.onTables, Cond.keepsFace, Cond.keeps, Cond.steady, hfa])) (mvT C'.2.1 w5) (mvT C'.2.1 w6) (mvT C'.2.1 wp) (mvT C'.2.1 wu) (mvT C'.2.1 wc) hy (mkBack (W := (st.map fun v => v.category).sum) hC P C'.2.1 w4 w3 hfr hlo) qa qb qc (g := mkF m pc Ls (argsL.reverse ++ .ref a :: st)) rfl (hml.trans C'.2.2.2.1.symm) (Steps.refl _) (argsL := argsL) (rest := st) hlen rfl (by show 2 * 0 + _ ≤ _; omega) (hb C'.2.2.1 hd) (fun _ _ => ⟨rfl, rfl, by show T.heap.size - s.heap.size + _ ≤ _; omega, by show slots + _ ≤ _; omega⟩)
  dsimp only [Pt.U, Pt.locs, Pt.cells, Pt.slots] at X' e1 e2 e3 stp hq
  subst e1 e2 e3
  obtain ⟨H', q1, q2, q3⟩ := hq
  obtain ⟨U, o, h1, h2⟩ := hr v H' q1 p e s m args below meth c C' U' _ _ _ X' (Fr.app N q3) q2 (by omega)
  exact ⟨U, o, stp.trans h1, h2⟩
end Calls
theorem gsE {H : List Rec} {i : Nat} {r r' : Rec} (h : H[i]? = some r) : (H.set i r')[i]? = some r' := by
  have := (List.getElem?_eq_some_iff.mp h).1
  simp [List.getElem?_set, this]
theorem gsN {H : List Rec} {i j : Nat} {r r' : Rec} (hn : j ≠ i) (h : H[i]? = some r) : (H.set j r')[i]? = some r := by rw [List.getElem?_set_ne hn]; exact h
theorem gaL {H : List Rec} {i : Nat} {r r' : Rec} (h : H[i]? = some r) : (H ++ [r'])[i]? = some r := by
  have := (List.getElem?_eq_some_iff.mp h).1
  rw [List.getElem?_append_left this]; exact h
theorem gaR {H : List Rec} {i : Nat} {r : Rec} (h : H.length = i) : (H ++ [r])[i]? = some r := by subst h; simp
theorem saR {H : List Rec} {a b : Rec} : (H ++ [a]).set H.length b = H ++ [b] := by simp
theorem distK {C : String} {ks : List Key} (hl : ∀ (i : Nat) (k : Key), ks[i]? = some k → Laid Z a0 C k.1 k.2.1 k.2.2) (hn : (ks.map fun k => k.2.1).Nodup) (hd : (ks.all fun k => (parseFieldDescriptor k.2.2).isSome) = true) : ∀ (i j : Nat) (k k' : Key), ks[i]? = some k → ks[j]? = some k' → i ≠ j → kslot Z k ≠ kslot Z k' := by
  intro i j k k' h1 h2 hne
  obtain ⟨l1, g1⟩ := List.getElem?_eq_some_iff.mp h1
  obtain ⟨l2, g2⟩ := List.getElem?_eq_some_iff.mp h2
  have p1 := List.all_eq_true.mp hd k (List.mem_of_getElem? h1)
  have p2 := List.all_eq_true.mp hd k' (List.mem_of_getElem? h2)
  obtain ⟨t1, q1⟩ := Option.isSome_iff_exists.mp p1
  obtain ⟨t2, q2⟩ := Option.isSome_iff_exists.mp p2
  refine slot_ne (hl i k h1) (hl j k' h2) (fun e => hne ?_) q1 q2
  have hp := List.pairwise_iff_getElem.mp hn
  rcases Nat.lt_trichotomy i j with z | z | z
  · exact (hp i j (by simpa using l1) (by simpa using l2) z (by rw [List.getElem_map, List.getElem_map, g1, g2, e])).elim
  · exact z
  · exact (hp j i (by simpa using l2) (by simpa using l1) z (by rw [List.getElem_map, List.getElem_map, g1, g2, e])).elim
end Walk
section Start
variable {args : Array Value} {Z : State}
theorem exaOf {t : Term} {C : String} (h : (Jvm.Cond.exactly t C).value args Z none Z [] = some true) : ∃ a, t.eval args Z none [] Z = some (.ref a) ∧ Exa Z Z.heap a C := by
  obtain ⟨a, ha⟩ := exa_v h
  exact ⟨a, ha, Exa.start ha h⟩
theorem fldInt {t : Term} {C n d : String} {a : Addr} {k : Int32} (ha : t.eval args Z none [] Z = some (.ref a)) (h : (Jvm.Cond.eq (.field t C n d) (.int k)).value args Z none Z [] = some true) : Fld Z Z.heap a C n d (.int k) := by
  have e : (Term.field t C n d).eval args Z none [] Z = Z.fieldOf? a C n d := fld_at ha
  cases hf : Z.fieldOf? a C n d with
  | none => simp [Cond.value, e, hf] at h
  | some v =>
    have q : v = .int k := by cases v <;> simp [Cond.value, e, hf] at h <;> simp [Term.eval] at h; rw [h]
    exact q ▸ Fld.start hf
theorem subF {first s : State} {o : Option Outcome} {idx : List Nat} {a b : Term} {x y : Int32} (ha : a.eval args first o idx s = some (.int x)) (hb : b.eval args first o idx s = some (.int y)) : (Term.sub a b).eval args first o idx s = some (.int (x - y)) := by simp [Term.eval, ha, hb]
theorem lenOfT {t : Term} {a : Addr} {cl : Cell} {k : Int32} (ht : t.eval args Z none [] Z = some (.ref a)) (ha : Z.arrayAt? a = some cl) (h : (Jvm.Cond.eq (.length t) (.int k)).value args Z none Z [] = some true) : cl.slots.size < 2 ^ 31 ∧ cl.slots.size.toInt32 = k := by
  have e := eqv_i (show (Term.int k).eval args Z none [] Z = some (.int k) from rfl) h
  by_cases hl : cl.slots.size < 2 ^ 31
  · exact ⟨hl, Value.int.inj (Option.some.inj ((len_f ht ha hl).symm.trans e))⟩
  · simp [Term.eval, ht, ha] at e; omega
theorem elemI {t : Term} {a : Addr} {cl : Cell} {j k : Int32} (ht : t.eval args Z none [] Z = some (.ref a)) (ha : Z.arrayAt? a = some cl) (hj : ¬ j < 0) (h : (Jvm.Cond.eq (.elem t (.int j)) (.int k)).value args Z none Z [] = some true) : cl.slots[j.toNatClampNeg]? = some (.int k) :=
  (elem_f (a := .int j) ht (show (Term.int j).eval args Z none [] Z = some (.int j) from rfl) ha hj).symm.trans (eqv_i (show (Term.int k).eval args Z none [] Z = some (.int k) from rfl) h)
theorem nsRoot {a0 : Array Value} {O K : String} {n : Nat} (w : (Jvm.Cond.noSuperclass O).before a0 Z = true) (wi : (Jvm.Cond.instantiable K n).before a0 Z = true) (hn : O ≠ K) : NS Z O K := by
  obtain ⟨c, k, h1, h2, h3, -, -⟩ := Cond.noSuperclass_spec w
  obtain ⟨t, kt, g1, -⟩ := Cond.instantiable_spec wi
  have ne := ids_ne h1 g1 hn
  refine ⟨c, t, h1, g1, fun fuel => ?_⟩
  cases fuel with
  | zero => rfl
  | succ f => simp [Vm.isSubclassAux, ne, h2, h3]
theorem nsNo {a0 : Array Value} {C S K : String} {n : Nat} (w : (Jvm.Cond.superclass C S).before a0 Z = true) (wi : (Jvm.Cond.instantiable K n).before a0 Z = true) (q : NS Z C K) (hn : C ≠ K) : ∃ c t, Z.vm.findClass C = some c ∧ Z.vm.findClass K = some t ∧ Z.vm.assignable c t = false := by
  obtain ⟨c, t, h0, g0, n3⟩ := q
  obtain ⟨p, k, kp, h1, h2, h3, h4, h5, -, h7⟩ := Cond.superclass_spec h0 w
  obtain ⟨t', kt, g1, g2, g3, g4, -⟩ := Cond.instantiable_spec wi
  cases g0.symm.trans g1
  have ne := ids_ne h0 g0 hn
  simp only [Bool.or_eq_false_iff] at g4
  refine ⟨c, t, h0, g0, ?_⟩
  show Z.vm.assignableAux (255 + 1) c t = false
  simp [Vm.assignableAux, ne, h2, g2, h5, g3, g4.1, Vm.isSubclass, n3]
end Start
end Jvm.Wk
namespace Jvm.Pilot.@@N@@
open Jvm Jvm.ClassFile Sem Op Lib Jvm.Free Jvm.Stand Jvm.LawKit Jvm.RoadKit Bundle Jvm.Pilot.@@N@@.Jvm.D
open Jvm.Wk (obj arr ints longs rf Rec Key kslot RecAt Hp WP Ctr gsE gsN gaL gaR distK)
theorem pn_0 : plainName "com/example/particlade/particlade/NucleotidesMaskPinLaw" = true := by first | (simp [plainName, overriddenIn]; done) | decide +kernel
theorem pn_1 : plainName "com/example/particlade/particlade/Nucleotides" = true := by first | (simp [plainName, overriddenIn]; done) | decide +kernel
theorem pd_0 : parseMethodDescriptor "(C)I" = some ⟨[.char], some .int⟩ := by decide +kernel
theorem d0_0 : decode prog_21_method_2_code 0 = .ok (.iload_n 0, 1) := by decide +kernel
theorem d0_1 : decode prog_21_method_2_code 1 = .ok (.getstatic 7, 3) := by decide +kernel
theorem d0_4 : decode prog_21_method_2_code 4 = .ok (.arraylength, 1) := by decide +kernel
theorem d0_5 : decode prog_21_method_2_code 5 = .ok (.if_icmp .ge 11, 3) := by decide +kernel
theorem d0_8 : decode prog_21_method_2_code 8 = .ok (.getstatic 7, 3) := by decide +kernel
theorem d0_11 : decode prog_21_method_2_code 11 = .ok (.iload_n 0, 1) := by decide +kernel
theorem d0_12 : decode prog_21_method_2_code 12 = .ok (.baload, 1) := by decide +kernel
theorem d0_13 : decode prog_21_method_2_code 13 = .ok (.goto 4, 3) := by decide +kernel
theorem d0_16 : decode prog_21_method_2_code 16 = .ok (.iconst 0, 1) := by decide +kernel
theorem d0_17 : decode prog_21_method_2_code 17 = .ok (.ireturn, 1) := by decide +kernel
theorem d1_0 : decode method_3_code 0 = .ok (.iload_n 0, 1) := by decide +kernel
theorem d1_1 : decode method_3_code 1 = .ok (.istore_n 1, 1) := by decide +kernel
theorem d1_2 : decode method_3_code 2 = .ok (.iload_n 0, 1) := by decide +kernel
theorem d1_3 : decode method_3_code 3 = .ok (.bipush 97, 2) := by decide +kernel
theorem d1_5 : decode method_3_code 5 = .ok (.if_icmp .lt 14, 3) := by decide +kernel
theorem d1_8 : decode method_3_code 8 = .ok (.iload_n 0, 1) := by decide +kernel
theorem d1_9 : decode method_3_code 9 = .ok (.bipush 122, 2) := by decide +kernel
theorem d1_11 : decode method_3_code 11 = .ok (.if_icmp .gt 8, 3) := by decide +kernel
theorem d1_14 : decode method_3_code 14 = .ok (.iload_n 0, 1) := by decide +kernel
theorem d1_15 : decode method_3_code 15 = .ok (.bipush 32, 2) := by decide +kernel
theorem d1_17 : decode method_3_code 17 = .ok (.isub, 1) := by decide +kernel
theorem d1_18 : decode method_3_code 18 = .ok (.istore_n 1, 1) := by decide +kernel
theorem d1_19 : decode method_3_code 19 = .ok (.iload_n 1, 1) := by decide +kernel
theorem d1_20 : decode method_3_code 20 = .ok (.bipush 65, 2) := by decide +kernel
theorem d1_22 : decode method_3_code 22 = .ok (.if_icmp .ne 5, 3) := by decide +kernel
theorem d1_25 : decode method_3_code 25 = .ok (.iconst 1, 1) := by decide +kernel
theorem d1_26 : decode method_3_code 26 = .ok (.ireturn, 1) := by decide +kernel
theorem d1_27 : decode method_3_code 27 = .ok (.iload_n 1, 1) := by decide +kernel
theorem d1_28 : decode method_3_code 28 = .ok (.bipush 67, 2) := by decide +kernel
theorem d1_30 : decode method_3_code 30 = .ok (.if_icmp .ne 5, 3) := by decide +kernel
theorem d1_33 : decode method_3_code 33 = .ok (.iconst 2, 1) := by decide +kernel
theorem d1_34 : decode method_3_code 34 = .ok (.ireturn, 1) := by decide +kernel
theorem d1_35 : decode method_3_code 35 = .ok (.iload_n 1, 1) := by decide +kernel
theorem d1_36 : decode method_3_code 36 = .ok (.bipush 71, 2) := by decide +kernel
theorem d1_38 : decode method_3_code 38 = .ok (.if_icmp .ne 5, 3) := by decide +kernel
theorem d1_41 : decode method_3_code 41 = .ok (.iconst 4, 1) := by decide +kernel
theorem d1_42 : decode method_3_code 42 = .ok (.ireturn, 1) := by decide +kernel
theorem d1_43 : decode method_3_code 43 = .ok (.iload_n 1, 1) := by decide +kernel
theorem d1_44 : decode method_3_code 44 = .ok (.bipush 84, 2) := by decide +kernel
theorem d1_46 : decode method_3_code 46 = .ok (.if_icmp .ne 6, 3) := by decide +kernel
theorem d1_49 : decode method_3_code 49 = .ok (.bipush 8, 2) := by decide +kernel
theorem d1_51 : decode method_3_code 51 = .ok (.ireturn, 1) := by decide +kernel
theorem d1_52 : decode method_3_code 52 = .ok (.iload_n 1, 1) := by decide +kernel
theorem d1_53 : decode method_3_code 53 = .ok (.bipush 85, 2) := by decide +kernel
theorem d1_55 : decode method_3_code 55 = .ok (.if_icmp .ne 6, 3) := by decide +kernel
theorem d1_58 : decode method_3_code 58 = .ok (.bipush 8, 2) := by decide +kernel
theorem d1_60 : decode method_3_code 60 = .ok (.ireturn, 1) := by decide +kernel
theorem d1_61 : decode method_3_code 61 = .ok (.iload_n 1, 1) := by decide +kernel
theorem d1_62 : decode method_3_code 62 = .ok (.bipush 82, 2) := by decide +kernel
theorem d1_64 : decode method_3_code 64 = .ok (.if_icmp .ne 5, 3) := by decide +kernel
theorem d1_67 : decode method_3_code 67 = .ok (.iconst 5, 1) := by decide +kernel
theorem d1_68 : decode method_3_code 68 = .ok (.ireturn, 1) := by decide +kernel
theorem d1_69 : decode method_3_code 69 = .ok (.iload_n 1, 1) := by decide +kernel
theorem d1_70 : decode method_3_code 70 = .ok (.bipush 89, 2) := by decide +kernel
theorem d1_72 : decode method_3_code 72 = .ok (.if_icmp .ne 6, 3) := by decide +kernel
theorem d1_75 : decode method_3_code 75 = .ok (.bipush 10, 2) := by decide +kernel
theorem d1_77 : decode method_3_code 77 = .ok (.ireturn, 1) := by decide +kernel
theorem d1_78 : decode method_3_code 78 = .ok (.iload_n 1, 1) := by decide +kernel
theorem d1_79 : decode method_3_code 79 = .ok (.bipush 83, 2) := by decide +kernel
theorem d1_81 : decode method_3_code 81 = .ok (.if_icmp .ne 6, 3) := by decide +kernel
theorem d1_84 : decode method_3_code 84 = .ok (.bipush 6, 2) := by decide +kernel
theorem d1_86 : decode method_3_code 86 = .ok (.ireturn, 1) := by decide +kernel
theorem d1_87 : decode method_3_code 87 = .ok (.iload_n 1, 1) := by decide +kernel
theorem d1_88 : decode method_3_code 88 = .ok (.bipush 87, 2) := by decide +kernel
theorem d1_90 : decode method_3_code 90 = .ok (.if_icmp .ne 6, 3) := by decide +kernel
theorem d1_93 : decode method_3_code 93 = .ok (.bipush 9, 2) := by decide +kernel
theorem d1_95 : decode method_3_code 95 = .ok (.ireturn, 1) := by decide +kernel
theorem d1_96 : decode method_3_code 96 = .ok (.iload_n 1, 1) := by decide +kernel
theorem d1_97 : decode method_3_code 97 = .ok (.bipush 75, 2) := by decide +kernel
theorem d1_99 : decode method_3_code 99 = .ok (.if_icmp .ne 6, 3) := by decide +kernel
theorem d1_102 : decode method_3_code 102 = .ok (.bipush 12, 2) := by decide +kernel
theorem d1_104 : decode method_3_code 104 = .ok (.ireturn, 1) := by decide +kernel
theorem d1_105 : decode method_3_code 105 = .ok (.iload_n 1, 1) := by decide +kernel
theorem d1_106 : decode method_3_code 106 = .ok (.bipush 77, 2) := by decide +kernel
theorem d1_108 : decode method_3_code 108 = .ok (.if_icmp .ne 5, 3) := by decide +kernel
theorem d1_111 : decode method_3_code 111 = .ok (.iconst 3, 1) := by decide +kernel
theorem d1_112 : decode method_3_code 112 = .ok (.ireturn, 1) := by decide +kernel
theorem d1_113 : decode method_3_code 113 = .ok (.iload_n 1, 1) := by decide +kernel
theorem d1_114 : decode method_3_code 114 = .ok (.bipush 66, 2) := by decide +kernel
theorem d1_116 : decode method_3_code 116 = .ok (.if_icmp .ne 6, 3) := by decide +kernel
theorem d1_119 : decode method_3_code 119 = .ok (.bipush 14, 2) := by decide +kernel
theorem d1_121 : decode method_3_code 121 = .ok (.ireturn, 1) := by decide +kernel
theorem d1_122 : decode method_3_code 122 = .ok (.iload_n 1, 1) := by decide +kernel
theorem d1_123 : decode method_3_code 123 = .ok (.bipush 68, 2) := by decide +kernel
theorem d1_125 : decode method_3_code 125 = .ok (.if_icmp .ne 6, 3) := by decide +kernel
theorem d1_128 : decode method_3_code 128 = .ok (.bipush 13, 2) := by decide +kernel
theorem d1_130 : decode method_3_code 130 = .ok (.ireturn, 1) := by decide +kernel
theorem d1_131 : decode method_3_code 131 = .ok (.iload_n 1, 1) := by decide +kernel
theorem d1_132 : decode method_3_code 132 = .ok (.bipush 72, 2) := by decide +kernel
theorem d1_134 : decode method_3_code 134 = .ok (.if_icmp .ne 6, 3) := by decide +kernel
theorem d1_137 : decode method_3_code 137 = .ok (.bipush 11, 2) := by decide +kernel
theorem d1_139 : decode method_3_code 139 = .ok (.ireturn, 1) := by decide +kernel
theorem d1_140 : decode method_3_code 140 = .ok (.iload_n 1, 1) := by decide +kernel
theorem d1_141 : decode method_3_code 141 = .ok (.bipush 86, 2) := by decide +kernel
theorem d1_143 : decode method_3_code 143 = .ok (.if_icmp .ne 6, 3) := by decide +kernel
theorem d1_146 : decode method_3_code 146 = .ok (.bipush 7, 2) := by decide +kernel
theorem d1_148 : decode method_3_code 148 = .ok (.ireturn, 1) := by decide +kernel
theorem d1_149 : decode method_3_code 149 = .ok (.iload_n 1, 1) := by decide +kernel
theorem d1_150 : decode method_3_code 150 = .ok (.bipush 78, 2) := by decide +kernel
theorem d1_152 : decode method_3_code 152 = .ok (.if_icmp .ne 6, 3) := by decide +kernel
theorem d1_155 : decode method_3_code 155 = .ok (.bipush 15, 2) := by decide +kernel
theorem d1_157 : decode method_3_code 157 = .ok (.ireturn, 1) := by decide +kernel
theorem d1_158 : decode method_3_code 158 = .ok (.iload_n 1, 1) := by decide +kernel
theorem d1_159 : decode method_3_code 159 = .ok (.bipush 45, 2) := by decide +kernel
theorem d1_161 : decode method_3_code 161 = .ok (.if_icmp .ne 6, 3) := by decide +kernel
theorem d1_164 : decode method_3_code 164 = .ok (.bipush 15, 2) := by decide +kernel
theorem d1_166 : decode method_3_code 166 = .ok (.ireturn, 1) := by decide +kernel
theorem d1_167 : decode method_3_code 167 = .ok (.iload_n 1, 1) := by decide +kernel
theorem d1_168 : decode method_3_code 168 = .ok (.bipush 63, 2) := by decide +kernel
theorem d1_170 : decode method_3_code 170 = .ok (.if_icmp .ne 6, 3) := by decide +kernel
theorem d1_173 : decode method_3_code 173 = .ok (.bipush 15, 2) := by decide +kernel
theorem d1_175 : decode method_3_code 175 = .ok (.ireturn, 1) := by decide +kernel
theorem d1_176 : decode method_3_code 176 = .ok (.iconst 0, 1) := by decide +kernel
theorem d1_177 : decode method_3_code 177 = .ok (.ireturn, 1) := by decide +kernel
theorem wd0 {a0 : Array Value} {Z : State} (hw : ∀ d ∈ tables_1, d.before a0 Z = true) : ((Jvm.Cond.methodLink "com/example/particlade/particlade/NucleotidesMaskPinLaw" (7 : Nat) ({ cls := "com/example/particlade/particlade/Nucleotides", name := "mask", desc := "(C)I" } : Jvm.MethodName)) : Jvm.Cond).before a0 Z = true := hw _ (List.mem_of_getElem? (i := 0) rfl)
theorem wd1 {a0 : Array Value} {Z : State} (hw : ∀ d ∈ tables_1, d.before a0 Z = true) : ((Jvm.Cond.static ({ cls := "com/example/particlade/particlade/Nucleotides", name := "mask", desc := "(C)I" } : Jvm.MethodName)) : Jvm.Cond).before a0 Z = true := hw _ (List.mem_of_getElem? (i := 1) rfl)
theorem wd2 {a0 : Array Value} {Z : State} (hw : ∀ d ∈ tables_1, d.before a0 Z = true) : ((Jvm.Cond.initialized "com/example/particlade/particlade/Nucleotides") : Jvm.Cond).before a0 Z = true := hw _ (List.mem_of_getElem? (i := 2) rfl)
theorem wd3 {a0 : Array Value} {Z : State} (hw : ∀ d ∈ tables_1, d.before a0 Z = true) : ((Jvm.Cond.code ({ cls := "com/example/particlade/particlade/Nucleotides", name := "mask", desc := "(C)I" } : Jvm.MethodName) prog_21_method_2_code (1 : Nat) (Option.some Jvm.ClassFile.FieldType.int)) : Jvm.Cond).before a0 Z = true := hw _ (List.mem_of_getElem? (i := 3) rfl)
theorem wd4 {a0 : Array Value} {Z : State} (hw : ∀ d ∈ tables_1, d.before a0 Z = true) : ((Jvm.Cond.fieldLink "com/example/particlade/particlade/Nucleotides" (7 : Nat) "com/example/particlade/particlade/Nucleotides" "MASKS" "[B") : Jvm.Cond).before a0 Z = true := hw _ (List.mem_of_getElem? (i := 4) rfl)
theorem wd5 {a0 : Array Value} {Z : State} (hw : ∀ d ∈ tables_1, d.before a0 Z = true) : ((Jvm.Cond.laysStatic "com/example/particlade/particlade/Nucleotides" "MASKS" "[B") : Jvm.Cond).before a0 Z = true := hw _ (List.mem_of_getElem? (i := 5) rfl)
theorem wd6 {a0 : Array Value} {Z : State} (hw : ∀ d ∈ tables_1, d.before a0 Z = true) : ((Jvm.Cond.methodLink "com/example/particlade/particlade/NucleotidesMaskPinLaw" (13 : Nat) ({ cls := "com/example/particlade/particlade/NucleotidesMaskPinLaw", name := "expected", desc := "(C)I" } : Jvm.MethodName)) : Jvm.Cond).before a0 Z = true := hw _ (List.mem_of_getElem? (i := 6) rfl)
theorem wd7 {a0 : Array Value} {Z : State} (hw : ∀ d ∈ tables_1, d.before a0 Z = true) : ((Jvm.Cond.static ({ cls := "com/example/particlade/particlade/NucleotidesMaskPinLaw", name := "expected", desc := "(C)I" } : Jvm.MethodName)) : Jvm.Cond).before a0 Z = true := hw _ (List.mem_of_getElem? (i := 7) rfl)
theorem wd8 {a0 : Array Value} {Z : State} (hw : ∀ d ∈ tables_1, d.before a0 Z = true) : ((Jvm.Cond.initialized "com/example/particlade/particlade/NucleotidesMaskPinLaw") : Jvm.Cond).before a0 Z = true := hw _ (List.mem_of_getElem? (i := 8) rfl)
theorem wd9 {a0 : Array Value} {Z : State} (hw : ∀ d ∈ tables_1, d.before a0 Z = true) : ((Jvm.Cond.code ({ cls := "com/example/particlade/particlade/NucleotidesMaskPinLaw", name := "expected", desc := "(C)I" } : Jvm.MethodName) method_3_code (2 : Nat) (Option.some Jvm.ClassFile.FieldType.int)) : Jvm.Cond).before a0 Z = true := hw _ (List.mem_of_getElem? (i := 9) rfl)
def expG (u : Int32) : Int32 := if u = 65 then 1 else if u = 67 then 2 else if u = 71 then 4 else if u = 84 then 8 else if u = 85 then 8 else if u = 82 then 5 else if u = 89 then 10 else if u = 83 then 6 else if u = 87 then 9 else if u = 75 then 12 else if u = 77 then 3 else if u = 66 then 14 else if u = 68 then 13 else if u = 72 then 11 else if u = 86 then 7 else if u = 78 then 15 else if u = 45 then 15 else if u = 63 then 15 else 0
def expF (c : Int32) : Int32 := if c < 97 then expG c else if 122 < c then expG c else expG (c - 32)
set_option maxRecDepth 65536 in
set_option maxHeartbeats 40000000 in
theorem m_exp2 (l : Launch) (Z : State) (hB : Heap) (H : List Rec) (c u : Int32) : WP l Z hB ({ cls := "com/example/particlade/particlade/NucleotidesMaskPinLaw", name := "expected", desc := "(C)I" } : Jvm.MethodName) method_3_code 2 (some .int) ({ frames := 0, cells := 0, slots := 0, locals := 0 } : Room) H.length (fun v H' => v = some (.int (expG u)) ∧ H' = H) 0 H 19 #[.val (.int c), .val (.int u)] [] := by
  refine Wk.iloadN (pc' := 20) d1_19 rfl rfl ?_
  refine Wk.bipush (pc' := 22) (65 : Int32) d1_20 (by decide) rfl ?_
  by_cases hc1 : u = (65 : Int32)
  ·
    refine Wk.icN (pc' := 25) d1_22 (XT.ii_ne_f hc1) rfl ?_
    refine Wk.iconst (pc' := 26) (1 : Int32) d1_25 (by decide) rfl ?_
    exact Wk.iret (t := .int) d1_26 rfl (by simp) rfl (by simp <;> omega) (Nat.le_of_ble_eq_true rfl) ⟨congrArg (fun z => some (Value.int z)) (show (1 : Int32) = expG u from by rw [expG, if_pos hc1]), rfl⟩
  ·
    refine Wk.icY (pc' := 27) d1_22 (XT.ii_ne_t hc1) (by decide) (by decide) ?_
    refine Wk.iloadN (pc' := 28) d1_27 rfl rfl ?_
    refine Wk.bipush (pc' := 30) (67 : Int32) d1_28 (by decide) rfl ?_
    by_cases hc2 : u = (67 : Int32)
    ·
      refine Wk.icN (pc' := 33) d1_30 (XT.ii_ne_f hc2) rfl ?_
      refine Wk.iconst (pc' := 34) (2 : Int32) d1_33 (by decide) rfl ?_
      exact Wk.iret (t := .int) d1_34 rfl (by simp) rfl (by simp <;> omega) (Nat.le_of_ble_eq_true rfl) ⟨congrArg (fun z => some (Value.int z)) (show (2 : Int32) = expG u from by rw [expG, if_neg hc1, if_pos hc2]), rfl⟩
    ·
      refine Wk.icY (pc' := 35) d1_30 (XT.ii_ne_t hc2) (by decide) (by decide) ?_
      refine Wk.iloadN (pc' := 36) d1_35 rfl rfl ?_
      refine Wk.bipush (pc' := 38) (71 : Int32) d1_36 (by decide) rfl ?_
      by_cases hc3 : u = (71 : Int32)
      ·
        refine Wk.icN (pc' := 41) d1_38 (XT.ii_ne_f hc3) rfl ?_
        refine Wk.iconst (pc' := 42) (4 : Int32) d1_41 (by decide) rfl ?_
        exact Wk.iret (t := .int) d1_42 rfl (by simp) rfl (by simp <;> omega) (Nat.le_of_ble_eq_true rfl) ⟨congrArg (fun z => some (Value.int z)) (show (4 : Int32) = expG u from by rw [expG, if_neg hc1, if_neg hc2, if_pos hc3]), rfl⟩
      ·
        refine Wk.icY (pc' := 43) d1_38 (XT.ii_ne_t hc3) (by decide) (by decide) ?_
        refine Wk.iloadN (pc' := 44) d1_43 rfl rfl ?_
        refine Wk.bipush (pc' := 46) (84 : Int32) d1_44 (by decide) rfl ?_
        by_cases hc4 : u = (84 : Int32)
        ·
          refine Wk.icN (pc' := 49) d1_46 (XT.ii_ne_f hc4) rfl ?_
          refine Wk.bipush (pc' := 51) (8 : Int32) d1_49 (by decide) rfl ?_
          exact Wk.iret (t := .int) d1_51 rfl (by simp) rfl (by simp <;> omega) (Nat.le_of_ble_eq_true rfl) ⟨congrArg (fun z => some (Value.int z)) (show (8 : Int32) = expG u from by rw [expG, if_neg hc1, if_neg hc2, if_neg hc3, if_pos hc4]), rfl⟩
        ·
          refine Wk.icY (pc' := 52) d1_46 (XT.ii_ne_t hc4) (by decide) (by decide) ?_
          refine Wk.iloadN (pc' := 53) d1_52 rfl rfl ?_
          refine Wk.bipush (pc' := 55) (85 : Int32) d1_53 (by decide) rfl ?_
          by_cases hc5 : u = (85 : Int32)
          ·
            refine Wk.icN (pc' := 58) d1_55 (XT.ii_ne_f hc5) rfl ?_
            refine Wk.bipush (pc' := 60) (8 : Int32) d1_58 (by decide) rfl ?_
            exact Wk.iret (t := .int) d1_60 rfl (by simp) rfl (by simp <;> omega) (Nat.le_of_ble_eq_true rfl) ⟨congrArg (fun z => some (Value.int z)) (show (8 : Int32) = expG u from by rw [expG, if_neg hc1, if_neg hc2, if_neg hc3, if_neg hc4, if_pos hc5]), rfl⟩
          ·
            refine Wk.icY (pc' := 61) d1_55 (XT.ii_ne_t hc5) (by decide) (by decide) ?_
            refine Wk.iloadN (pc' := 62) d1_61 rfl rfl ?_
            refine Wk.bipush (pc' := 64) (82 : Int32) d1_62 (by decide) rfl ?_
            by_cases hc6 : u = (82 : Int32)
            ·
              refine Wk.icN (pc' := 67) d1_64 (XT.ii_ne_f hc6) rfl ?_
              refine Wk.iconst (pc' := 68) (5 : Int32) d1_67 (by decide) rfl ?_
              exact Wk.iret (t := .int) d1_68 rfl (by simp) rfl (by simp <;> omega) (Nat.le_of_ble_eq_true rfl) ⟨congrArg (fun z => some (Value.int z)) (show (5 : Int32) = expG u from by rw [expG, if_neg hc1, if_neg hc2, if_neg hc3, if_neg hc4, if_neg hc5, if_pos hc6]), rfl⟩
            ·
              refine Wk.icY (pc' := 69) d1_64 (XT.ii_ne_t hc6) (by decide) (by decide) ?_
              refine Wk.iloadN (pc' := 70) d1_69 rfl rfl ?_
              refine Wk.bipush (pc' := 72) (89 : Int32) d1_70 (by decide) rfl ?_
              by_cases hc7 : u = (89 : Int32)
              ·
                refine Wk.icN (pc' := 75) d1_72 (XT.ii_ne_f hc7) rfl ?_
                refine Wk.bipush (pc' := 77) (10 : Int32) d1_75 (by decide) rfl ?_
                exact Wk.iret (t := .int) d1_77 rfl (by simp) rfl (by simp <;> omega) (Nat.le_of_ble_eq_true rfl) ⟨congrArg (fun z => some (Value.int z)) (show (10 : Int32) = expG u from by rw [expG, if_neg hc1, if_neg hc2, if_neg hc3, if_neg hc4, if_neg hc5, if_neg hc6, if_pos hc7]), rfl⟩
              ·
                refine Wk.icY (pc' := 78) d1_72 (XT.ii_ne_t hc7) (by decide) (by decide) ?_
                refine Wk.iloadN (pc' := 79) d1_78 rfl rfl ?_
                refine Wk.bipush (pc' := 81) (83 : Int32) d1_79 (by decide) rfl ?_
                by_cases hc8 : u = (83 : Int32)
                ·
                  refine Wk.icN (pc' := 84) d1_81 (XT.ii_ne_f hc8) rfl ?_
                  refine Wk.bipush (pc' := 86) (6 : Int32) d1_84 (by decide) rfl ?_
                  exact Wk.iret (t := .int) d1_86 rfl (by simp) rfl (by simp <;> omega) (Nat.le_of_ble_eq_true rfl) ⟨congrArg (fun z => some (Value.int z)) (show (6 : Int32) = expG u from by rw [expG, if_neg hc1, if_neg hc2, if_neg hc3, if_neg hc4, if_neg hc5, if_neg hc6, if_neg hc7, if_pos hc8]), rfl⟩
                ·
                  refine Wk.icY (pc' := 87) d1_81 (XT.ii_ne_t hc8) (by decide) (by decide) ?_
                  refine Wk.iloadN (pc' := 88) d1_87 rfl rfl ?_
                  refine Wk.bipush (pc' := 90) (87 : Int32) d1_88 (by decide) rfl ?_
                  by_cases hc9 : u = (87 : Int32)
                  ·
                    refine Wk.icN (pc' := 93) d1_90 (XT.ii_ne_f hc9) rfl ?_
                    refine Wk.bipush (pc' := 95) (9 : Int32) d1_93 (by decide) rfl ?_
                    exact Wk.iret (t := .int) d1_95 rfl (by simp) rfl (by simp <;> omega) (Nat.le_of_ble_eq_true rfl) ⟨congrArg (fun z => some (Value.int z)) (show (9 : Int32) = expG u from by rw [expG, if_neg hc1, if_neg hc2, if_neg hc3, if_neg hc4, if_neg hc5, if_neg hc6, if_neg hc7, if_neg hc8, if_pos hc9]), rfl⟩
                  ·
                    refine Wk.icY (pc' := 96) d1_90 (XT.ii_ne_t hc9) (by decide) (by decide) ?_
                    refine Wk.iloadN (pc' := 97) d1_96 rfl rfl ?_
                    refine Wk.bipush (pc' := 99) (75 : Int32) d1_97 (by decide) rfl ?_
                    by_cases hc10 : u = (75 : Int32)
                    ·
                      refine Wk.icN (pc' := 102) d1_99 (XT.ii_ne_f hc10) rfl ?_
                      refine Wk.bipush (pc' := 104) (12 : Int32) d1_102 (by decide) rfl ?_
                      exact Wk.iret (t := .int) d1_104 rfl (by simp) rfl (by simp <;> omega) (Nat.le_of_ble_eq_true rfl) ⟨congrArg (fun z => some (Value.int z)) (show (12 : Int32) = expG u from by rw [expG, if_neg hc1, if_neg hc2, if_neg hc3, if_neg hc4, if_neg hc5, if_neg hc6, if_neg hc7, if_neg hc8, if_neg hc9, if_pos hc10]), rfl⟩
                    ·
                      refine Wk.icY (pc' := 105) d1_99 (XT.ii_ne_t hc10) (by decide) (by decide) ?_
                      refine Wk.iloadN (pc' := 106) d1_105 rfl rfl ?_
                      refine Wk.bipush (pc' := 108) (77 : Int32) d1_106 (by decide) rfl ?_
                      by_cases hc11 : u = (77 : Int32)
                      ·
                        refine Wk.icN (pc' := 111) d1_108 (XT.ii_ne_f hc11) rfl ?_
                        refine Wk.iconst (pc' := 112) (3 : Int32) d1_111 (by decide) rfl ?_
                        exact Wk.iret (t := .int) d1_112 rfl (by simp) rfl (by simp <;> omega) (Nat.le_of_ble_eq_true rfl) ⟨congrArg (fun z => some (Value.int z)) (show (3 : Int32) = expG u from by rw [expG, if_neg hc1, if_neg hc2, if_neg hc3, if_neg hc4, if_neg hc5, if_neg hc6, if_neg hc7, if_neg hc8, if_neg hc9, if_neg hc10, if_pos hc11]), rfl⟩
                      ·
                        refine Wk.icY (pc' := 113) d1_108 (XT.ii_ne_t hc11) (by decide) (by decide) ?_
                        refine Wk.iloadN (pc' := 114) d1_113 rfl rfl ?_
                        refine Wk.bipush (pc' := 116) (66 : Int32) d1_114 (by decide) rfl ?_
                        by_cases hc12 : u = (66 : Int32)
                        ·
                          refine Wk.icN (pc' := 119) d1_116 (XT.ii_ne_f hc12) rfl ?_
                          refine Wk.bipush (pc' := 121) (14 : Int32) d1_119 (by decide) rfl ?_
                          exact Wk.iret (t := .int) d1_121 rfl (by simp) rfl (by simp <;> omega) (Nat.le_of_ble_eq_true rfl) ⟨congrArg (fun z => some (Value.int z)) (show (14 : Int32) = expG u from by rw [expG, if_neg hc1, if_neg hc2, if_neg hc3, if_neg hc4, if_neg hc5, if_neg hc6, if_neg hc7, if_neg hc8, if_neg hc9, if_neg hc10, if_neg hc11, if_pos hc12]), rfl⟩
                        ·
                          refine Wk.icY (pc' := 122) d1_116 (XT.ii_ne_t hc12) (by decide) (by decide) ?_
                          refine Wk.iloadN (pc' := 123) d1_122 rfl rfl ?_
                          refine Wk.bipush (pc' := 125) (68 : Int32) d1_123 (by decide) rfl ?_
                          by_cases hc13 : u = (68 : Int32)
                          ·
                            refine Wk.icN (pc' := 128) d1_125 (XT.ii_ne_f hc13) rfl ?_
                            refine Wk.bipush (pc' := 130) (13 : Int32) d1_128 (by decide) rfl ?_
                            exact Wk.iret (t := .int) d1_130 rfl (by simp) rfl (by simp <;> omega) (Nat.le_of_ble_eq_true rfl) ⟨congrArg (fun z => some (Value.int z)) (show (13 : Int32) = expG u from by rw [expG, if_neg hc1, if_neg hc2, if_neg hc3, if_neg hc4, if_neg hc5, if_neg hc6, if_neg hc7, if_neg hc8, if_neg hc9, if_neg hc10, if_neg hc11, if_neg hc12, if_pos hc13]), rfl⟩
                          ·
                            refine Wk.icY (pc' := 131) d1_125 (XT.ii_ne_t hc13) (by decide) (by decide) ?_
                            refine Wk.iloadN (pc' := 132) d1_131 rfl rfl ?_
                            refine Wk.bipush (pc' := 134) (72 : Int32) d1_132 (by decide) rfl ?_
                            by_cases hc14 : u = (72 : Int32)
                            ·
                              refine Wk.icN (pc' := 137) d1_134 (XT.ii_ne_f hc14) rfl ?_
                              refine Wk.bipush (pc' := 139) (11 : Int32) d1_137 (by decide) rfl ?_
                              exact Wk.iret (t := .int) d1_139 rfl (by simp) rfl (by simp <;> omega) (Nat.le_of_ble_eq_true rfl) ⟨congrArg (fun z => some (Value.int z)) (show (11 : Int32) = expG u from by rw [expG, if_neg hc1, if_neg hc2, if_neg hc3, if_neg hc4, if_neg hc5, if_neg hc6, if_neg hc7, if_neg hc8, if_neg hc9, if_neg hc10, if_neg hc11, if_neg hc12, if_neg hc13, if_pos hc14]), rfl⟩
                            ·
                              refine Wk.icY (pc' := 140) d1_134 (XT.ii_ne_t hc14) (by decide) (by decide) ?_
                              refine Wk.iloadN (pc' := 141) d1_140 rfl rfl ?_
                              refine Wk.bipush (pc' := 143) (86 : Int32) d1_141 (by decide) rfl ?_
                              by_cases hc15 : u = (86 : Int32)
                              ·
                                refine Wk.icN (pc' := 146) d1_143 (XT.ii_ne_f hc15) rfl ?_
                                refine Wk.bipush (pc' := 148) (7 : Int32) d1_146 (by decide) rfl ?_
                                exact Wk.iret (t := .int) d1_148 rfl (by simp) rfl (by simp <;> omega) (Nat.le_of_ble_eq_true rfl) ⟨congrArg (fun z => some (Value.int z)) (show (7 : Int32) = expG u from by rw [expG, if_neg hc1, if_neg hc2, if_neg hc3, if_neg hc4, if_neg hc5, if_neg hc6, if_neg hc7, if_neg hc8, if_neg hc9, if_neg hc10, if_neg hc11, if_neg hc12, if_neg hc13, if_neg hc14, if_pos hc15]), rfl⟩
                              ·
                                refine Wk.icY (pc' := 149) d1_143 (XT.ii_ne_t hc15) (by decide) (by decide) ?_
                                refine Wk.iloadN (pc' := 150) d1_149 rfl rfl ?_
                                refine Wk.bipush (pc' := 152) (78 : Int32) d1_150 (by decide) rfl ?_
                                by_cases hc16 : u = (78 : Int32)
                                ·
                                  refine Wk.icN (pc' := 155) d1_152 (XT.ii_ne_f hc16) rfl ?_
                                  refine Wk.bipush (pc' := 157) (15 : Int32) d1_155 (by decide) rfl ?_
                                  exact Wk.iret (t := .int) d1_157 rfl (by simp) rfl (by simp <;> omega) (Nat.le_of_ble_eq_true rfl) ⟨congrArg (fun z => some (Value.int z)) (show (15 : Int32) = expG u from by rw [expG, if_neg hc1, if_neg hc2, if_neg hc3, if_neg hc4, if_neg hc5, if_neg hc6, if_neg hc7, if_neg hc8, if_neg hc9, if_neg hc10, if_neg hc11, if_neg hc12, if_neg hc13, if_neg hc14, if_neg hc15, if_pos hc16]), rfl⟩
                                ·
                                  refine Wk.icY (pc' := 158) d1_152 (XT.ii_ne_t hc16) (by decide) (by decide) ?_
                                  refine Wk.iloadN (pc' := 159) d1_158 rfl rfl ?_
                                  refine Wk.bipush (pc' := 161) (45 : Int32) d1_159 (by decide) rfl ?_
                                  by_cases hc17 : u = (45 : Int32)
                                  ·
                                    refine Wk.icN (pc' := 164) d1_161 (XT.ii_ne_f hc17) rfl ?_
                                    refine Wk.bipush (pc' := 166) (15 : Int32) d1_164 (by decide) rfl ?_
                                    exact Wk.iret (t := .int) d1_166 rfl (by simp) rfl (by simp <;> omega) (Nat.le_of_ble_eq_true rfl) ⟨congrArg (fun z => some (Value.int z)) (show (15 : Int32) = expG u from by rw [expG, if_neg hc1, if_neg hc2, if_neg hc3, if_neg hc4, if_neg hc5, if_neg hc6, if_neg hc7, if_neg hc8, if_neg hc9, if_neg hc10, if_neg hc11, if_neg hc12, if_neg hc13, if_neg hc14, if_neg hc15, if_neg hc16, if_pos hc17]), rfl⟩
                                  ·
                                    refine Wk.icY (pc' := 167) d1_161 (XT.ii_ne_t hc17) (by decide) (by decide) ?_
                                    refine Wk.iloadN (pc' := 168) d1_167 rfl rfl ?_
                                    refine Wk.bipush (pc' := 170) (63 : Int32) d1_168 (by decide) rfl ?_
                                    by_cases hc18 : u = (63 : Int32)
                                    ·
                                      refine Wk.icN (pc' := 173) d1_170 (XT.ii_ne_f hc18) rfl ?_
                                      refine Wk.bipush (pc' := 175) (15 : Int32) d1_173 (by decide) rfl ?_
                                      exact Wk.iret (t := .int) d1_175 rfl (by simp) rfl (by simp <;> omega) (Nat.le_of_ble_eq_true rfl) ⟨congrArg (fun z => some (Value.int z)) (show (15 : Int32) = expG u from by rw [expG, if_neg hc1, if_neg hc2, if_neg hc3, if_neg hc4, if_neg hc5, if_neg hc6, if_neg hc7, if_neg hc8, if_neg hc9, if_neg hc10, if_neg hc11, if_neg hc12, if_neg hc13, if_neg hc14, if_neg hc15, if_neg hc16, if_neg hc17, if_pos hc18]), rfl⟩
                                    ·
                                      refine Wk.icY (pc' := 176) d1_170 (XT.ii_ne_t hc18) (by decide) (by decide) ?_
                                      refine Wk.iconst (pc' := 177) (0 : Int32) d1_176 (by decide) rfl ?_
                                      exact Wk.iret (t := .int) d1_177 rfl (by simp) rfl (by simp <;> omega) (Nat.le_of_ble_eq_true rfl) ⟨congrArg (fun z => some (Value.int z)) (show (0 : Int32) = expG u from by rw [expG, if_neg hc1, if_neg hc2, if_neg hc3, if_neg hc4, if_neg hc5, if_neg hc6, if_neg hc7, if_neg hc8, if_neg hc9, if_neg hc10, if_neg hc11, if_neg hc12, if_neg hc13, if_neg hc14, if_neg hc15, if_neg hc16, if_neg hc17, if_neg hc18]), rfl⟩
set_option maxRecDepth 65536 in
set_option maxHeartbeats 40000000 in
theorem m_exp (l : Launch) (Z : State) (a0 : Array Value) (hw : ∀ d ∈ tables_1, d.before a0 Z = true) (hB : Heap) (H : List Rec) (c : Int32) : Ctr l Z hB ({ cls := "com/example/particlade/particlade/NucleotidesMaskPinLaw", name := "expected", desc := "(C)I" } : Jvm.MethodName) method_3_code 2 (some .int) [] ({ frames := 0, cells := 0, slots := 0, locals := 0 } : Room) #[(.int c)] H (fun v H' => v = some (.int (expF c)) ∧ H' = H) := by
  refine Wk.ctr pn_0 (Ls := #[.val (.int c), .unset]) (fun m => by first | rfl | (simp [entryFrame, mkF, argsToLocals, Value.category]; done)) ?_
  refine Wk.iloadN (pc' := 1) d1_0 rfl rfl ?_
  refine Wk.istoreN (pc' := 2) (Ls' := #[.val (.int c), .val (.int c)]) d1_1 rfl rfl ?_
  refine Wk.iloadN (pc' := 3) d1_2 rfl rfl ?_
  refine Wk.bipush (pc' := 5) (97 : Int32) d1_3 (by decide) rfl ?_
  by_cases hc1 : c < (97 : Int32)
  ·
    refine Wk.icY (pc' := 19) d1_5 (XT.ii_lt_t hc1) (by decide) (by decide) ?_
    have e : expG c = expF c := by rw [expF, if_pos hc1]
    rw [← e]; exact m_exp2 l Z hB H c c
  ·
    refine Wk.icN (pc' := 8) d1_5 (XT.ii_lt_f hc1) rfl ?_
    refine Wk.iloadN (pc' := 9) d1_8 rfl rfl ?_
    refine Wk.bipush (pc' := 11) (122 : Int32) d1_9 (by decide) rfl ?_
    by_cases hc2 : (122 : Int32) < c
    ·
      refine Wk.icY (pc' := 19) d1_11 (XT.ii_gt_t hc2) (by decide) (by decide) ?_
      have e : expG c = expF c := by rw [expF, if_neg hc1, if_pos hc2]
      rw [← e]; exact m_exp2 l Z hB H c c
    ·
      refine Wk.icN (pc' := 14) d1_11 (XT.ii_gt_f hc2) rfl ?_
      refine Wk.iloadN (pc' := 15) d1_14 rfl rfl ?_
      refine Wk.bipush (pc' := 17) (32 : Int32) d1_15 (by decide) rfl ?_
      refine Wk.isub (pc' := 18) d1_17 rfl ?_
      refine Wk.istoreN (pc' := 19) (Ls' := #[.val (.int c), .val (.int (c - (32 : Int32)))]) d1_18 rfl rfl ?_
      have e : expG (c - (32 : Int32)) = expF c := by rw [expF, if_neg hc1, if_neg hc2]
      rw [← e]; exact m_exp2 l Z hB H c (c - (32 : Int32))
set_option maxRecDepth 65536 in
set_option maxHeartbeats 40000000 in
theorem m_mask1 (l : Launch) (Z : State) (a0 : Array Value) (hw : ∀ d ∈ tables_1, d.before a0 Z = true) (hB : Heap) (H : List Rec) (c v0 : Int32) (M : Addr) (cl : Cell) (sM : Sta Z hB "com/example/particlade/particlade/Nucleotides" "MASKS" "[B" (.ref M)) (A : Arr Z hB M cl .byte) (hz : cl.slots.size = 128) (hlt : c < 128) (h0 : ¬ (c < 0 ∨ cl.slots.size ≤ c.toNatClampNeg)) (hv : cl.slots[c.toNatClampNeg]? = some (.int v0)) : Ctr l Z hB ({ cls := "com/example/particlade/particlade/Nucleotides", name := "mask", desc := "(C)I" } : Jvm.MethodName) prog_21_method_2_code 1 (some .int) [] ({ frames := 0, cells := 0, slots := 0, locals := 0 } : Room) #[(.int c)] H (fun v H' => v = some (.int v0) ∧ H' = H) := by
  refine Wk.ctr pn_1 (Ls := #[.val (.int c)]) (fun m => by first | rfl | (simp [entryFrame, mkF, argsToLocals, Value.category]; done)) ?_
  refine Wk.iloadN (pc' := 1) d0_0 rfl rfl ?_
  refine Wk.getSt (pc' := 4) d0_1 (wd4 hw) sM rfl ?_
  refine Wk.arrLenOld (pc' := 5) (z := (128 : Int32)) d0_4 A (by rw [hz]; rfl) rfl ?_
  refine Wk.icN (pc' := 8) d0_5 (XT.ii_ge_f hlt) rfl ?_
  refine Wk.getSt (pc' := 11) d0_8 (wd4 hw) sM rfl ?_
  refine Wk.iloadN (pc' := 12) d0_11 rfl rfl ?_
  refine Wk.baloadOld (pc' := 13) d0_12 A h0 hv rfl ?_
  refine Wk.goTo (pc' := 17) d0_13 (by decide) (by decide) ?_
  exact Wk.iret (t := .int) d0_17 rfl (by simp) rfl (by simp <;> omega) (Nat.le_of_ble_eq_true rfl) ⟨rfl, rfl⟩
set_option maxRecDepth 65536 in
set_option maxHeartbeats 40000000 in
theorem m_mask0 (l : Launch) (Z : State) (a0 : Array Value) (hw : ∀ d ∈ tables_1, d.before a0 Z = true) (hB : Heap) (H : List Rec) (c : Int32) (M : Addr) (cl : Cell) (sM : Sta Z hB "com/example/particlade/particlade/Nucleotides" "MASKS" "[B" (.ref M)) (A : Arr Z hB M cl .byte) (hz : cl.slots.size = 128) (hlt : ¬ c < 128) : Ctr l Z hB ({ cls := "com/example/particlade/particlade/Nucleotides", name := "mask", desc := "(C)I" } : Jvm.MethodName) prog_21_method_2_code 1 (some .int) [] ({ frames := 0, cells := 0, slots := 0, locals := 0 } : Room) #[(.int c)] H (fun v H' => v = some (.int 0) ∧ H' = H) := by
  refine Wk.ctr pn_1 (Ls := #[.val (.int c)]) (fun m => by first | rfl | (simp [entryFrame, mkF, argsToLocals, Value.category]; done)) ?_
  refine Wk.iloadN (pc' := 1) d0_0 rfl rfl ?_
  refine Wk.getSt (pc' := 4) d0_1 (wd4 hw) sM rfl ?_
  refine Wk.arrLenOld (pc' := 5) (z := (128 : Int32)) d0_4 A (by rw [hz]; rfl) rfl ?_
  refine Wk.icY (pc' := 16) d0_5 (XT.ii_ge_t hlt) (by decide) (by decide) ?_
  refine Wk.iconst (pc' := 17) (0 : Int32) d0_16 (by decide) rfl ?_
  exact Wk.iret (t := .int) d0_17 rfl (by simp) rfl (by simp <;> omega) (Nat.le_of_ble_eq_true rfl) ⟨rfl, rfl⟩
set_option maxRecDepth 65536 in
set_option maxHeartbeats 40000000 in
theorem m_lawA (l : Launch) (Z : State) (a0 : Array Value) (hw : ∀ d ∈ tables_1, d.before a0 Z = true) (hB : Heap) (x0 : Int32) (hm : Ctr l Z hB ({ cls := "com/example/particlade/particlade/Nucleotides", name := "mask", desc := "(C)I" } : Jvm.MethodName) prog_21_method_2_code 1 (some .int) [] ({ frames := 0, cells := 0, slots := 0, locals := 0 } : Room) #[.int ((x0).toUInt32.toUInt16.toUInt32.toInt32)] [] (fun v H' => v = some (.int (expF ((x0).toUInt32.toUInt16.toUInt32.toInt32))) ∧ H' = [])) : Ctr l Z hB x code maxLocals ret tables_1 room_1 #[(.int x0)] [] (fun v _ => v = some (.int 1)) := by
  refine Wk.ctr pn_0 (Ls := #[.val (.int x0), .unset]) (fun m => by first | rfl | (simp [entryFrame, mkF, argsToLocals, Value.category]; done)) ?_
  refine Wk.iloadN (pc' := 1) at_0 rfl rfl ?_
  refine Wk.i2c (pc' := 2) at_1 rfl ?_
  refine Wk.istoreN (pc' := 3) (Ls' := #[.val (.int x0), .val (.int ((x0).toUInt32.toUInt16.toUInt32.toInt32))]) at_2 rfl rfl ?_
  refine Wk.iloadN (pc' := 4) at_3 rfl rfl ?_
  refine Wk.callS (pc' := 7) (argsL := [(.int ((x0).toUInt32.toUInt16.toUInt32.toInt32))]) (st := []) at_4 (wd0 hw) (wd1 hw) (wd2 hw) (wd3 hw) (by decide) (lenOf pd_0 rfl) hm rfl (Nat.le_of_ble_eq_true rfl) (Nat.le_of_ble_eq_true rfl) (Nat.le_of_ble_eq_true rfl) (Nat.le_of_ble_eq_true rfl) rfl rfl ?_
  rintro _ _ ⟨rfl, hH⟩; obtain rfl := hH.symm
  show WP l Z hB _ _ _ _ _ _ _ _ [] _ _ [(.int (expF ((x0).toUInt32.toUInt16.toUInt32.toInt32)))]
  refine Wk.iloadN (pc' := 8) at_7 rfl rfl ?_
  refine Wk.callS (pc' := 11) (argsL := [(.int ((x0).toUInt32.toUInt16.toUInt32.toInt32))]) (st := [(.int (expF ((x0).toUInt32.toUInt16.toUInt32.toInt32)))]) at_8 (wd6 hw) (wd7 hw) (wd8 hw) (wd9 hw) (by decide) (lenOf pd_0 rfl) (m_exp l Z a0 hw hB [] ((x0).toUInt32.toUInt16.toUInt32.toInt32)) rfl (Nat.le_of_ble_eq_true rfl) (Nat.le_of_ble_eq_true rfl) (Nat.le_of_ble_eq_true rfl) (Nat.le_of_ble_eq_true rfl) rfl rfl ?_
  rintro _ _ ⟨rfl, hH⟩; obtain rfl := hH.symm
  show WP l Z hB _ _ _ _ _ _ _ _ [] _ _ [(.int (expF ((x0).toUInt32.toUInt16.toUInt32.toInt32))), (.int (expF ((x0).toUInt32.toUInt16.toUInt32.toInt32)))]
  refine Wk.icN (pc' := 14) at_11 (XT.ii_ne_f rfl) rfl ?_
  refine Wk.iconst (pc' := 15) (1 : Int32) at_14 (by decide) rfl ?_
  refine Wk.goTo (pc' := 19) at_15 (by decide) (by decide) ?_
  exact Wk.iret (t := .boolean) at_19 rfl (by simp) rfl (Nat.le_of_ble_eq_true rfl) (Nat.le_of_ble_eq_true rfl) rfl
def tabL : List Int32 := [0, 0, 0, 0, 0, 0, 0, 0, 0, 0, 0, 0, 0, 0, 0, 0, 0, 0, 0, 0, 0, 0, 0, 0, 0, 0, 0, 0, 0, 0, 0, 0, 0, 0, 0, 0, 0, 0, 0, 0, 0, 0, 0, 0, 0, 15, 0, 0, 0, 0, 0, 0, 0, 0, 0, 0, 0, 0, 0, 0, 0, 0, 0, 15, 0, 1, 14, 2, 13, 0, 0, 4, 11, 0, 0, 12, 0, 3, 15, 0, 0, 0, 5, 6, 8, 8, 7, 9, 0, 10, 0, 0, 0, 0, 0, 0, 0, 1, 14, 2, 13, 0, 0, 4, 11, 0, 0, 12, 0, 3, 15, 0, 0, 0, 5, 6, 8, 8, 7, 9, 0, 10, 0, 0, 0, 0, 0, 0]
theorem tab_exp : ∀ n : Fin 128, expF (Int32.ofNat n) = tabL.getD n 0 := by decide +kernel
theorem exp_far {c : Int32} (h0 : 0 ≤ c.toInt) (h : ¬ c < 128) : expF c = 0 := by
  rw [Int32.lt_iff_toInt_lt] at h
  have e : (128 : Int32).toInt = 128 := rfl
  rw [e] at h
  have g : ∀ k : Int32, k.toInt < 128 → c ≠ k := fun k hk q => by subst q; omega
  have a1 : ¬ c < 97 := by rw [Int32.lt_iff_toInt_lt]; have : (97 : Int32).toInt = 97 := rfl; omega
  have a2 : 122 < c := by rw [Int32.lt_iff_toInt_lt]; have : (122 : Int32).toInt = 122 := rfl; omega
  simp only [expF, a1, a2, if_true, if_false, expG, g 65 (by decide), g 67 (by decide), g 71 (by decide), g 84 (by decide), g 85 (by decide), g 82 (by decide), g 89 (by decide), g 83 (by decide), g 87 (by decide), g 75 (by decide), g 77 (by decide), g 66 (by decide), g 68 (by decide), g 72 (by decide), g 86 (by decide), g 78 (by decide), g 45 (by decide), g 63 (by decide)]
set_option maxRecDepth 65536 in
set_option maxHeartbeats 40000000 in
theorem m_law (l : Launch) (Z : State) (a0 : Array Value) (hw : ∀ d ∈ tables_1, d.before a0 Z = true) (hB : Heap) (x0 : Int32) (M : Addr) (cl : Cell) (sM : Sta Z hB "com/example/particlade/particlade/Nucleotides" "MASKS" "[B" (.ref M)) (A : Arr Z hB M cl .byte) (hz : cl.slots.size = 128) (hall : ∀ j, j < 128 → cl.slots[j]? = some (.int (tabL.getD j 0))) : Ctr l Z hB x code maxLocals ret tables_1 room_1 #[.int x0] [] (fun v _ => v = some (.int 1)) := by
  refine m_lawA l Z a0 hw hB x0 ?_
  have hc := c_i2c x0
  generalize ((x0).toUInt32.toUInt16.toUInt32.toInt32) = c at hc ⊢
  obtain ⟨-, hc0, hc1⟩ := hc
  by_cases hlt : c < 128
  · have h128 : c.toInt < 128 := by rw [Int32.lt_iff_toInt_lt] at hlt; exact hlt
    have hn : c.toNatClampNeg < 128 := by simp only [Int32.toNatClampNeg]; omega
    have hcn : Int32.ofNat c.toNatClampNeg = c := Int32.toInt_inj.mp (by rw [Int32.toInt_ofNat_small (by omega)]; simp only [Int32.toNatClampNeg]; omega)
    have e : expF c = tabL.getD c.toNatClampNeg 0 := by have := tab_exp ⟨_, hn⟩; simp only [hcn] at this; exact this
    rw [e]
    exact m_mask1 l Z a0 hw hB [] c _ M cl sM A hz hlt (by rw [hz, Int32.lt_iff_toInt_lt]; have : (0 : Int32).toInt = 0 := rfl; omega) (hall _ hn)
  · rw [exp_far hc0 hlt]
    exact m_mask0 l Z a0 hw hB [] c M cl sM A hz hlt
theorem elemK {args : Array Value} {s : State} {M : Jvm.Term} {a : Addr} {cl : Cell} {j : Nat} {v : Int32} (ht : M.eval args s none [j] s = some (.ref a)) (ha : s.arrayAt? a = some cl) (hj : j < 128) (h : (Jvm.Cond.eq (.elem M (.index 0)) (.int v)).value args s none s [j] = some true) : cl.slots[j]? = some (.int v) := by
  have hi : (Jvm.Term.index 0).eval args s none [j] s = some (.int (Int32.ofNat j)) := by simp [Term.eval]
  have h0 : ¬ Int32.ofNat j < 0 := by rw [Int32.lt_iff_toInt_lt, Int32.toInt_ofNat_small (by omega)]; have : (0 : Int32).toInt = 0 := rfl; omega
  have hn : (Int32.ofNat j).toNatClampNeg = j := by simp only [Int32.toNatClampNeg]; rw [Int32.toInt_ofNat_small (by omega)]; omega
  have e := elem_f (a := .index 0) ht hi ha h0
  rw [hn] at e
  exact e.symm.trans (eqv_i (show (Jvm.Term.int v).eval args s none [j] s = some (.int v) from rfl) h)
theorem ltK {args : Array Value} {s : State} {j : Nat} {v : Int32} (hj : j < 128) : (Jvm.Cond.lt (.index 0) (.int v)).value args s none s [j] = some (decide ((j : Int) < v.toInt)) := by
  have hi : (Jvm.Term.index 0).eval args s none [j] s = some (.int (Int32.ofNat j)) := by simp [Term.eval]
  rw [Cond.lt_ints hi (show (Jvm.Term.int v).eval args s none [j] s = some (.int v) from rfl)]
  exact congrArg some (decide_eq_decide.mpr (by rw [Int32.lt_iff_toInt_lt, Int32.toInt_ofNat_small (show j < 2 ^ 31 by omega)]))
theorem leK {args : Array Value} {s : State} {j : Nat} {v : Int32} (hj : j < 128) : (Jvm.Cond.le (.int v) (.index 0)).value args s none s [j] = some (decide (v.toInt ≤ (j : Int))) := by
  have hi : (Jvm.Term.index 0).eval args s none [j] s = some (.int (Int32.ofNat j)) := by simp [Term.eval]
  rw [Cond.le_ints (show (Jvm.Term.int v).eval args s none [j] s = some (.int v) from rfl) hi]
  exact congrArg some (decide_eq_decide.mpr (by rw [Int32.le_iff_toInt_le, Int32.toInt_ofNat_small (show j < 2 ^ 31 by omega)]))
set_option maxRecDepth 65536 in
set_option maxHeartbeats 40000000 in
theorem comes_1 {Post : Tables → Env → Array Value → State → Outcome → State → Prop} (hpost : ∀ tb e args s v u, (limb_1_1.after args s (.returned v) u = true ∧ limb_1_2.after args s (.returned v) u = true ∧ True) → FrameEnd s (.returned v) u (Jvm.fieldLocs frame_1_writes args s ++ Jvm.arrayLocs frame_1_arrays args s ++ Jvm.staticLocs frame_1_statics s) 0 0 → Post tb e args s (.returned v) u) :
    ArmFor flags0 classFile x code maxLocals ret World_1 tables_1 room_1 Calls_1 rest_1 Pre_1 Post := by
  intro l hfl _ _ p e ha hc hk s m args below hf hA hF happ hP
  obtain ⟨hcalls, hrest, hpre⟩ := hP
  obtain ⟨-, -, -, hnamed, -, -, -, hat⟩ := (Spec.applies_iff hf).mp happ
  obtain ⟨hg, hn⟩ := and_e (Cond.before_iff.mp (show (Jvm.Cond.and given_1 narrow_1).before args s = true from hpre))
  obtain ⟨h1, h2⟩ := and_e hg
  obtain ⟨w0, rfl⟩ : ∃ w0 : Value, args = #[w0] := by
    have hs : args.size = 1 := by simpa [Cond.value, given_1] using h1
    obtain ⟨L⟩ := args
    match L, hs with
    | [w0], _ => exact ⟨w0, rfl⟩
  have hw := fun d (hd : d ∈ tables_1) => atoms_spec (ws := Jvm.Cond.code x code maxLocals ret :: tables_1) hat d (List.mem_cons_of_mem _ hd)
  have hfit : Fit s := fun {y c} hc i hi => by
    obtain ⟨ha, rfl⟩ := Array.getElem?_eq_some_iff.mp hc
    have q := List.all_eq_true.mp ((Array.all_eq_true_iff_forall_mem.mp hF) _ (Array.getElem_mem ha)) i (List.mem_range.mpr hi)
    simpa [Array.getElem?_eq_getElem hi] using q
  obtain ⟨i0, e0⟩ := is_v h2
  obtain rfl : w0 = (.int i0) := Option.some.inj e0
  obtain ⟨q0, q⟩ := and_e hn
  obtain ⟨q1, q⟩ := and_e q
  obtain ⟨q2, q⟩ := and_e q
  obtain ⟨q3, q⟩ := and_e q
  obtain ⟨q4, q⟩ := and_e q
  obtain ⟨q5, q⟩ := and_e q
  obtain ⟨q6, q⟩ := and_e q
  obtain ⟨q7, q⟩ := and_e q
  obtain ⟨q8, q⟩ := and_e q
  obtain ⟨q9, q⟩ := and_e q
  obtain ⟨q10, q⟩ := and_e q
  obtain ⟨q11, q⟩ := and_e q
  obtain ⟨q12, q⟩ := and_e q
  obtain ⟨q13, q⟩ := and_e q
  obtain ⟨q14, q⟩ := and_e q
  obtain ⟨q15, q⟩ := and_e q
  obtain ⟨q16, q⟩ := and_e q
  obtain ⟨q17, q⟩ := and_e q
  obtain ⟨q18, q⟩ := and_e q
  obtain ⟨q19, q⟩ := and_e q
  obtain ⟨q20, q⟩ := and_e q
  obtain ⟨q21, q⟩ := and_e q
  obtain ⟨q22, q⟩ := and_e q
  obtain ⟨q23, q⟩ := and_e q
  obtain ⟨q24, q⟩ := and_e q
  obtain ⟨q25, q⟩ := and_e q
  obtain ⟨q26, q⟩ := and_e q
  obtain ⟨q27, q⟩ := and_e q
  obtain ⟨q28, q⟩ := and_e q
  obtain ⟨q29, q⟩ := and_e q
  obtain ⟨q30, q⟩ := and_e q
  obtain ⟨q31, q⟩ := and_e q
  obtain ⟨q32, q⟩ := and_e q
  obtain ⟨q33, q⟩ := and_e q
  obtain ⟨q34, q⟩ := and_e q
  obtain ⟨q35, q⟩ := and_e q
  obtain ⟨q36, q⟩ := and_e q
  obtain ⟨q37, q⟩ := and_e q
  obtain ⟨q38, q⟩ := and_e q
  obtain ⟨q39, q⟩ := and_e q
  obtain ⟨q40, q⟩ := and_e q
  obtain ⟨q41, q⟩ := and_e q
  obtain ⟨q42, q⟩ := and_e q
  obtain ⟨q43, q⟩ := and_e q
  obtain ⟨q44, q⟩ := and_e q
  obtain ⟨q45, q⟩ := and_e q
  obtain ⟨q46, q⟩ := and_e q
  obtain ⟨q47, q⟩ := and_e q
  obtain ⟨q48, q⟩ := and_e q
  obtain ⟨q49, q⟩ := and_e q
  obtain ⟨q50, q⟩ := and_e q
  obtain ⟨q51, q⟩ := and_e q
  obtain ⟨q52, q⟩ := and_e q
  obtain ⟨q53, q⟩ := and_e q
  obtain ⟨q54, q⟩ := and_e q
  obtain ⟨q55, q⟩ := and_e q
  obtain ⟨q56, q⟩ := and_e q
  obtain ⟨q57, q⟩ := and_e q
  have q58 := q
  obtain ⟨M, eM⟩ := arr_v q0
  obtain ⟨cl, A⟩ := Arr.start eM q0
  have haA := A.fin (Vm.Alike.refl _)
  have sM := Sta.start eM (Or.inr ⟨(wd2 hw), (wd5 hw)⟩)
  obtain ⟨hl, e2⟩ := Wk.lenOfT eM haA q1
  have hz : cl.slots.size = 128 := by
    have e3 := congrArg Int32.toInt e2
    rw [len_toInt hl] at e3; have : (128 : Int32).toInt = 128 := rfl; omega
  have e1045 : cl.slots[45]? = some (.int 15) := Wk.elemI eM haA (j := 45) (by decide) q3
  have e1063 : cl.slots[63]? = some (.int 15) := Wk.elemI eM haA (j := 63) (by decide) q5
  have e1064 : cl.slots[64]? = some (.int 0) := Wk.elemI eM haA (j := 64) (by decide) q6
  have e1065 : cl.slots[65]? = some (.int 1) := Wk.elemI eM haA (j := 65) (by decide) q7
  have e1066 : cl.slots[66]? = some (.int 14) := Wk.elemI eM haA (j := 66) (by decide) q8
  have e1067 : cl.slots[67]? = some (.int 2) := Wk.elemI eM haA (j := 67) (by decide) q9
  have e1068 : cl.slots[68]? = some (.int 13) := Wk.elemI eM haA (j := 68) (by decide) q10
  have e1069 : cl.slots[69]? = some (.int 0) := Wk.elemI eM haA (j := 69) (by decide) q11
  have e1070 : cl.slots[70]? = some (.int 0) := Wk.elemI eM haA (j := 70) (by decide) q12
  have e1071 : cl.slots[71]? = some (.int 4) := Wk.elemI eM haA (j := 71) (by decide) q13
  have e1072 : cl.slots[72]? = some (.int 11) := Wk.elemI eM haA (j := 72) (by decide) q14
  have e1073 : cl.slots[73]? = some (.int 0) := Wk.elemI eM haA (j := 73) (by decide) q15
  have e1074 : cl.slots[74]? = some (.int 0) := Wk.elemI eM haA (j := 74) (by decide) q16
  have e1075 : cl.slots[75]? = some (.int 12) := Wk.elemI eM haA (j := 75) (by decide) q17
  have e1076 : cl.slots[76]? = some (.int 0) := Wk.elemI eM haA (j := 76) (by decide) q18
  have e1077 : cl.slots[77]? = some (.int 3) := Wk.elemI eM haA (j := 77) (by decide) q19
  have e1078 : cl.slots[78]? = some (.int 15) := Wk.elemI eM haA (j := 78) (by decide) q20
  have e1079 : cl.slots[79]? = some (.int 0) := Wk.elemI eM haA (j := 79) (by decide) q21
  have e1080 : cl.slots[80]? = some (.int 0) := Wk.elemI eM haA (j := 80) (by decide) q22
  have e1081 : cl.slots[81]? = some (.int 0) := Wk.elemI eM haA (j := 81) (by decide) q23
  have e1082 : cl.slots[82]? = some (.int 5) := Wk.elemI eM haA (j := 82) (by decide) q24
  have e1083 : cl.slots[83]? = some (.int 6) := Wk.elemI eM haA (j := 83) (by decide) q25
  have e1084 : cl.slots[84]? = some (.int 8) := Wk.elemI eM haA (j := 84) (by decide) q26
  have e1085 : cl.slots[85]? = some (.int 8) := Wk.elemI eM haA (j := 85) (by decide) q27
  have e1086 : cl.slots[86]? = some (.int 7) := Wk.elemI eM haA (j := 86) (by decide) q28
  have e1087 : cl.slots[87]? = some (.int 9) := Wk.elemI eM haA (j := 87) (by decide) q29
  have e1088 : cl.slots[88]? = some (.int 0) := Wk.elemI eM haA (j := 88) (by decide) q30
  have e1089 : cl.slots[89]? = some (.int 10) := Wk.elemI eM haA (j := 89) (by decide) q31
  have e1097 : cl.slots[97]? = some (.int 1) := Wk.elemI eM haA (j := 97) (by decide) q33
  have e1098 : cl.slots[98]? = some (.int 14) := Wk.elemI eM haA (j := 98) (by decide) q34
  have e1099 : cl.slots[99]? = some (.int 2) := Wk.elemI eM haA (j := 99) (by decide) q35
  have e1100 : cl.slots[100]? = some (.int 13) := Wk.elemI eM haA (j := 100) (by decide) q36
  have e1101 : cl.slots[101]? = some (.int 0) := Wk.elemI eM haA (j := 101) (by decide) q37
  have e1102 : cl.slots[102]? = some (.int 0) := Wk.elemI eM haA (j := 102) (by decide) q38
  have e1103 : cl.slots[103]? = some (.int 4) := Wk.elemI eM haA (j := 103) (by decide) q39
  have e1104 : cl.slots[104]? = some (.int 11) := Wk.elemI eM haA (j := 104) (by decide) q40
  have e1105 : cl.slots[105]? = some (.int 0) := Wk.elemI eM haA (j := 105) (by decide) q41
  have e1106 : cl.slots[106]? = some (.int 0) := Wk.elemI eM haA (j := 106) (by decide) q42
  have e1107 : cl.slots[107]? = some (.int 12) := Wk.elemI eM haA (j := 107) (by decide) q43
  have e1108 : cl.slots[108]? = some (.int 0) := Wk.elemI eM haA (j := 108) (by decide) q44
  have e1109 : cl.slots[109]? = some (.int 3) := Wk.elemI eM haA (j := 109) (by decide) q45
  have e1110 : cl.slots[110]? = some (.int 15) := Wk.elemI eM haA (j := 110) (by decide) q46
  have e1111 : cl.slots[111]? = some (.int 0) := Wk.elemI eM haA (j := 111) (by decide) q47
  have e1112 : cl.slots[112]? = some (.int 0) := Wk.elemI eM haA (j := 112) (by decide) q48
  have e1113 : cl.slots[113]? = some (.int 0) := Wk.elemI eM haA (j := 113) (by decide) q49
  have e1114 : cl.slots[114]? = some (.int 5) := Wk.elemI eM haA (j := 114) (by decide) q50
  have e1115 : cl.slots[115]? = some (.int 6) := Wk.elemI eM haA (j := 115) (by decide) q51
  have e1116 : cl.slots[116]? = some (.int 8) := Wk.elemI eM haA (j := 116) (by decide) q52
  have e1117 : cl.slots[117]? = some (.int 8) := Wk.elemI eM haA (j := 117) (by decide) q53
  have e1118 : cl.slots[118]? = some (.int 7) := Wk.elemI eM haA (j := 118) (by decide) q54
  have e1119 : cl.slots[119]? = some (.int 9) := Wk.elemI eM haA (j := 119) (by decide) q55
  have e1120 : cl.slots[120]? = some (.int 0) := Wk.elemI eM haA (j := 120) (by decide) q56
  have e1121 : cl.slots[121]? = some (.int 10) := Wk.elemI eM haA (j := 121) (by decide) q57
  have hall : ∀ j, j < 128 → cl.slots[j]? = some (.int (tabL.getD j 0)) := by
    intro j hj
    have eMj : ∀ idx, ((Jvm.Term.static "com/example/particlade/particlade/Nucleotides" "MASKS" "[B") : Jvm.Term).eval #[Value.int i0] s none idx s = some (.ref M) := fun _ => eM
    have u0 := Cond.all_elim (eMj []) haA q2 j (by omega)
    have u1 := Cond.all_elim (eMj []) haA q4 j (by omega)
    have u2 := Cond.all_elim (eMj []) haA q32 j (by omega)
    have u3 := Cond.all_elim (eMj []) haA q58 j (by omega)
    by_cases z : tabL.getD j 0 = 0 ∧ ¬ (j = 45 ∨ j = 63 ∨ j = 64 ∨ j = 65 ∨ j = 66 ∨ j = 67 ∨ j = 68 ∨ j = 69 ∨ j = 70 ∨ j = 71 ∨ j = 72 ∨ j = 73 ∨ j = 74 ∨ j = 75 ∨ j = 76 ∨ j = 77 ∨ j = 78 ∨ j = 79 ∨ j = 80 ∨ j = 81 ∨ j = 82 ∨ j = 83 ∨ j = 84 ∨ j = 85 ∨ j = 86 ∨ j = 87 ∨ j = 88 ∨ j = 89 ∨ j = 97 ∨ j = 98 ∨ j = 99 ∨ j = 100 ∨ j = 101 ∨ j = 102 ∨ j = 103 ∨ j = 104 ∨ j = 105 ∨ j = 106 ∨ j = 107 ∨ j = 108 ∨ j = 109 ∨ j = 110 ∨ j = 111 ∨ j = 112 ∨ j = 113 ∨ j = 114 ∨ j = 115 ∨ j = 116 ∨ j = 117 ∨ j = 118 ∨ j = 119 ∨ j = 120 ∨ j = 121)
    · rw [z.1]
      have zz := z.2
      by_cases r0 : 0 ≤ j ∧ j < 45
      · exact elemK (eMj [j]) haA hj ((Cond.or_of_right (nay (leK hj) (by have : (45 : Int32).toInt = 45 := rfl; omega))).symm.trans u0)
      by_cases r1 : 46 ≤ j ∧ j < 63
      · exact elemK (eMj [j]) haA hj ((Cond.or_of_right (nay (leK hj) (by have : (63 : Int32).toInt = 63 := rfl; omega))).symm.trans ((Cond.or_of_right (nay (ltK hj) (by have : (46 : Int32).toInt = 46 := rfl; omega))).symm.trans u1))
      by_cases r2 : 90 ≤ j ∧ j < 97
      · exact elemK (eMj [j]) haA hj ((Cond.or_of_right (nay (leK hj) (by have : (97 : Int32).toInt = 97 := rfl; omega))).symm.trans ((Cond.or_of_right (nay (ltK hj) (by have : (90 : Int32).toInt = 90 := rfl; omega))).symm.trans u2))
      by_cases r3 : 122 ≤ j ∧ j < 128
      · exact elemK (eMj [j]) haA hj ((Cond.or_of_right (nay (ltK hj) (by have : (122 : Int32).toInt = 122 := rfl; omega))).symm.trans u3)
      exfalso; omega
    · have z2 : j = 45 ∨ j = 63 ∨ j = 64 ∨ j = 65 ∨ j = 66 ∨ j = 67 ∨ j = 68 ∨ j = 69 ∨ j = 70 ∨ j = 71 ∨ j = 72 ∨ j = 73 ∨ j = 74 ∨ j = 75 ∨ j = 76 ∨ j = 77 ∨ j = 78 ∨ j = 79 ∨ j = 80 ∨ j = 81 ∨ j = 82 ∨ j = 83 ∨ j = 84 ∨ j = 85 ∨ j = 86 ∨ j = 87 ∨ j = 88 ∨ j = 89 ∨ j = 97 ∨ j = 98 ∨ j = 99 ∨ j = 100 ∨ j = 101 ∨ j = 102 ∨ j = 103 ∨ j = 104 ∨ j = 105 ∨ j = 106 ∨ j = 107 ∨ j = 108 ∨ j = 109 ∨ j = 110 ∨ j = 111 ∨ j = 112 ∨ j = 113 ∨ j = 114 ∨ j = 115 ∨ j = 116 ∨ j = 117 ∨ j = 118 ∨ j = 119 ∨ j = 120 ∨ j = 121 := by
        by_cases zz : j = 45 ∨ j = 63 ∨ j = 64 ∨ j = 65 ∨ j = 66 ∨ j = 67 ∨ j = 68 ∨ j = 69 ∨ j = 70 ∨ j = 71 ∨ j = 72 ∨ j = 73 ∨ j = 74 ∨ j = 75 ∨ j = 76 ∨ j = 77 ∨ j = 78 ∨ j = 79 ∨ j = 80 ∨ j = 81 ∨ j = 82 ∨ j = 83 ∨ j = 84 ∨ j = 85 ∨ j = 86 ∨ j = 87 ∨ j = 88 ∨ j = 89 ∨ j = 97 ∨ j = 98 ∨ j = 99 ∨ j = 100 ∨ j = 101 ∨ j = 102 ∨ j = 103 ∨ j = 104 ∨ j = 105 ∨ j = 106 ∨ j = 107 ∨ j = 108 ∨ j = 109 ∨ j = 110 ∨ j = 111 ∨ j = 112 ∨ j = 113 ∨ j = 114 ∨ j = 115 ∨ j = 116 ∨ j = 117 ∨ j = 118 ∨ j = 119 ∨ j = 120 ∨ j = 121
        · exact zz
        · exfalso
          have : ∀ n : Fin 128, tabL.getD n 0 = 0 ∨ (n.val = 45 ∨ n.val = 63 ∨ n.val = 64 ∨ n.val = 65 ∨ n.val = 66 ∨ n.val = 67 ∨ n.val = 68 ∨ n.val = 69 ∨ n.val = 70 ∨ n.val = 71 ∨ n.val = 72 ∨ n.val = 73 ∨ n.val = 74 ∨ n.val = 75 ∨ n.val = 76 ∨ n.val = 77 ∨ n.val = 78 ∨ n.val = 79 ∨ n.val = 80 ∨ n.val = 81 ∨ n.val = 82 ∨ n.val = 83 ∨ n.val = 84 ∨ n.val = 85 ∨ n.val = 86 ∨ n.val = 87 ∨ n.val = 88 ∨ n.val = 89 ∨ n.val = 97 ∨ n.val = 98 ∨ n.val = 99 ∨ n.val = 100 ∨ n.val = 101 ∨ n.val = 102 ∨ n.val = 103 ∨ n.val = 104 ∨ n.val = 105 ∨ n.val = 106 ∨ n.val = 107 ∨ n.val = 108 ∨ n.val = 109 ∨ n.val = 110 ∨ n.val = 111 ∨ n.val = 112 ∨ n.val = 113 ∨ n.val = 114 ∨ n.val = 115 ∨ n.val = 116 ∨ n.val = 117 ∨ n.val = 118 ∨ n.val = 119 ∨ n.val = 120 ∨ n.val = 121) := by decide +kernel
          rcases this ⟨j, hj⟩ with a | a
          · exact z ⟨a, zz⟩
          · exact zz a
      rcases z2 with rfl | rfl | rfl | rfl | rfl | rfl | rfl | rfl | rfl | rfl | rfl | rfl | rfl | rfl | rfl | rfl | rfl | rfl | rfl | rfl | rfl | rfl | rfl | rfl | rfl | rfl | rfl | rfl | rfl | rfl | rfl | rfl | rfl | rfl | rfl | rfl | rfl | rfl | rfl | rfl | rfl | rfl | rfl | rfl | rfl | rfl | rfl | rfl | rfl | rfl | rfl | rfl | rfl
      · exact e1045
      · exact e1063
      · exact e1064
      · exact e1065
      · exact e1066
      · exact e1067
      · exact e1068
      · exact e1069
      · exact e1070
      · exact e1071
      · exact e1072
      · exact e1073
      · exact e1074
      · exact e1075
      · exact e1076
      · exact e1077
      · exact e1078
      · exact e1079
      · exact e1080
      · exact e1081
      · exact e1082
      · exact e1083
      · exact e1084
      · exact e1085
      · exact e1086
      · exact e1087
      · exact e1088
      · exact e1089
      · exact e1097
      · exact e1098
      · exact e1099
      · exact e1100
      · exact e1101
      · exact e1102
      · exact e1103
      · exact e1104
      · exact e1105
      · exact e1106
      · exact e1107
      · exact e1108
      · exact e1109
      · exact e1110
      · exact e1111
      · exact e1112
      · exact e1113
      · exact e1114
      · exact e1115
      · exact e1116
      · exact e1117
      · exact e1118
      · exact e1119
      · exact e1120
      · exact e1121
  obtain ⟨n, o, h1, h2, h3, v, L, H', rfl, rfl, hp, N, hq⟩ := m_law l s _ hw s.heap i0 M cl sM A hz hall p e ha hc hk s m _ below hf ((Spec.applies_iff_loose hf).mp happ).1 ⟨rfl, State.Warmed39.refl s, Wk.Hp.start s s.heap⟩ trivial
  refine ⟨n, _, h1, h2, h3, hpost _ _ _ _ _ _ ⟨Cond.after_iff.mpr rfl, Cond.after_iff.mpr (eq_i res_at (Term.int_eval (1)) rfl), trivial⟩ ⟨hq.1, hq.2.1, (hq.2.2.sift fun y hy => Or.inr (N y hy)).mono (by decide) (by decide)⟩⟩
theorem main_1_1 : Claimed_1_1 := comes_1 fun _ _ _ _ _ _ h hF => ⟨h.1, hF⟩
theorem main_1_2 : Claimed_1_2 := comes_1 fun _ _ _ _ _ _ h hF => ⟨h.2.1, hF⟩
end Jvm.Pilot.@@N@@
namespace Jvm.Pilot.@@N@@
open Jvm Jvm.ClassFile Sem Op Lib Jvm.Free Jvm.Stand Jvm.Pilot.@@N@@.Jvm.D
/-! MADE BY PROGRAM (witnessworld.py) out of the Statement's table words and the real class files: 9 classes; the members and pool entries that the words name. The judged class is class 1, her method 1. -/
namespace start1
open Jvm.ClassFile
def u (s : String) : CpInfo := .utf8 (stringToUtf16 s)
/-- a pool by its gaps: so many unusable entries, then the entry; so many at the end -/
def gap : Nat → List CpInfo → List CpInfo
  | 0, r => r
  | n + 1, r => .unusable :: gap n r
def poolList (es : List (Nat × CpInfo)) (last : Nat) : List CpInfo := es.foldr (fun e r => gap e.1 (e.2 :: r)) (gap last [])
def pool (es : List (Nat × CpInfo)) (last : Nat) : Array CpInfo := ⟨poolList es last⟩
def fileOf (pool : Array CpInfo) (this : Nat) (attrs : Array Attribute := #[]) (ms : Array MethodInfo := #[]) (fl : Nat := 33) (sup : Nat := 0) (ifs : Array Nat := #[]) (fds : Array FieldInfo := #[]) : ClassFile where
  minorVersion := 0
  majorVersion := 65
  constantPool := pool
  accessFlags := fl
  thisClass := this
  superClass := sup
  interfaces := ifs
  fields := fds
  methods := ms
  attributes := attrs
def plain (name : String) (sup : Option ClassId) : Class where
  name := name
  kind := .ordinary
  loader := none
  accessFlags := 33
  super := sup
  interfaces := #[]
  cf := none
  fields := #[]
  methods := #[]
  instanceTypes := #[]
  staticTypes := #[]
  resolved := #[]
  callSites := []
  init := .initialized
  statics := none
  mirror := none

def pool0 : Array CpInfo := pool [(5, u "<init>"), (0, u "()V"), (1, .class_ 10), (1, u "java/lang/Object")] 113

def k0m0 : Method := { name := "<init>", desc := "()V", sig := { parameters := [], returnType := none }, accessFlags := 1, code := none }
/-- java/lang/Object -/
def k0 : Class := { plain "java/lang/Object" none with
  accessFlags := 33
  interfaces := #[]
  cf := some (fileOf pool0 8 #[] #[{ accessFlags := 1, nameIndex := 5, descriptorIndex := 6, attributes := #[] }] 33 0 #[] #[])
  fields := #[]
  methods := #[k0m0]
  instanceTypes := #[]
  staticTypes := #[]
  resolved := Array.replicate 124 none
  statics := none }

def pool1 : Array CpInfo := pool [(2, .class_ 4), (1, u "java/lang/Object"), (0, u "<init>"), (0, u "()V"), (0, .methodref 8 9), (0, .class_ 10), (0, .nameAndType 11 12), (0, u "com/example/particlade/particlade/Nucleotides"), (0, u "mask"), (0, u "(C)I"), (0, .methodref 14 15), (0, .class_ 16), (0, .nameAndType 17 12), (0, u "com/example/particlade/particlade/NucleotidesMaskPinLaw"), (0, u "expected"), (2, u "law"), (0, u "(I)Z")] 3

def k1m0 : Method := { name := "<init>", desc := "()V", sig := { parameters := [], returnType := none }, accessFlags := 2, code := none }
def k1c1 : Code := { maxStack := 2, maxLocals := 2, code := code, exceptionTable := #[], attributes := #[] }
def k1m1 : Method := { name := "law", desc := "(I)Z", sig := { parameters := [.int], returnType := some .boolean }, accessFlags := 9, code := some k1c1 }
def k1c2 : Code := { maxStack := 2, maxLocals := 2, code := method_3_code, exceptionTable := #[], attributes := #[] }
def k1m2 : Method := { name := "expected", desc := "(C)I", sig := { parameters := [.char], returnType := some .int }, accessFlags := 10, code := some k1c2 }
/-- com/example/particlade/particlade/NucleotidesMaskPinLaw -/
def k1 : Class := { plain "com/example/particlade/particlade/NucleotidesMaskPinLaw" (some 0) with
  accessFlags := 49
  interfaces := #[]
  cf := some (fileOf pool1 14 #[] #[{ accessFlags := 2, nameIndex := 5, descriptorIndex := 6, attributes := #[] }, { accessFlags := 9, nameIndex := 20, descriptorIndex := 21, attributes := #[] }, { accessFlags := 10, nameIndex := 17, descriptorIndex := 12, attributes := #[] }] 49 2 #[] #[])
  fields := #[]
  methods := #[k1m0, k1m1, k1m2]
  instanceTypes := #[]
  staticTypes := #[]
  resolved := Array.replicate 25 none
  statics := none }

def pool2 : Array CpInfo := pool [(2, .class_ 4), (1, u "java/lang/Object"), (0, u "<init>"), (0, u "()V"), (0, .fieldref 8 9), (0, .class_ 10), (0, .nameAndType 11 12), (0, u "com/example/particlade/particlade/Nucleotides"), (0, u "MASKS"), (0, u "[B"), (38, u "A"), (5, u "C"), (1, u "G"), (24, u "STATES"), (0, u "I"), (2, u "ANY"), (3, u "T"), (3, u "mask"), (0, u "(C)I")] 25

def k2m0 : Method := { name := "<init>", desc := "()V", sig := { parameters := [], returnType := none }, accessFlags := 2, code := none }
def k2c1 : Code := { maxStack := 2, maxLocals := 1, code := prog_21_method_2_code, exceptionTable := #[], attributes := #[] }
def k2m1 : Method := { name := "mask", desc := "(C)I", sig := { parameters := [.char], returnType := some .int }, accessFlags := 8, code := some k2c1 }
/-- com/example/particlade/particlade/Nucleotides -/
def k2 : Class := { plain "com/example/particlade/particlade/Nucleotides" (some 0) with
  accessFlags := 48
  interfaces := #[]
  cf := some (fileOf pool2 8 #[] #[{ accessFlags := 2, nameIndex := 5, descriptorIndex := 6, attributes := #[] }, { accessFlags := 8, nameIndex := 96, descriptorIndex := 97, attributes := #[] }] 48 2 #[] #[{ accessFlags := 24, nameIndex := 84, descriptorIndex := 85, attributes := #[] }, { accessFlags := 24, nameIndex := 88, descriptorIndex := 85, attributes := #[] }, { accessFlags := 26, nameIndex := 51, descriptorIndex := 85, attributes := #[] }, { accessFlags := 26, nameIndex := 57, descriptorIndex := 85, attributes := #[] }, { accessFlags := 26, nameIndex := 59, descriptorIndex := 85, attributes := #[] }, { accessFlags := 26, nameIndex := 92, descriptorIndex := 85, attributes := #[] }, { accessFlags := 26, nameIndex := 11, descriptorIndex := 12, attributes := #[] }])
  fields := #[{ name := "STATES", type := .int, accessFlags := 24, slot := 0, constantValue := 0 }, { name := "ANY", type := .int, accessFlags := 24, slot := 1, constantValue := 0 }, { name := "A", type := .int, accessFlags := 26, slot := 2, constantValue := 0 }, { name := "C", type := .int, accessFlags := 26, slot := 3, constantValue := 0 }, { name := "G", type := .int, accessFlags := 26, slot := 4, constantValue := 0 }, { name := "T", type := .int, accessFlags := 26, slot := 5, constantValue := 0 }, { name := "MASKS", type := (.array .byte), accessFlags := 26, slot := 6, constantValue := 0 }]
  methods := #[k2m0, k2m1]
  instanceTypes := #[]
  staticTypes := #[.int, .int, .int, .int, .int, .int, (.array .byte)]
  resolved := Array.replicate 123 none
  statics := some 0 }

def pool3 : Array CpInfo := pool [(1, u "java/lang/Cloneable"), (0, .class_ 1), (0, u "java/lang/Object"), (0, .class_ 3)] 3

/-- java/lang/Cloneable -/
def k3 : Class := { plain "java/lang/Cloneable" (some 0) with
  accessFlags := 1537
  interfaces := #[]
  cf := some (fileOf pool3 2 #[] #[] 1537 4 #[] #[])
  fields := #[]
  methods := #[]
  instanceTypes := #[]
  staticTypes := #[]
  resolved := Array.replicate 8 none
  statics := none }

def pool4 : Array CpInfo := pool [(1, u "java/io/Serializable"), (0, .class_ 1), (0, u "java/lang/Object"), (0, .class_ 3)] 3

/-- java/io/Serializable -/
def k4 : Class := { plain "java/io/Serializable" (some 0) with
  accessFlags := 1537
  interfaces := #[]
  cf := some (fileOf pool4 2 #[] #[] 1537 4 #[] #[])
  fields := #[]
  methods := #[]
  instanceTypes := #[]
  staticTypes := #[]
  resolved := Array.replicate 8 none
  statics := none }

/-- the primitive byte -/
def k5 : Class := { plain "byte" none with kind := .primitive 'B', accessFlags := 0x411 }
/-- [B -/
def k6 : Class := { plain "[B" (some 0) with kind := .array 5 .byte, interfaces := #[3, 4], accessFlags := 1041 }

/-- the primitive int -/
def k7 : Class := { plain "int" none with kind := .primitive 'I', accessFlags := 0x411 }
/-- [I -/
def k8 : Class := { plain "[I" (some 0) with kind := .array 7 .int, interfaces := #[3, 4], accessFlags := 1041 }

def heap : Heap := #[{ cls := 2, slots := #[.int 0, .int 0, .int 0, .int 0, .int 0, .int 0, .ref 1], vm := .statics 2 },
  { cls := 6, slots := #[.int 0, .int 0, .int 0, .int 0, .int 0, .int 0, .int 0, .int 0, .int 0, .int 0, .int 0, .int 0, .int 0, .int 0, .int 0, .int 0, .int 0, .int 0, .int 0, .int 0, .int 0, .int 0, .int 0, .int 0, .int 0, .int 0, .int 0, .int 0, .int 0, .int 0, .int 0, .int 0, .int 0, .int 0, .int 0, .int 0, .int 0, .int 0, .int 0, .int 0, .int 0, .int 0, .int 0, .int 0, .int 0, .int 15, .int 0, .int 0, .int 0, .int 0, .int 0, .int 0, .int 0, .int 0, .int 0, .int 0, .int 0, .int 0, .int 0, .int 0, .int 0, .int 0, .int 0, .int 15, .int 0, .int 1, .int 14, .int 2, .int 13, .int 0, .int 0, .int 4, .int 11, .int 0, .int 0, .int 12, .int 0, .int 3, .int 15, .int 0, .int 0, .int 0, .int 5, .int 6, .int 8, .int 8, .int 7, .int 9, .int 0, .int 10, .int 0, .int 0, .int 0, .int 0, .int 0, .int 0, .int 0, .int 1, .int 14, .int 2, .int 13, .int 0, .int 0, .int 4, .int 11, .int 0, .int 0, .int 12, .int 0, .int 3, .int 15, .int 0, .int 0, .int 0, .int 5, .int 6, .int 8, .int 8, .int 7, .int 9, .int 0, .int 10, .int 0, .int 0, .int 0, .int 0, .int 0, .int 0], vm := .none }]
def classes : Array Class := #[k0, k1, k2, k3, k4, k5, k6, k7, k8]
def interned : List (Array UInt16 × Addr) := []
def slotsUsed : Nat := 135
def theMethod : MethodId := ⟨1, 1⟩
def args0 : Array Value := #[.int 5]
def aboutOver (below : List Frame) : State where
  vm := { classes := classes, interned := interned.toArray }
  heap := heap
  slotsUsed := slotsUsed
  threads := #[{ frames := .invoking theMethod args0 :: below }]
def below0 : List Frame := [.native { method := ⟨0, 0⟩, args := #[] }]
def about1 : State := aboutOver below0
def p0 : Program := .bare "" "" ""
def e0 : Env := launch0.env 0 0 0
theorem w_frames : about1.frames = Frame.invoking theMethod args0 :: below0 := rfl
set_option maxRecDepth 65536 in
theorem w_args : argsFit about1.vm theMethod args0 = true := by decide +kernel
set_option maxRecDepth 65536 in
theorem w_heap : heapFits about1 = true := by decide +kernel
set_option maxRecDepth 65536 in
theorem w_runnable : about1.curStatus? = some .runnable := by decide +kernel
set_option maxRecDepth 65536 in
theorem w_alone : about1.alone = true := by decide +kernel
set_option maxRecDepth 65536 in
theorem w_named : about1.methodNamed? x = some theMethod := by decide +kernel
set_option maxRecDepth 65536 in
theorem w_hears : about1.hears theMethod below0 = true := by decide +kernel
set_option maxRecDepth 65536 in
theorem w_ripe : about1.ripe theMethod args0 below0 = true := by decide +kernel
theorem w_running : about1.status = .running := rfl
set_option maxRecDepth 65536 in
theorem w_room : about1.hasRoom e0.platform room_1 = true :=
  launch0.hasRoom_least _ room_1 (by decide +kernel) (by decide +kernel) (by decide +kernel) (by decide +kernel) (by decide +kernel) (by decide +kernel)
theorem allAtoms_all (ts : List Jvm.Cond) (a : Array Jvm.Value) (st : Jvm.State) : (allAtoms ts).before a st = ts.all (fun c => c.before a st) := by
  induction ts with
  | nil => rfl
  | cons c t ih =>
    show (Jvm.Cond.and c (allAtoms t)).before a st = _
    rw [Jvm.Cond.before_and, ih, List.all_cons]
def words1 : List Jvm.Cond := Jvm.Cond.code x code maxLocals ret :: tables_1
/-- a 'code' word, met by the world's own term for the bytes: nothing is compared byte by byte -/
theorem code_word {y : MethodName} {bytes : ByteArray} {mx : Nat} {rt : Option FieldType} {a : Array Value} {s : State} {m : MethodId} {meth : Method} {c : Code} (h1 : s.methodNamed? y = some m) (h2 : s.vm.method? m = some meth) (h3 : meth.code = some c) (h4 : c.code = bytes)
    (h5 : (c.maxLocals == mx && c.exceptionTable.isEmpty && decide (c.maxStack ≤ mostOperands) && decide (meth.sig.returnType = rt) && !meth.locks && decide (parseMethodDescriptor y.desc = some meth.sig)) = true) : (Jvm.Cond.code y bytes mx rt).before a s = true := by
  simp only [Bool.and_eq_true, beq_iff_eq, Bool.not_eq_true', decide_eq_true_eq] at h5
  obtain ⟨⟨⟨⟨⟨g1, g2⟩, g3⟩, g4⟩, g5⟩, g6⟩ := h5
  simp [Cond.before, Cond.holds, Cond.value, h1, h2, h3, h4, g1, g2, g3, g4, g5, g6]
def isCode : Jvm.Cond → Bool
  | .code _ _ _ _ => true
  | _ => false
theorem all_split {L : List Jvm.Cond} {P : Jvm.Cond → Bool} (h1 : L.all (fun c => isCode c || P c) = true) (h2 : ∀ c ∈ L.filter isCode, P c = true) : L.all P = true := by
  refine List.all_eq_true.mpr fun c hc => ?_
  have h := List.all_eq_true.mp h1 c hc
  rcases Bool.eq_false_or_eq_true (isCode c) with hi | hi
  · exact h2 c (List.mem_filter.mpr ⟨hc, hi⟩)
  · simpa [hi] using h
set_option maxRecDepth 65536 in
theorem w_c0 : (Jvm.Cond.code x code maxLocals ret).before args0 about1 = true := code_word (m := ⟨1, 1⟩) (meth := k1m1) (c := k1c1) (by decide +kernel) rfl rfl rfl (by decide +kernel)
set_option maxRecDepth 65536 in
theorem w_c1 : (Jvm.Cond.code ({ cls := "com/example/particlade/particlade/Nucleotides", name := "mask", desc := "(C)I" } : Jvm.MethodName) prog_21_method_2_code (1 : Nat) (Option.some Jvm.ClassFile.FieldType.int)).before args0 about1 = true := code_word (m := ⟨2, 1⟩) (meth := k2m1) (c := k2c1) (by decide +kernel) rfl rfl rfl (by decide +kernel)
set_option maxRecDepth 65536 in
theorem w_c2 : (Jvm.Cond.code ({ cls := "com/example/particlade/particlade/NucleotidesMaskPinLaw", name := "expected", desc := "(C)I" } : Jvm.MethodName) method_3_code (2 : Nat) (Option.some Jvm.ClassFile.FieldType.int)).before args0 about1 = true := code_word (m := ⟨1, 2⟩) (meth := k1m2) (c := k1c2) (by decide +kernel) rfl rfl rfl (by decide +kernel)
def codes1 : List Jvm.Cond := [Jvm.Cond.code x code maxLocals ret, Jvm.Cond.code ({ cls := "com/example/particlade/particlade/Nucleotides", name := "mask", desc := "(C)I" } : Jvm.MethodName) prog_21_method_2_code (1 : Nat) (Option.some Jvm.ClassFile.FieldType.int), Jvm.Cond.code ({ cls := "com/example/particlade/particlade/NucleotidesMaskPinLaw", name := "expected", desc := "(C)I" } : Jvm.MethodName) method_3_code (2 : Nat) (Option.some Jvm.ClassFile.FieldType.int)]
set_option maxRecDepth 65536 in
theorem codes_eq : words1.filter isCode = codes1 := rfl
theorem w_codes : ∀ c ∈ words1.filter isCode, c.before args0 about1 = true := by
  rw [codes_eq]
  intro c hc
  simp only [codes1, List.mem_cons, List.not_mem_nil, or_false] at hc
  rcases hc with rfl | rfl | rfl
  · exact w_c0
  · exact w_c1
  · exact w_c2
set_option maxRecDepth 65536 in
theorem w_t1 : words1.all (fun c => isCode c || c.before args0 about1) = true := by decide +kernel
theorem w_tables : (allAtoms (Jvm.Cond.code x code maxLocals ret :: tables_1)).before args0 about1 = true := by
  rw [allAtoms_all]
  show words1.all (fun c => c.before args0 about1) = true
  refine all_split ?_ w_codes
  rw [w_t1]
set_option maxRecDepth 65536 in
theorem w_case : (Jvm.Cond.and given_1 narrow_1).before args0 about1 = true := by decide +kernel
theorem w_applies : (headSpec (Jvm.Cond.code x code maxLocals ret :: tables_1) room_1).applies x e0.platform about1 = true :=
  (Spec.applies_iff w_frames).mpr ⟨w_running, w_runnable, w_alone, w_named, w_hears, w_ripe, w_room, w_tables⟩
theorem atStart : AtStart classFile x code maxLocals ret World_1 tables_1 room_1 Calls_1 rest_1 Pre_1 launch0 p0 e0 about1 theMethod args0 below0 :=
  ⟨lists_1, trivial, launch0.admits_env _ _ _, launch0.least_env, fairChoices_fair.cas, fairChoices_fair.clock, w_frames, w_args, w_heap, w_applies, trivial, trivial, w_case⟩
end start1
theorem witness_1 : WitnessClaimed_1 := ⟨start1.p0, start1.e0, start1.about1, start1.theMethod, start1.args0, start1.below0, start1.atStart⟩
end Jvm.Pilot.@@N@@
