import JvmDerived
import JvmDerived.Pilot.@@N@@Statement
import JvmDerived.Pilot.@@N@@Code
set_option linter.unusedVariables false
set_option linter.unusedSimpArgs false
@@BLOCK:HandJ.lean.txt@@
@@BLOCK:SymMore.lean.txt@@
namespace Jvm.Wk
open Sem ClassFile Op Lib Jvm.Stand Jvm.Free Jvm.LawKit Jvm.RoadKit
/-! A small logic of walks: the heap above the law's start is a list of records, a walk is a predicate over (records, pc, locals, stack). -/
abbrev Key := String × String × String
abbrev Rec := (String × List Key × List Value) ⊕ (FieldType × List Value)
abbrev obj (C : String) (ks : List Key) (vs : List Value) : Rec := Sum.inl (C, ks, vs)
abbrev arr (t : FieldType) (vs : List Value) : Rec := Sum.inr (t, vs)
abbrev ints (xs : List Int32) : Rec := arr .int (xs.map Value.int)
abbrev longs (xs : List Int64) : Rec := arr .long (xs.map Value.long)
abbrev rf (hB : Heap) (i : Nat) : Value := .ref (hB.size + i)
def kslot (Z : State) (k : Key) : Nat := Jvm.RoadKit.slotOf Z k.1 k.2.1 k.2.2
def OvrT (Z : State) (cA : ClassId) (t : FieldType) : Prop := (∀ C, t = .object C → Ovr Z cA C) ∧ (∀ ty, t = .array ty → OvrA Z cA ty (FieldType.array ty).toString)
def RecAt (Z : State) (h : Heap) (a : Addr) : Rec → Prop
  | .inl (C, ks, vs) => Exa Z h a C ∧ Unt h a ∧ (∀ (i : Nat) (k : Key) (v : Value), ks[i]? = some k → vs[i]? = some v → Fld Z h a k.1 k.2.1 k.2.2 v) ∧ (∀ (i j : Nat) (k k' : Key), ks[i]? = some k → ks[j]? = some k' → i ≠ j → kslot Z k ≠ kslot Z k')
  | .inr (t, vs) => ∃ c : Cell, Arr Z h a c t ∧ c.slots = vs.toArray ∧ c.vm = .none ∧ Exa Z h a ("[" ++ t.toString) ∧ OvrT Z c.cls t ∧ ∀ v ∈ vs, fits t v = true
def Hp (Z : State) (hB h : Heap) (H : List Rec) : Prop := h.size = hB.size + H.length ∧ (∀ (a : Addr) (c : Cell), hB[a]? = some c → h[a]? = some c) ∧ ∀ (i : Nat) (r : Rec), H[i]? = some r → RecAt Z h (hB.size + i) r
section Heaps
variable {Z : State} {hB h h' : Heap} {H : List Rec} {a b : Addr} {r : Rec} {sl : Nat} {v : Value}
theorem RecAt.ext (E : Ext h h') : ∀ {r : Rec}, RecAt Z h a r → RecAt Z h' a r
  | .inl _, F => ⟨F.1.ext E, F.2.1.ext E, fun i k v h1 h2 => (F.2.2.1 i k v h1 h2).ext E, F.2.2.2⟩
  | .inr _, F => by
    obtain ⟨c, h1, h2, h3, h5, h6⟩ := F
    exact ⟨c, h1.ext E, h2, h3, h5.ext E, h6⟩
theorem RecAt.other (W : Wr h h' b sl v) (hne : a ≠ b) : ∀ {r : Rec}, RecAt Z h a r → RecAt Z h' a r
  | .inl _, F => ⟨F.1.wr W, F.2.1.wr W, fun i k v h1 h2 => (F.2.2.1 i k v h1 h2).other W (Or.inl hne), F.2.2.2⟩
  | .inr _, F => by
    obtain ⟨c, h1, h2, h3, h5, h6⟩ := F
    exact ⟨c, h1.other W hne, h2, h3, h5.wr W, h6⟩
theorem RecAt.lt : ∀ {r : Rec}, RecAt Z h a r → a < h.size
  | .inl _, F => F.1.lt
  | .inr _, F => by obtain ⟨c, h1, -⟩ := F; exact h1.lt
theorem Hp.toExt (P : Hp Z hB h H) : Ext hB h := ⟨by rw [P.1]; exact Nat.le_add_right _ _, P.2.1⟩
theorem Hp.start (Z : State) (hB : Heap) : Hp Z hB hB [] := ⟨rfl, fun _ _ q => q, fun i r q => by cases q⟩
theorem Hp.at (P : Hp Z hB h H) {i : Nat} (q : H[i]? = some r) : RecAt Z h (hB.size + i) r := P.2.2 i r q
theorem Hp.setR (P : Hp Z hB h H) {i : Nat} {r r' : Rec} (q : H[i]? = some r) (W : Wr h h' (hB.size + i) sl v) (F : RecAt Z h' (hB.size + i) r') : Hp Z hB h' (H.set i r') := by
  refine ⟨by rw [W.size, P.1, List.length_set], fun a c ha => ?_, fun j r2 hj => ?_⟩
  · obtain ⟨c', e1, -, -, -, e5, -⟩ := wr_at W (P.2.1 a c ha)
    have : a < hB.size := (Array.getElem?_eq_some_iff.mp ha).1
    rw [e1, e5 fun q => absurd this (by rw [q]; exact Nat.not_lt.mpr (Nat.le_add_right _ _))]
  · rw [List.getElem?_set] at hj
    split at hj
    · rename_i e
      subst e
      split at hj
      · cases hj; exact F
      · cases hj
    · rename_i e
      exact (P.2.2 j r2 hj).other W fun q => e (Nat.add_left_cancel q).symm
theorem Hp.wrO (P : Hp Z hB h H) {i j : Nat} {C : String} {ks : List Key} {vs : List Value} {k : Key} (q : H[i]? = some (obj C ks vs)) (hk : ks[j]? = some k) (hj : j < vs.length) (W : Wr h h' (hB.size + i) (kslot Z k) v) : Hp Z hB h' (H.set i (obj C ks (vs.set j v))) := by
  obtain ⟨f1, f2, f3, f4⟩ := P.at q
  refine P.setR q W ⟨f1.wr W, f2.wr W, fun i' k' v' h1 h2 => ?_, f4⟩
  by_cases e : j = i'
  · subst e
    rw [List.getElem?_set_self hj] at h2
    cases h2
    cases hk.symm.trans h1
    exact (f3 j k vs[j] hk (List.getElem?_eq_getElem hj)).same W
  · rw [List.getElem?_set_ne e] at h2
    exact (f3 i' k' v' h1 h2).other W (Or.inr (f4 i' j k' k h1 hk (Ne.symm e)))
theorem Hp.wrA (P : Hp Z hB h H) {i j : Nat} {t : FieldType} {vs : List Value} (q : H[i]? = some (arr t vs)) (hf : fits t v = true) (W : Wr h h' (hB.size + i) j v) : Hp Z hB h' (H.set i (arr t (vs.set j v))) := by
  obtain ⟨c, h1, h2, h3, h5, h6, h7⟩ := P.at q
  refine P.setR q W ⟨c.setSlot j v, h1.same W, ?_, h3, h5.wr W, h6, fun w hw => ?_⟩
  · show c.slots.setIfInBounds j v = _
    rw [h2]; simp
  · rcases List.mem_or_eq_of_mem_set hw with z | z
    · exact h7 w z
    · rw [z]; exact hf
theorem Hp.push (P : Hp Z hB h H) (E : Ext h h') (hs : h'.size ≤ h.size + 1) (F : RecAt Z h' h.size r) : Hp Z hB h' (H ++ [r]) := by
  have hlt : Array.size h < Array.size h' := F.lt
  refine ⟨by rw [List.length_append, List.length_singleton]; have := P.1; omega, fun a c ha => E.2 _ _ (P.2.1 a c ha), fun i r2 hi => ?_⟩
  rw [List.getElem?_append] at hi
  split at hi
  · exact (P.2.2 i r2 hi).ext E
  · rename_i e
    have hl := P.1
    obtain ⟨h1, h2⟩ := List.getElem?_eq_some_iff.mp hi
    simp only [List.length_singleton] at h1
    have e2 : i = H.length := by omega
    subst e2
    simp only [Nat.sub_self, List.getElem_cons_zero] at h2
    subst h2
    rw [← hl]; exact F
theorem Hp.fld (P : Hp Z hB h H) {i j : Nat} {C O n d : String} {ks : List Key} {vs : List Value} (q : H[i]? = some (obj C ks vs)) (hk : ks[j]? = some (O, n, d)) (hv : vs[j]? = some v) : Fld Z h (hB.size + i) O n d v := (P.at q).2.2.1 j _ v hk hv
theorem Hp.exa (P : Hp Z hB h H) {i : Nat} {C : String} {ks : List Key} {vs : List Value} (q : H[i]? = some (obj C ks vs)) : Exa Z h (hB.size + i) C := (P.at q).1
theorem Hp.exaA (P : Hp Z hB h H) {i : Nat} {t : FieldType} {vs : List Value} {C : String} (q : H[i]? = some (arr t vs)) (hC : "[" ++ t.toString = C) : Exa Z h (hB.size + i) C := by
  obtain ⟨c, -, -, -, h5, -⟩ := P.at q
  exact hC ▸ h5
theorem RecAt.congr (e : h'[a]? = h[a]?) : ∀ {r : Rec}, RecAt Z h a r → RecAt Z h' a r
  | .inl _, F => by
    obtain ⟨⟨c1, k1, f1, f2⟩, ⟨c2, g1, g2⟩, F3, F4⟩ := F
    refine ⟨⟨c1, k1, e.trans f1, f2⟩, ⟨c2, e.trans g1, g2⟩, fun i k v h1 h2 => ?_, F4⟩
    obtain ⟨c, cf, kk, i', f, q, r⟩ := F3 i k v h1 h2
    exact ⟨c, cf, kk, i', f, e.trans q, r⟩
  | .inr _, F => by
    obtain ⟨c, ⟨h1, h1'⟩, h2, h3, ⟨c5, k5, h5, h5'⟩, h6⟩ := F
    exact ⟨c, ⟨e.trans h1, h1'⟩, h2, h3, ⟨c5, k5, e.trans h5, h5'⟩, h6⟩
theorem toNat_len {n : Nat} (h : n < 2 ^ 31) : n.toInt32.toNatClampNeg = n ∧ ¬ n.toInt32 < 0 := by
  refine ⟨by simp only [Int32.toNatClampNeg, len_toInt h]; omega, ?_⟩
  rw [Int32.lt_iff_toInt_lt, len_toInt h]; have : (0 : Int32).toInt = 0 := rfl; omega
theorem Hp.arv (P : Hp Z hB h H) {i : Nat} {t : FieldType} {vs : List Value} (q : H[i]? = some (arr t vs)) (hl : vs.length < 2 ^ 31) (d : Value) : ∃ k, Arv Z h (hB.size + i) k t vs.length.toInt32 vs d := by
  obtain ⟨c, h1, h2, h3, h5, h6, h7⟩ := P.at q
  have hs : c.slots.size = vs.length := by rw [h2, List.size_toArray]
  refine ⟨c.cls, c, h1, rfl, by rw [hs, (toNat_len hl).1], (toNat_len hl).2, fun k hk => ?_, fun k hk => ?_⟩
  · rw [hs] at hk
    rw [h2, List.getElem?_toArray, List.getElem?_eq_getElem hk, List.getD_eq_getElem?_getD, List.getElem?_eq_getElem hk]; rfl
  · rw [hs] at hk
    rw [List.getD_eq_getElem?_getD, List.getElem?_eq_getElem hk]; exact h7 _ (List.getElem_mem hk)
theorem Hp.copied (P : Hp Z hB h H) {i : Nat} {t : FieldType} {vs vs' : List Value} {k : ClassId} {d : Value} (q : H[i]? = some (arr t vs)) (hz : h'.size ≤ h.size) (K : Keep h h' [hB.size + i]) (hl : vs.length < 2 ^ 31) (hlen : vs'.length = vs.length) (A : Arv Z h' (hB.size + i) k t vs.length.toInt32 vs' d) : Hp Z hB h' (H.set i (arr t vs')) := by
  refine ⟨by rw [List.length_set, ← P.1]; exact Nat.le_antisymm hz K.1, fun a c ha => ?_, fun j r2 hj => ?_⟩
  · have : a < hB.size := (Array.getElem?_eq_some_iff.mp ha).1
    exact K.2.1 a c (P.2.1 a c ha) (by simp only [List.mem_singleton]; intro e; rw [e] at this; exact absurd this (Nat.not_lt.mpr (Nat.le_add_right _ _)))
  · by_cases e : i = j
    · subst e
      have hi := (List.getElem?_eq_some_iff.mp q).1
      rw [List.getElem?_set_self hi] at hj
      cases hj
      obtain ⟨c, h1, h2, h3, h5, h6, h7⟩ := P.at q
      obtain ⟨c', a1, a2, a3, a4, a5, a6⟩ := A
      obtain ⟨c2, b1, b2, b3, b4⟩ := K.2.2 _ c h1.1
      cases a1.1.symm.trans b1
      have hs : c'.slots.size = vs'.length := by rw [a3, (toNat_len hl).1, hlen]
      refine ⟨c', a1, ?_, b3.trans h3, h5.keep K, b2 ▸ h6, fun v hv => ?_⟩
      · apply Array.ext_getElem?
        intro n
        by_cases hn : n < c'.slots.size
        · rw [a5 n hn, List.getElem?_toArray, List.getD_eq_getElem?_getD, List.getElem?_eq_getElem (hs ▸ hn)]; rfl
        · rw [Array.getElem?_eq_none (Nat.le_of_not_lt hn), List.getElem?_toArray, List.getElem?_eq_none (by omega)]
      · obtain ⟨n, hn, rfl⟩ := List.getElem_of_mem hv
        have := a6 n (by omega)
        rw [List.getD_eq_getElem?_getD, List.getElem?_eq_getElem hn] at this; exact this
    · rw [List.getElem?_set_ne e] at hj
      have R := P.2.2 j r2 hj
      refine R.congr ?_
      obtain ⟨cj, hcj⟩ : ∃ c, h[hB.size + j]? = some c := ⟨_, Array.getElem?_eq_getElem R.lt⟩
      rw [hcj]; exact K.2.1 _ _ hcj (by simp only [List.mem_singleton]; intro q; exact e (Nat.add_left_cancel q).symm)
end Heaps
/-- what an array's place holds; an array with one place set -/
def gI (l : List Int32) (i : Int32) : Option Int32 := if i < 0 then none else l[i.toNatClampNeg]?
def sI (l : List Int32) (i x : Int32) : Option (List Int32) := if i < 0 then none else if i.toNatClampNeg < l.length then some (l.set i.toNatClampNeg x) else none
theorem gI_at {l : List Int32} {i x : Int32} (h : gI l i = some x) : ¬ i < 0 ∧ l[i.toNatClampNeg]? = some x := by
  unfold gI at h; split at h
  · cases h
  · rename_i q; exact ⟨q, h⟩
theorem sI_at {l l' : List Int32} {i x : Int32} (h : sI l i x = some l') : ¬ i < 0 ∧ i.toNatClampNeg < l.length ∧ l' = l.set i.toNatClampNeg x := by
  unfold sI at h; split at h
  · cases h
  · rename_i q; split at h
    · rename_i r; cases h; exact ⟨q, r, rfl⟩
    · cases h
section Walk
/-- the walk comes to its return -/
def Done (Z : State) (hB : Heap) (R : Room) (Q : Option Value → List Rec → Prop) (p : Program) (e : Env) (s : State) (below : List Frame) (S0 : State) : Prop :=
  ∃ U o, Steps p.tables e below S0 U ∧ U.status = .running ∧ Ended U below o ∧ ∃ v L H', o = .returned v ∧ Q v H' ∧ Hp Z hB U.heap H' ∧ Fr hB.size L ∧ FrameEnd s o U L R.cells R.slots
def Cx (Z : State) (hB : Heap) (y : MethodName) (bytes : ByteArray) (ml : Nat) (ret : Option FieldType) (n1 : Nat) (p : Program) (s : State) (m : MethodId) (meth : Method) (c : Code) : Prop :=
  p.tables.exec = Jvm.exec ∧ Z.Warmed39 s.vm ∧ c.code = bytes ∧ c.maxLocals = ml ∧ s.vm.findClass y.cls = some m.cls ∧ meth.name = y.name ∧ meth.sig.returnType = ret ∧ meth.locks = false ∧ s.heap.size = hB.size + n1
def WP (l : Launch) (Z : State) (hB : Heap) (y : MethodName) (bytes : ByteArray) (ml : Nat) (ret : Option FieldType) (R : Room) (n1 : Nat) (Q : Option Value → List Rec → Prop) (sl : Nat) (H : List Rec) (pc : Nat) (Ls : Array Slot) (st : List Value) : Prop :=
  ∀ p e s m args below meth c, Cx Z hB y bytes ml ret n1 p s m meth c → ∀ T locs cells slots, Stand p l e R s m args below meth c T locs cells slots → Fr hB.size locs → Hp Z hB T.heap H → slots ≤ sl →
    Done Z hB R Q p e s below (T.setTop (mkF m pc Ls st))
/-- a method's contract at given arguments and records -/
def Ctr (l : Launch) (Z : State) (hB : Heap) (y : MethodName) (bytes : ByteArray) (ml : Nat) (ret : Option FieldType) (ws : List Jvm.Cond) (rm : Room) (as' : Array Value) (H : List Rec) (Q : Option Value → List Rec → Prop) : Prop :=
  MetFree l y (head1 (Jvm.Cond.code y bytes ml ret :: ws) rm) (fun a U => a = as' ∧ Z.Warmed39 U.vm ∧ Hp Z hB U.heap H) (fun _ _ _ _ _ => True)
    (fun _ U o U' => ∃ v L H', o = .returned v ∧ Q v H' ∧ Hp Z hB U'.heap H' ∧ Fr hB.size L ∧ FrameEnd U o U' L rm.cells rm.slots)
variable {l : Launch} {Z : State} {hB : Heap} {y : MethodName} {bytes : ByteArray} {ml : Nat} {ret : Option FieldType} {R : Room} {n1 : Nat} {Q : Option Value → List Rec → Prop} {sl : Nat} {H H' : List Rec} {pc pc' : Nat} {Ls Ls' : Array Slot} {st st' rest : List Value} {a0 : Array Value}
theorem exact' {p : Program} {l : Launch} {e : Env} {R : Room} {s : State} {m : MethodId} {args : Array Value} {below : List Frame} {meth : Method} {c : Code} {T : State} {locs : List Loc} {cells slots : Nat} (X : Stand p l e R s m args below meth c T locs cells slots) {k : Nat} (hk : T.heap.size ≤ s.heap.size + k) : Stand p l e R s m args below meth c T locs k slots :=
  { X with same := ⟨X.same.1, X.same.2.1, hk, X.same.2.2.2⟩ }
theorem ctr {ws : List Jvm.Cond} {as' : Array Value} (hpn : plainFor y = true) (ef : ∀ m, entryFrame m as' ml = mkF m 0 Ls []) (h : WP l Z hB y bytes ml ret R H.length Q 0 H 0 Ls []) : Ctr l Z hB y bytes ml ret ws R as' H Q := by
  refine MetFree.of_bodySF hpn hisR ?_
  intro p e s m args below meth c s₁ Bd hml0 hP hK
  obtain ⟨rfl, hZ, hh⟩ := hP
  have X0 := Stand.of_body Bd
  have e0 : s₁.heap = s.heap := by rw [Bd.state]; rfl
  obtain ⟨U, o, st, h1, h2, v, L, H', ho, hq, hp, hf, hfe⟩ := h p e s m _ below meth c ⟨Bd.exec, hZ, Bd.bytes, hml0, findClass_of_methodNamed Bd.named, (name_of_methodNamed Bd.named Bd.method).1, Bd.returns, Bd.notSynchronized, hh.1⟩ s₁ [] 0 0 X0 (Fr.nil _) (by rw [e0]; exact hh) (Nat.zero_le _)
  exact ⟨U, o, castTop (ef m) st, h1, h2, v, L, H', ho, hq, hp, hf, hfe⟩
/-- a step that leaves the state as it is, but for the frame -/
theorem WP.step (k : ∀ (p : Program) (e : Env) (s : State) (m : MethodId) (args : Array Value) (below : List Frame) (meth : Method) (c : Code) (T : State) (locs : List Loc) (cells slots : Nat), Cx Z hB y bytes ml ret n1 p s m meth c → Stand p l e R s m args below meth c T locs cells slots → Hp Z hB T.heap H → ∀ target, Steps p.tables e below (T.setTop (mkF m pc' Ls' st')) target → Steps p.tables e below (T.setTop (mkF m pc Ls st)) target)
    (hr : WP l Z hB y bytes ml ret R n1 Q sl H pc' Ls' st') : WP l Z hB y bytes ml ret R n1 Q sl H pc Ls st := by
  intro p e s m args below meth c C T locs cells slots X N P hs
  obtain ⟨U, o, h1, h2⟩ := hr p e s m args below meth c C T locs cells slots X N P hs
  exact ⟨U, o, k p e s m args below meth c T locs cells slots C X P U h1, h2⟩
/-- a step that warms the tables -/
theorem WP.stepT (k : ∀ (p : Program) (e : Env) (s : State) (m : MethodId) (args : Array Value) (below : List Frame) (meth : Method) (c : Code) (T : State) (locs : List Loc) (cells slots : Nat), Cx Z hB y bytes ml ret n1 p s m meth c → Stand p l e R s m args below meth c T locs cells slots → Hp Z hB T.heap H → ∃ T', Stand p l e R s m args below meth c T' locs cells slots ∧ T'.heap = T.heap ∧ ∀ target, Steps p.tables e below (T'.setTop (mkF m pc' Ls' st')) target → Steps p.tables e below (T.setTop (mkF m pc Ls st)) target)
    (hr : WP l Z hB y bytes ml ret R n1 Q sl H pc' Ls' st') : WP l Z hB y bytes ml ret R n1 Q sl H pc Ls st := by
  intro p e s m args below meth c C T locs cells slots X N P hs
  obtain ⟨T', X', e', k'⟩ := k p e s m args below meth c T locs cells slots C X P
  obtain ⟨U, o, h1, h2⟩ := hr p e s m args below meth c C T' locs cells slots X' N (by rw [e']; exact P) hs
  exact ⟨U, o, k' U h1, h2⟩
/-- a step that moves the heap -/
theorem WP.stepH {sl' : Nat} (k : ∀ (p : Program) (e : Env) (s : State) (m : MethodId) (args : Array Value) (below : List Frame) (meth : Method) (c : Code) (T : State) (locs : List Loc) (cells slots : Nat), Cx Z hB y bytes ml ret n1 p s m meth c → Stand p l e R s m args below meth c T locs cells slots → T.heap.size = s.heap.size + cells → Fr hB.size locs → Hp Z hB T.heap H → slots ≤ sl →
      ∃ T' locs' cells' slots', Stand p l e R s m args below meth c T' locs' cells' slots' ∧ Fr hB.size locs' ∧ Hp Z hB T'.heap H' ∧ slots' ≤ sl' ∧ ∀ target, Steps p.tables e below (T'.setTop (mkF m pc' Ls' st')) target → Steps p.tables e below (T.setTop (mkF m pc Ls st)) target)
    (hr : WP l Z hB y bytes ml ret R n1 Q sl' H' pc' Ls' st') : WP l Z hB y bytes ml ret R n1 Q sl H pc Ls st := by
  intro p e s m args below meth c C T locs cells slots X N P hs
  have hz : T.heap.size = s.heap.size + (T.heap.size - s.heap.size) := by have := X.same.2.1; have : s.heap.size ≤ T.heap.size := this; omega
  obtain ⟨T', locs', cells', slots', X', N', P', hs', k'⟩ := k p e s m args below meth c T locs _ slots C (exact' X (Nat.le_of_eq hz)) hz N P hs
  obtain ⟨U, o, h1, h2⟩ := hr p e s m args below meth c C T' locs' cells' slots' X' N' P' hs'
  exact ⟨U, o, k' U h1, h2⟩
theorem WP.monoQ {Q' : Option Value → List Rec → Prop} (hq : ∀ v H, Q v H → Q' v H) (h : WP l Z hB y bytes ml ret R n1 Q sl H pc Ls st) : WP l Z hB y bytes ml ret R n1 Q' sl H pc Ls st := by
  intro p e s m args below meth c C T locs cells slots X N P hs
  obtain ⟨U, o, h1, h2, h3, v, L, H', h4, h5, h6⟩ := h p e s m args below meth c C T locs cells slots X N P hs
  exact ⟨U, o, h1, h2, h3, v, L, H', h4, hq _ _ h5, h6⟩
theorem WP.mono {sl' : Nat} (hs : sl ≤ sl') (h : WP l Z hB y bytes ml ret R n1 Q sl' H pc Ls st) : WP l Z hB y bytes ml ret R n1 Q sl H pc Ls st := by
  intro p e s m args below meth c C T locs cells slots X N P hs'
  exact h p e s m args below meth c C T locs cells slots X N P (Nat.le_trans hs' hs)
theorem aloadN {k : Fin 4} {v : Value} (hd : decode bytes pc = .ok (.aload_n k, 1)) (hl : Ls[k.val]? = some (.val v)) (hv : v.isRef = true) (hp : pc + 1 = pc') (hr : WP l Z hB y bytes ml ret R n1 Q sl H pc' Ls (v :: st)) : WP l Z hB y bytes ml ret R n1 Q sl H pc Ls (st) := by
  subst hp
  exact WP.step (fun p e s m args below meth c T locs cells slots C X _ tgt h => XS.aloadN X.here C.1 rfl (hb C.2.2.1 hd) hl hv h) hr
theorem aload {k : Nat} {v : Value} (hd : decode bytes pc = .ok (.aload k, 2)) (hl : Ls[k]? = some (.val v)) (hv : v.isRef = true) (hp : pc + 2 = pc') (hr : WP l Z hB y bytes ml ret R n1 Q sl H pc' Ls (v :: st)) : WP l Z hB y bytes ml ret R n1 Q sl H pc Ls (st) := by
  subst hp
  exact WP.step (fun p e s m args below meth c T locs cells slots C X _ tgt h => XS.aload X.here C.1 rfl (hb C.2.2.1 hd) hl hv h) hr
theorem iloadN {k : Fin 4} {x : Int32} (hd : decode bytes pc = .ok (.iload_n k, 1)) (hl : Ls[k.val]? = some (.val (.int x))) (hp : pc + 1 = pc') (hr : WP l Z hB y bytes ml ret R n1 Q sl H pc' Ls (.int x :: st)) : WP l Z hB y bytes ml ret R n1 Q sl H pc Ls (st) := by
  subst hp
  exact WP.step (fun p e s m args below meth c T locs cells slots C X _ tgt h => XS.iloadN X.here C.1 rfl (hb C.2.2.1 hd) hl h) hr
theorem iload {k : Nat} {x : Int32} (hd : decode bytes pc = .ok (.iload k, 2)) (hl : Ls[k]? = some (.val (.int x))) (hp : pc + 2 = pc') (hr : WP l Z hB y bytes ml ret R n1 Q sl H pc' Ls (.int x :: st)) : WP l Z hB y bytes ml ret R n1 Q sl H pc Ls (st) := by
  subst hp
  exact WP.step (fun p e s m args below meth c T locs cells slots C X _ tgt h => XS.iload X.here C.1 rfl (hb C.2.2.1 hd) hl h) hr
theorem lloadN {k : Fin 4} {x : Int64} (hd : decode bytes pc = .ok (.lload_n k, 1)) (hl : Ls[k.val]? = some (.val (.long x))) (hp : pc + 1 = pc') (hr : WP l Z hB y bytes ml ret R n1 Q sl H pc' Ls (.long x :: st)) : WP l Z hB y bytes ml ret R n1 Q sl H pc Ls (st) := by
  subst hp
  exact WP.step (fun p e s m args below meth c T locs cells slots C X _ tgt h => XT.lloadN X.here C.1 rfl (hb C.2.2.1 hd) hl h) hr
theorem lload {k : Nat} {x : Int64} (hd : decode bytes pc = .ok (.lload k, 2)) (hl : Ls[k]? = some (.val (.long x))) (hp : pc + 2 = pc') (hr : WP l Z hB y bytes ml ret R n1 Q sl H pc' Ls (.long x :: st)) : WP l Z hB y bytes ml ret R n1 Q sl H pc Ls (st) := by
  subst hp
  exact WP.step (fun p e s m args below meth c T locs cells slots C X _ tgt h => XT.lload X.here C.1 rfl (hb C.2.2.1 hd) hl h) hr
theorem iconst {i : Int} (x : Int32) (hd : decode bytes pc = .ok (.iconst i, 1)) (hv : Int32.ofInt i = x) (hp : pc + 1 = pc') (hr : WP l Z hB y bytes ml ret R n1 Q sl H pc' Ls (.int x :: st)) : WP l Z hB y bytes ml ret R n1 Q sl H pc Ls (st) := by
  subst hp
  exact WP.step (fun p e s m args below meth c T locs cells slots C X _ tgt h => XS.iconst X.here C.1 rfl (hb C.2.2.1 hd) (hv ▸ h)) hr
theorem bipush {i : Int} (x : Int32) (hd : decode bytes pc = .ok (.bipush i, 2)) (hv : (Int8.ofInt i).toInt32 = x) (hp : pc + 2 = pc') (hr : WP l Z hB y bytes ml ret R n1 Q sl H pc' Ls (.int x :: st)) : WP l Z hB y bytes ml ret R n1 Q sl H pc Ls (st) := by
  subst hp
  exact WP.step (fun p e s m args below meth c T locs cells slots C X _ tgt h => XS.bipush X.here C.1 rfl (hb C.2.2.1 hd) (hv ▸ h)) hr
theorem sipush {i : Int} (x : Int32) (hd : decode bytes pc = .ok (.sipush i, 3)) (hv : (Int16.ofInt i).toInt32 = x) (hp : pc + 3 = pc') (hr : WP l Z hB y bytes ml ret R n1 Q sl H pc' Ls (.int x :: st)) : WP l Z hB y bytes ml ret R n1 Q sl H pc Ls (st) := by
  subst hp
  exact WP.step (fun p e s m args below meth c T locs cells slots C X _ tgt h => XT.sipushV X.here C.1 rfl x (hb C.2.2.1 hd) hv h) hr
theorem lconst {k : Fin 2} (x : Int64) (hd : decode bytes pc = .ok (.lconst k, 1)) (hv : Int64.ofNat k = x) (hp : pc + 1 = pc') (hr : WP l Z hB y bytes ml ret R n1 Q sl H pc' Ls (.long x :: st)) : WP l Z hB y bytes ml ret R n1 Q sl H pc Ls (st) := by
  subst hp
  exact WP.step (fun p e s m args below meth c T locs cells slots C X _ tgt h => XT.lconst X.here C.1 rfl (hb C.2.2.1 hd) (hv ▸ h)) hr
theorem aconstNull  (hd : decode bytes pc = .ok (.aconst_null, 1)) (hp : pc + 1 = pc') (hr : WP l Z hB y bytes ml ret R n1 Q sl H pc' Ls (.null :: st)) : WP l Z hB y bytes ml ret R n1 Q sl H pc Ls (st) := by
  subst hp
  exact WP.step (fun p e s m args below meth c T locs cells slots C X _ tgt h => XS.aconstNull X.here C.1 rfl (hb C.2.2.1 hd) h) hr
theorem iadd {x z : Int32} (hd : decode bytes pc = .ok (.iadd, 1)) (hp : pc + 1 = pc') (hr : WP l Z hB y bytes ml ret R n1 Q sl H pc' Ls (.int (x + z) :: st)) : WP l Z hB y bytes ml ret R n1 Q sl H pc Ls (.int z :: .int x :: st) := by
  subst hp
  exact WP.step (fun p e s m args below meth c T locs cells slots C X _ tgt h => XS.iadd X.here C.1 rfl (hb C.2.2.1 hd) rfl h) hr
theorem isub {x z : Int32} (hd : decode bytes pc = .ok (.isub, 1)) (hp : pc + 1 = pc') (hr : WP l Z hB y bytes ml ret R n1 Q sl H pc' Ls (.int (x - z) :: st)) : WP l Z hB y bytes ml ret R n1 Q sl H pc Ls (.int z :: .int x :: st) := by
  subst hp
  exact WP.step (fun p e s m args below meth c T locs cells slots C X _ tgt h => XS.isub X.here C.1 rfl (hb C.2.2.1 hd) rfl h) hr
theorem iand {x z : Int32} (hd : decode bytes pc = .ok (.iand, 1)) (hp : pc + 1 = pc') (hr : WP l Z hB y bytes ml ret R n1 Q sl H pc' Ls (.int (x &&& z) :: st)) : WP l Z hB y bytes ml ret R n1 Q sl H pc Ls (.int z :: .int x :: st) := by
  subst hp
  exact WP.step (fun p e s m args below meth c T locs cells slots C X _ tgt h => XS.iand X.here C.1 rfl (hb C.2.2.1 hd) rfl h) hr
theorem imul {x z : Int32} (hd : decode bytes pc = .ok (.imul, 1)) (hp : pc + 1 = pc') (hr : WP l Z hB y bytes ml ret R n1 Q sl H pc' Ls (.int (x * z) :: st)) : WP l Z hB y bytes ml ret R n1 Q sl H pc Ls (.int z :: .int x :: st) := by
  subst hp
  exact WP.step (fun p e s m args below meth c T locs cells slots C X _ tgt h => XS.imul X.here C.1 rfl (hb C.2.2.1 hd) rfl h) hr
theorem ixor {x z : Int32} (hd : decode bytes pc = .ok (.ixor, 1)) (hp : pc + 1 = pc') (hr : WP l Z hB y bytes ml ret R n1 Q sl H pc' Ls (.int (x ^^^ z) :: st)) : WP l Z hB y bytes ml ret R n1 Q sl H pc Ls (.int z :: .int x :: st) := by
  subst hp
  exact WP.step (fun p e s m args below meth c T locs cells slots C X _ tgt h => XT.ixor X.here C.1 rfl (hb C.2.2.1 hd) rfl h) hr
theorem ior {x z : Int32} (hd : decode bytes pc = .ok (.ior, 1)) (hp : pc + 1 = pc') (hr : WP l Z hB y bytes ml ret R n1 Q sl H pc' Ls (.int (x ||| z) :: st)) : WP l Z hB y bytes ml ret R n1 Q sl H pc Ls (.int z :: .int x :: st) := by
  subst hp
  exact WP.step (fun p e s m args below meth c T locs cells slots C X _ tgt h => XT.ior X.here C.1 rfl (hb C.2.2.1 hd) rfl h) hr
theorem ishl {x z : Int32} (hd : decode bytes pc = .ok (.ishl, 1)) (hp : pc + 1 = pc') (hr : WP l Z hB y bytes ml ret R n1 Q sl H pc' Ls (.int (x <<< (z &&& 31)) :: st)) : WP l Z hB y bytes ml ret R n1 Q sl H pc Ls (.int z :: .int x :: st) := by
  subst hp
  exact WP.step (fun p e s m args below meth c T locs cells slots C X _ tgt h => XT.ishl X.here C.1 rfl (hb C.2.2.1 hd) rfl h) hr
theorem ishr {x z : Int32} (hd : decode bytes pc = .ok (.ishr, 1)) (hp : pc + 1 = pc') (hr : WP l Z hB y bytes ml ret R n1 Q sl H pc' Ls (.int (x >>> (z &&& 31)) :: st)) : WP l Z hB y bytes ml ret R n1 Q sl H pc Ls (.int z :: .int x :: st) := by
  subst hp
  exact WP.step (fun p e s m args below meth c T locs cells slots C X _ tgt h => XT.ishr X.here C.1 rfl (hb C.2.2.1 hd) rfl h) hr
theorem iushr {x z : Int32} (hd : decode bytes pc = .ok (.iushr, 1)) (hp : pc + 1 = pc') (hr : WP l Z hB y bytes ml ret R n1 Q sl H pc' Ls (.int (XT.ushr x z) :: st)) : WP l Z hB y bytes ml ret R n1 Q sl H pc Ls (.int z :: .int x :: st) := by
  subst hp
  exact WP.step (fun p e s m args below meth c T locs cells slots C X _ tgt h => XT.iushr X.here C.1 rfl (hb C.2.2.1 hd) rfl h) hr
theorem ladd {x z : Int64} (hd : decode bytes pc = .ok (.ladd, 1)) (hp : pc + 1 = pc') (hr : WP l Z hB y bytes ml ret R n1 Q sl H pc' Ls (.long (x + z) :: st)) : WP l Z hB y bytes ml ret R n1 Q sl H pc Ls (.long z :: .long x :: st) := by
  subst hp
  exact WP.step (fun p e s m args below meth c T locs cells slots C X _ tgt h => XT.ladd X.here C.1 rfl (hb C.2.2.1 hd) rfl h) hr
theorem lsub {x z : Int64} (hd : decode bytes pc = .ok (.lsub, 1)) (hp : pc + 1 = pc') (hr : WP l Z hB y bytes ml ret R n1 Q sl H pc' Ls (.long (x - z) :: st)) : WP l Z hB y bytes ml ret R n1 Q sl H pc Ls (.long z :: .long x :: st) := by
  subst hp
  exact WP.step (fun p e s m args below meth c T locs cells slots C X _ tgt h => XT.lsub X.here C.1 rfl (hb C.2.2.1 hd) rfl h) hr
theorem land {x z : Int64} (hd : decode bytes pc = .ok (.land, 1)) (hp : pc + 1 = pc') (hr : WP l Z hB y bytes ml ret R n1 Q sl H pc' Ls (.long (x &&& z) :: st)) : WP l Z hB y bytes ml ret R n1 Q sl H pc Ls (.long z :: .long x :: st) := by
  subst hp
  exact WP.step (fun p e s m args below meth c T locs cells slots C X _ tgt h => XT.land X.here C.1 rfl (hb C.2.2.1 hd) rfl h) hr
theorem lmul {x z : Int64} (hd : decode bytes pc = .ok (.lmul, 1)) (hp : pc + 1 = pc') (hr : WP l Z hB y bytes ml ret R n1 Q sl H pc' Ls (.long (x * z) :: st)) : WP l Z hB y bytes ml ret R n1 Q sl H pc Ls (.long z :: .long x :: st) := by
  subst hp
  exact WP.step (fun p e s m args below meth c T locs cells slots C X _ tgt h => XT.lmul X.here C.1 rfl (hb C.2.2.1 hd) rfl h) hr
theorem lushr {x : Int64} {z : Int32} (hd : decode bytes pc = .ok (.lushr, 1)) (hp : pc + 1 = pc') (hr : WP l Z hB y bytes ml ret R n1 Q sl H pc' Ls (.long (XT.ushrL x z) :: st)) : WP l Z hB y bytes ml ret R n1 Q sl H pc Ls (.int z :: .long x :: st) := by
  subst hp
  exact WP.step (fun p e s m args below meth c T locs cells slots C X _ tgt h => XT.lushr X.here C.1 rfl (hb C.2.2.1 hd) rfl h) hr
theorem lcmp {x z : Int64} (hd : decode bytes pc = .ok (.lcmp, 1)) (hp : pc + 1 = pc') (hr : WP l Z hB y bytes ml ret R n1 Q sl H pc' Ls (.int (XT.cmpL x z) :: st)) : WP l Z hB y bytes ml ret R n1 Q sl H pc Ls (.long z :: .long x :: st) := by
  subst hp
  exact WP.step (fun p e s m args below meth c T locs cells slots C X _ tgt h => XT.lcmp X.here C.1 rfl (hb C.2.2.1 hd) rfl h) hr
theorem idiv {x z : Int32} (hd : decode bytes pc = .ok (.idiv, 1)) (hz : z ≠ 0) (hp : pc + 1 = pc') (hr : WP l Z hB y bytes ml ret R n1 Q sl H pc' Ls (.int (x / z) :: st)) : WP l Z hB y bytes ml ret R n1 Q sl H pc Ls (.int z :: .int x :: st) := by
  subst hp
  exact WP.step (fun p e s m args below meth c T locs cells slots C X _ tgt h => XS.idiv X.here C.1 rfl (hb C.2.2.1 hd) rfl hz h) hr
theorem irem {x z : Int32} (hd : decode bytes pc = .ok (.irem, 1)) (hz : z ≠ 0) (hp : pc + 1 = pc') (hr : WP l Z hB y bytes ml ret R n1 Q sl H pc' Ls (.int (x % z) :: st)) : WP l Z hB y bytes ml ret R n1 Q sl H pc Ls (.int z :: .int x :: st) := by
  subst hp
  exact WP.step (fun p e s m args below meth c T locs cells slots C X _ tgt h => iremM X C.1 rfl (hb C.2.2.1 hd) rfl hz h) hr
theorem ineg {x : Int32} (hd : decode bytes pc = .ok (.ineg, 1)) (hp : pc + 1 = pc') (hr : WP l Z hB y bytes ml ret R n1 Q sl H pc' Ls (.int (-x) :: st)) : WP l Z hB y bytes ml ret R n1 Q sl H pc Ls (.int x :: st) := by
  subst hp
  exact WP.step (fun p e s m args below meth c T locs cells slots C X _ tgt h => XS.ineg X.here C.1 rfl (hb C.2.2.1 hd) rfl h) hr
theorem lneg {x : Int64} (hd : decode bytes pc = .ok (.lneg, 1)) (hp : pc + 1 = pc') (hr : WP l Z hB y bytes ml ret R n1 Q sl H pc' Ls (.long (-x) :: st)) : WP l Z hB y bytes ml ret R n1 Q sl H pc Ls (.long x :: st) := by
  subst hp
  exact WP.step (fun p e s m args below meth c T locs cells slots C X _ tgt h => XT.lneg X.here C.1 rfl (hb C.2.2.1 hd) rfl h) hr
theorem i2l {x : Int32} (hd : decode bytes pc = .ok (.i2l, 1)) (hp : pc + 1 = pc') (hr : WP l Z hB y bytes ml ret R n1 Q sl H pc' Ls (.long x.toInt64 :: st)) : WP l Z hB y bytes ml ret R n1 Q sl H pc Ls (.int x :: st) := by
  subst hp
  exact WP.step (fun p e s m args below meth c T locs cells slots C X _ tgt h => XT.i2l X.here C.1 rfl (hb C.2.2.1 hd) rfl h) hr
theorem l2i {x : Int64} (hd : decode bytes pc = .ok (.l2i, 1)) (hp : pc + 1 = pc') (hr : WP l Z hB y bytes ml ret R n1 Q sl H pc' Ls (.int x.toInt32 :: st)) : WP l Z hB y bytes ml ret R n1 Q sl H pc Ls (.long x :: st) := by
  subst hp
  exact WP.step (fun p e s m args below meth c T locs cells slots C X _ tgt h => XT.l2i X.here C.1 rfl (hb C.2.2.1 hd) rfl h) hr
theorem i2c {x : Int32} (hd : decode bytes pc = .ok (.i2c, 1)) (hp : pc + 1 = pc') (hr : WP l Z hB y bytes ml ret R n1 Q sl H pc' Ls (.int x.toUInt32.toUInt16.toUInt32.toInt32 :: st)) : WP l Z hB y bytes ml ret R n1 Q sl H pc Ls (.int x :: st) := by
  subst hp
  exact WP.step (fun p e s m args below meth c T locs cells slots C X _ tgt h => XT.i2c X.here C.1 rfl (hb C.2.2.1 hd) rfl h) hr
theorem i2b {x : Int32} (hd : decode bytes pc = .ok (.i2b, 1)) (hp : pc + 1 = pc') (hr : WP l Z hB y bytes ml ret R n1 Q sl H pc' Ls (.int x.toInt8.toInt32 :: st)) : WP l Z hB y bytes ml ret R n1 Q sl H pc Ls (.int x :: st) := by
  subst hp
  exact WP.step (fun p e s m args below meth c T locs cells slots C X _ tgt h => XT.i2b X.here C.1 rfl (hb C.2.2.1 hd) rfl h) hr
theorem dup {v : Value} (hd : decode bytes pc = .ok (.dup, 1)) (hc : v.category = 1) (hp : pc + 1 = pc') (hr : WP l Z hB y bytes ml ret R n1 Q sl H pc' Ls (v :: v :: st)) : WP l Z hB y bytes ml ret R n1 Q sl H pc Ls (v :: st) := by
  subst hp
  exact WP.step (fun p e s m args below meth c T locs cells slots C X _ tgt h => XS.dup X.here C.1 rfl (hb C.2.2.1 hd) rfl hc h) hr
theorem dupX1 {v w : Value} (hd : decode bytes pc = .ok (.dup_x1, 1)) (hc : v.category = 1) (hc2 : w.category = 1) (hp : pc + 1 = pc') (hr : WP l Z hB y bytes ml ret R n1 Q sl H pc' Ls (v :: w :: v :: st)) : WP l Z hB y bytes ml ret R n1 Q sl H pc Ls (v :: w :: st) := by
  subst hp
  exact WP.step (fun p e s m args below meth c T locs cells slots C X _ tgt h => XT.dupX1 X.here C.1 rfl (hb C.2.2.1 hd) rfl hc hc2 h) hr
theorem dup2 {v w : Value} (hd : decode bytes pc = .ok (.dup2, 1)) (hc : v.category = 1) (hc2 : w.category = 1) (hp : pc + 1 = pc') (hr : WP l Z hB y bytes ml ret R n1 Q sl H pc' Ls (v :: w :: v :: w :: st)) : WP l Z hB y bytes ml ret R n1 Q sl H pc Ls (v :: w :: st) := by
  subst hp
  exact WP.step (fun p e s m args below meth c T locs cells slots C X _ tgt h => XT.dup2 X.here C.1 rfl (hb C.2.2.1 hd) rfl hc hc2 h) hr
theorem popV {v : Value} (hd : decode bytes pc = .ok (.pop, 1)) (hc : v.category = 1) (hp : pc + 1 = pc') (hr : WP l Z hB y bytes ml ret R n1 Q sl H pc' Ls (st)) : WP l Z hB y bytes ml ret R n1 Q sl H pc Ls (v :: st) := by
  subst hp
  exact WP.step (fun p e s m args below meth c T locs cells slots C X _ tgt h => XT.pop X.here C.1 rfl (hb C.2.2.1 hd) rfl hc h) hr
theorem istoreN {k : Fin 4} {x : Int32} (hd : decode bytes pc = .ok (.istore_n k, 1)) (hl : storeLocals Ls k.val (.int x) = some Ls') (hp : pc + 1 = pc') (hr : WP l Z hB y bytes ml ret R n1 Q sl H pc' Ls' (st)) : WP l Z hB y bytes ml ret R n1 Q sl H pc Ls (.int x :: st) := by
  subst hp
  exact WP.step (fun p e s m args below meth c T locs cells slots C X _ tgt h => XS.istoreN X.here C.1 rfl (hb C.2.2.1 hd) rfl hl h) hr
theorem istore {k : Nat} {x : Int32} (hd : decode bytes pc = .ok (.istore k, 2)) (hl : storeLocals Ls k (.int x) = some Ls') (hp : pc + 2 = pc') (hr : WP l Z hB y bytes ml ret R n1 Q sl H pc' Ls' (st)) : WP l Z hB y bytes ml ret R n1 Q sl H pc Ls (.int x :: st) := by
  subst hp
  exact WP.step (fun p e s m args below meth c T locs cells slots C X _ tgt h => XS.istore X.here C.1 rfl (hb C.2.2.1 hd) rfl hl h) hr
theorem lstoreN {k : Fin 4} {x : Int64} (hd : decode bytes pc = .ok (.lstore_n k, 1)) (hl : storeLocals Ls k.val (.long x) = some Ls') (hp : pc + 1 = pc') (hr : WP l Z hB y bytes ml ret R n1 Q sl H pc' Ls' (st)) : WP l Z hB y bytes ml ret R n1 Q sl H pc Ls (.long x :: st) := by
  subst hp
  exact WP.step (fun p e s m args below meth c T locs cells slots C X _ tgt h => XT.lstoreN X.here C.1 rfl (hb C.2.2.1 hd) rfl hl h) hr
theorem lstore {k : Nat} {x : Int64} (hd : decode bytes pc = .ok (.lstore k, 2)) (hl : storeLocals Ls k (.long x) = some Ls') (hp : pc + 2 = pc') (hr : WP l Z hB y bytes ml ret R n1 Q sl H pc' Ls' (st)) : WP l Z hB y bytes ml ret R n1 Q sl H pc Ls (.long x :: st) := by
  subst hp
  exact WP.step (fun p e s m args below meth c T locs cells slots C X _ tgt h => XT.lstore X.here C.1 rfl (hb C.2.2.1 hd) rfl hl h) hr
theorem astoreN {k : Fin 4} {v : Value} (hd : decode bytes pc = .ok (.astore_n k, 1)) (hv : v.isRef = true) (hl : storeLocals Ls k.val v = some Ls') (hp : pc + 1 = pc') (hr : WP l Z hB y bytes ml ret R n1 Q sl H pc' Ls' (st)) : WP l Z hB y bytes ml ret R n1 Q sl H pc Ls (v :: st) := by
  subst hp
  exact WP.step (fun p e s m args below meth c T locs cells slots C X _ tgt h => XS.astoreN X.here C.1 rfl (hb C.2.2.1 hd) rfl hv hl h) hr
theorem astore {k : Nat} {v : Value} (hd : decode bytes pc = .ok (.astore k, 2)) (hv : v.isRef = true) (hl : storeLocals Ls k v = some Ls') (hp : pc + 2 = pc') (hr : WP l Z hB y bytes ml ret R n1 Q sl H pc' Ls' (st)) : WP l Z hB y bytes ml ret R n1 Q sl H pc Ls (v :: st) := by
  subst hp
  exact WP.step (fun p e s m args below meth c T locs cells slots C X _ tgt h => XS.astore X.here C.1 rfl (hb C.2.2.1 hd) rfl hv hl h) hr
theorem iinc {k : Nat} {cst : Int} {x : Int32} (z : Int32) (hd : decode bytes pc = .ok (.iinc k cst, 3)) (hl : Ls[k]? = some (.val (.int x))) (hz : x + Int32.ofInt cst = z) (hl' : storeLocals Ls k (.int z) = some Ls') (hp : pc + 3 = pc') (hr : WP l Z hB y bytes ml ret R n1 Q sl H pc' Ls' (st)) : WP l Z hB y bytes ml ret R n1 Q sl H pc Ls (st) := by
  subst hp
  exact WP.step (fun p e s m args below meth c T locs cells slots C X _ tgt h => XS.iinc X.here C.1 rfl (hb C.2.2.1 hd) hl (hz ▸ hl') h) hr
theorem goTo  {o : Int} (hd : decode bytes pc = .ok (.goto o, 3)) (ho : 0 ≤ (pc : Int) + o) (hp : ((pc : Int) + o).toNat = pc') (hr : WP l Z hB y bytes ml ret R n1 Q sl H pc' Ls st) : WP l Z hB y bytes ml ret R n1 Q sl H pc Ls (st) :=
  WP.step (fun p e s m args below meth c T locs cells slots C X _ tgt h => XS.goto X.here C.1 rfl rfl (hb C.2.2.1 hd) ho hp h) hr
theorem ifY {cd : ClassFile.Cond} {x : Int32} {o : Int} (hd : decode bytes pc = .ok (.ifCond cd o, 3)) (hc : ifCond.holds cd x = true) (ho : 0 ≤ (pc : Int) + o) (hp : ((pc : Int) + o).toNat = pc') (hr : WP l Z hB y bytes ml ret R n1 Q sl H pc' Ls st) : WP l Z hB y bytes ml ret R n1 Q sl H pc Ls (.int x :: st) :=
  WP.step (fun p e s m args below meth c T locs cells slots C X _ tgt h => XS.ifYes X.here C.1 rfl rfl (hb C.2.2.1 hd) rfl hc ho hp h) hr
theorem ifN {cd : ClassFile.Cond} {x : Int32} {o : Int} (hd : decode bytes pc = .ok (.ifCond cd o, 3)) (hc : ifCond.holds cd x = false) (hp : pc + 3 = pc') (hr : WP l Z hB y bytes ml ret R n1 Q sl H pc' Ls st) : WP l Z hB y bytes ml ret R n1 Q sl H pc Ls (.int x :: st) := by
  subst hp
  exact WP.step (fun p e s m args below meth c T locs cells slots C X _ tgt h => XS.ifNo X.here C.1 rfl (hb C.2.2.1 hd) rfl hc h) hr
theorem icY {cd : ClassFile.Cond} {x z : Int32} {o : Int} (hd : decode bytes pc = .ok (.if_icmp cd o, 3)) (hc : if_icmp.holds cd x z = true) (ho : 0 ≤ (pc : Int) + o) (hp : ((pc : Int) + o).toNat = pc') (hr : WP l Z hB y bytes ml ret R n1 Q sl H pc' Ls st) : WP l Z hB y bytes ml ret R n1 Q sl H pc Ls (.int z :: .int x :: st) :=
  WP.step (fun p e s m args below meth c T locs cells slots C X _ tgt h => XS.icmpYes X.here C.1 rfl rfl (hb C.2.2.1 hd) rfl hc ho hp h) hr
theorem icN {cd : ClassFile.Cond} {x z : Int32} {o : Int} (hd : decode bytes pc = .ok (.if_icmp cd o, 3)) (hc : if_icmp.holds cd x z = false) (hp : pc + 3 = pc') (hr : WP l Z hB y bytes ml ret R n1 Q sl H pc' Ls st) : WP l Z hB y bytes ml ret R n1 Q sl H pc Ls (.int z :: .int x :: st) := by
  subst hp
  exact WP.step (fun p e s m args below meth c T locs cells slots C X _ tgt h => XS.icmpNo X.here C.1 rfl (hb C.2.2.1 hd) rfl hc h) hr
theorem nullY  {o : Int} (hd : decode bytes pc = .ok (.ifnull o, 3)) (ho : 0 ≤ (pc : Int) + o) (hp : ((pc : Int) + o).toNat = pc') (hr : WP l Z hB y bytes ml ret R n1 Q sl H pc' Ls st) : WP l Z hB y bytes ml ret R n1 Q sl H pc Ls (.null :: st) :=
  WP.step (fun p e s m args below meth c T locs cells slots C X _ tgt h => XS.ifnullYes X.here C.1 rfl rfl (hb C.2.2.1 hd) rfl ho hp h) hr
theorem nullN {b : Addr} {o : Int} (hd : decode bytes pc = .ok (.ifnull o, 3)) (hp : pc + 3 = pc') (hr : WP l Z hB y bytes ml ret R n1 Q sl H pc' Ls st) : WP l Z hB y bytes ml ret R n1 Q sl H pc Ls (.ref b :: st) := by
  subst hp
  exact WP.step (fun p e s m args below meth c T locs cells slots C X _ tgt h => XS.ifnullNo X.here C.1 rfl (hb C.2.2.1 hd) rfl h) hr
theorem nonnullY {b : Addr} {o : Int} (hd : decode bytes pc = .ok (.ifnonnull o, 3)) (ho : 0 ≤ (pc : Int) + o) (hp : ((pc : Int) + o).toNat = pc') (hr : WP l Z hB y bytes ml ret R n1 Q sl H pc' Ls st) : WP l Z hB y bytes ml ret R n1 Q sl H pc Ls (.ref b :: st) :=
  WP.step (fun p e s m args below meth c T locs cells slots C X _ tgt h => XT.ifnonnullYes X.here C.1 rfl rfl (hb C.2.2.1 hd) rfl ho hp h) hr
theorem nonnullN  {o : Int} (hd : decode bytes pc = .ok (.ifnonnull o, 3)) (hp : pc + 3 = pc') (hr : WP l Z hB y bytes ml ret R n1 Q sl H pc' Ls st) : WP l Z hB y bytes ml ret R n1 Q sl H pc Ls (.null :: st) := by
  subst hp
  exact WP.step (fun p e s m args below meth c T locs cells slots C X _ tgt h => XT.ifnonnullNo X.here C.1 rfl (hb C.2.2.1 hd) rfl h) hr
theorem acY {cd : ClassFile.ACond} {v w : Value} {o : Int} (hd : decode bytes pc = .ok (.if_acmp cd o, 3)) (hv : v.isRef = true) (hw : w.isRef = true) (hc : XT.acmp cd v w = true) (ho : 0 ≤ (pc : Int) + o) (hp : ((pc : Int) + o).toNat = pc') (hr : WP l Z hB y bytes ml ret R n1 Q sl H pc' Ls st) : WP l Z hB y bytes ml ret R n1 Q sl H pc Ls (w :: v :: st) :=
  WP.step (fun p e s m args below meth c T locs cells slots C X _ tgt h => XT.acmpYes X.here C.1 rfl rfl (hb C.2.2.1 hd) rfl hv hw hc ho hp h) hr
theorem acN {cd : ClassFile.ACond} {v w : Value} {o : Int} (hd : decode bytes pc = .ok (.if_acmp cd o, 3)) (hv : v.isRef = true) (hw : w.isRef = true) (hc : XT.acmp cd v w = false) (hp : pc + 3 = pc') (hr : WP l Z hB y bytes ml ret R n1 Q sl H pc' Ls st) : WP l Z hB y bytes ml ret R n1 Q sl H pc Ls (w :: v :: st) := by
  subst hp
  exact WP.step (fun p e s m args below meth c T locs cells slots C X _ tgt h => XT.acmpNo X.here C.1 rfl (hb C.2.2.1 hd) rfl hv hw hc h) hr
theorem tswIn {dflt low high : Int} {offs : Array Int} {len : Nat} {o : Int} {i : Int32} (hd : decode bytes pc = .ok (.tableswitch dflt low high offs, len)) (hin : ¬ (i.toInt < low ∨ i.toInt > high)) (hoff : offs[(i.toInt - low).toNat]? = some o) (ho : 0 ≤ (pc : Int) + o) (hp : ((pc : Int) + o).toNat = pc') (hr : WP l Z hB y bytes ml ret R n1 Q sl H pc' Ls st) : WP l Z hB y bytes ml ret R n1 Q sl H pc Ls (.int i :: st) :=
  WP.step (fun p e s m args below meth c T locs cells slots C X _ tgt h => XS.tswIn X.here C.1 rfl rfl (hb C.2.2.1 hd) rfl hin hoff ho hp h) hr
theorem pop2L {x : Int64} (hd : decode bytes pc = .ok (.pop2, 1)) (hp : pc + 1 = pc') (hr : WP l Z hB y bytes ml ret R n1 Q sl H pc' Ls st) : WP l Z hB y bytes ml ret R n1 Q sl H pc Ls (.long x :: st) := by
  subst hp
  refine WP.step (fun p e s m args below meth c T locs cells slots C X _ tgt h => ?_) hr
  have hx := C.1
  have hd' := (hb C.2.2.1 hd)
  jvm_step X.here [X.here.top, hx, hd', Value.category]
  exact h
theorem getFl {a : Addr} {R0 O n d host : String} {v : Value} {index : Nat} (hd : decode bytes pc = .ok (.getfield index, 3)) (w : (Jvm.Cond.fieldLink y.cls index R0 n d).before a0 Z = true ∨ (Jvm.Cond.fieldLinkNest y.cls index R0 n d host).before a0 Z = true) (via : Via Z R0 O n d) (F : ∀ h, Hp Z hB h H → Fld Z h a O n d v) (hp : pc + 3 = pc') (hr : WP l Z hB y bytes ml ret R n1 Q sl H pc' Ls (v :: st)) : WP l Z hB y bytes ml ret R n1 Q sl H pc Ls (.ref a :: st) := by
  subst hp
  exact WP.stepT (fun p e s m args below meth c T locs cells slots C X P => getF X C.1 C.2.1 C.2.2.2.2.1 w via rfl (F _ P) (g := mkF m pc Ls (.ref a :: st)) rfl rfl (hb C.2.2.1 hd)) hr
theorem getF0 {O n d : String} {v : Value} {index i j : Nat} {C : String} {ks : List Key} {vs : List Value} (hd : decode bytes pc = .ok (.getfield index, 3)) (w : (Jvm.Cond.fieldLink y.cls index O n d).before a0 Z = true) (hi : H[i]? = some (obj C ks vs)) (hk : ks[j]? = some (O, n, d)) (hv : vs[j]? = some v) (hp : pc + 3 = pc') (hr : WP l Z hB y bytes ml ret R n1 Q sl H pc' Ls (v :: st)) : WP l Z hB y bytes ml ret R n1 Q sl H pc Ls (rf hB i :: st) :=
  getFl (host := "") hd (Or.inl w) Via.refl (fun _ P => P.fld hi hk hv) hp hr
theorem getFold {a : Addr} {O n d : String} {v : Value} {index : Nat} (hd : decode bytes pc = .ok (.getfield index, 3)) (w : (Jvm.Cond.fieldLink y.cls index O n d).before a0 Z = true) (F : Fld Z hB a O n d v) (hp : pc + 3 = pc') (hr : WP l Z hB y bytes ml ret R n1 Q sl H pc' Ls (v :: st)) : WP l Z hB y bytes ml ret R n1 Q sl H pc Ls (.ref a :: st) :=
  getFl (host := "") hd (Or.inl w) Via.refl (fun _ P => F.ext P.toExt) hp hr
theorem getSt {O n d : String} {v : Value} {index : Nat} (hd : decode bytes pc = .ok (.getstatic index, 3)) (w : (Jvm.Cond.fieldLink y.cls index O n d).before a0 Z = true) (F : Sta Z hB O n d v) (hp : pc + 3 = pc') (hr : WP l Z hB y bytes ml ret R n1 Q sl H pc' Ls (v :: st)) : WP l Z hB y bytes ml ret R n1 Q sl H pc Ls st := by
  subst hp
  exact WP.stepT (fun p e s m args below meth c T locs cells slots C X P => getS2 X C.1 C.2.1 C.2.2.2.2.1 (host := "") (Or.inl w) Via.refl rfl (F.ext P.toExt) (g := mkF m pc Ls st) rfl (hb C.2.2.1 hd)) hr
theorem putF0 {O n d : String} {v : Value} {ty : FieldType} {index i j kk : Nat} {C : String} {ks : List Key} {vs : List Value} (hd : decode bytes pc = .ok (.putfield index, 3)) (w : (Jvm.Cond.fieldLink y.cls index O n d).before a0 Z = true) (hi : H[i]? = some (obj C ks vs)) (hk : ks[j]? = some (O, n, d)) (hj : j < vs.length)
    (L : (Jvm.Cond.lays C O n d).before a0 Z = true ∨ ((Jvm.Cond.laysFinal C O n d).before a0 Z = true ∧ y.cls = O ∧ y.name = "<init>")) (wi : (Jvm.Cond.instantiable C kk).before a0 Z = true) (hty : parseFieldDescriptor d = some ty) (hn : narrow ty v = v) (hf : fits ty v = true) (hH : H.set i (obj C ks (vs.set j v)) = H') (hp : pc + 3 = pc') (hr : WP l Z hB y bytes ml ret R n1 Q sl H' pc' Ls st) : WP l Z hB y bytes ml ret R n1 Q sl H pc Ls (v :: rf hB i :: st) := by
  subst hp; subst hH
  refine WP.stepH (fun p e s m args below meth c T locs cells slots C X hz N P hs => ?_) hr
  obtain ⟨T', h', X', e', W, k⟩ := putF X C.1 C.2.1 C.2.2.2.2.1 (host := "") (Or.inl w) Via.refl rfl (P.fld hi hk (List.getElem?_eq_getElem hj)) (P.exa hi) (L.imp id fun q => ⟨q.1, q.2.1, C.2.2.2.2.2.1.trans q.2.2⟩) wi hty hn hf (g := mkF m pc Ls (v :: rf hB i :: st)) rfl rfl (hb C.2.2.1 hd)
  exact ⟨T', _, _, _, X', Fr.snoc X' N (Nat.le_add_right _ _), by rw [e']; exact P.wrO hi hk hj W, hs, k⟩
theorem initObj {i' : Addr} {index : Nat} (hd : decode bytes pc = .ok (.invokespecial index, 3)) (w1 : (Jvm.Cond.methodLink y.cls index Lib.objectInit).before a0 Z = true) (w2 : (Jvm.Cond.instanceMethod Lib.objectInit).before a0 Z = true) (w3 : (Jvm.Cond.code Lib.objectInit ⟨#[0xb1]⟩ 1 none).before a0 Z = true) (hml : Ls.size = ml) (hf : 1 ≤ R.frames) (hl : (st.map fun v => v.category).sum + 12 ≤ R.locals) (hp : pc + 3 = pc') (hr : WP l Z hB y bytes ml ret R n1 Q sl H pc' Ls st) : WP l Z hB y bytes ml ret R n1 Q sl H pc Ls (.ref i' :: st) := by
  subst hp
  exact WP.stepT (fun p e s m args below meth c T locs cells slots C X P => initO X C.1 C.2.1 C.2.2.2.2.1 w1 w2 w3 rfl (g := mkF m pc Ls (.ref i' :: st)) rfl (hml.trans C.2.2.2.1.symm) rfl (hb C.2.2.1 hd) hf (W := (st.map fun v => v.category).sum) (by show 2 * 0 + _ ≤ _; omega) hl) hr
theorem newObj {C : String} {index n : Nat} {ks : List Key} {vs : List Value} (hd : decode bytes pc = .ok (.new index, 3)) (w : (Jvm.Cond.classLink y.cls index C).before a0 Z = true) (wi : (Jvm.Cond.instantiable C n).before a0 Z = true) (wz : (Jvm.Cond.initialized C).before a0 Z = true)
    (hlaid : ∀ (i : Nat) (k : Key) (v : Value), ks[i]? = some k → vs[i]? = some v → Laid Z a0 C k.1 k.2.1 k.2.2 ∧ ∃ ty, parseFieldDescriptor k.2.2 = some ty ∧ v = defaultValue ty) (hdist : ∀ (i j : Nat) (k k' : Key), ks[i]? = some k → ks[j]? = some k' → i ≠ j → kslot Z k ≠ kslot Z k')
    (hc : H.length + 1 ≤ n1 + R.cells) (hsl : sl + n ≤ R.slots) (hH : H ++ [obj C ks vs] = H') (hlen : H.length = i) (hp : pc + 3 = pc') (hr : WP l Z hB y bytes ml ret R n1 Q (sl + n) H' pc' Ls (rf hB i :: st)) : WP l Z hB y bytes ml ret R n1 Q sl H pc Ls st := by
  subst hp; subst hH; subst hlen
  refine WP.stepH (fun p e s m args below meth c T locs cells slots Cx X hz N P hs => ?_) hr
  have hsz := Cx.2.2.2.2.2.2.2.2
  have hp1 := P.1
  obtain ⟨T', h', X', e', E, A, D, U, k⟩ := newO X Cx.1 Cx.2.1 Cx.2.2.2.2.1 w wi wz rfl (g := mkF m pc Ls st) rfl (hb Cx.2.2.1 hd) (by omega) (by omega)
  subst e'
  have hle := X'.heapSize
  refine ⟨T', _, _, _, X', N, P.push E (by omega) ⟨A, U, fun i k v h1 h2 => ?_, hdist⟩, by omega, by rw [show rf hB H.length = .ref T.heap.size from by show Value.ref _ = _; rw [hp1]]; exact k⟩
  obtain ⟨q1, ty, q2, rfl⟩ := hlaid i k v h1 h2
  exact D q1 q2
theorem newArr {aty : ArrayType} {i : Nat} {n : Int32} {nn : Nat} (hd : decode bytes pc = .ok (.newarray aty, 2)) (w : (Jvm.Cond.arrayClass (newarray.typeOf aty)).before a0 Z = true) (hn : ¬ n < 0) (hnn : n.toNatClampNeg = nn) (hb8 : nn * 8 ≤ 536870912) (hdf : fits (newarray.typeOf aty) (defaultValue (newarray.typeOf aty)) = true) (hnr : (∀ C, newarray.typeOf aty ≠ .object C) ∧ ∀ t, newarray.typeOf aty ≠ .array t)
    (hc : H.length + 1 ≤ n1 + R.cells) (hsl : sl + nn ≤ R.slots) (hH : H ++ [arr (newarray.typeOf aty) (List.replicate nn (defaultValue (newarray.typeOf aty)))] = H') (hlen : H.length = i) (hp : pc + 2 = pc') (hr : WP l Z hB y bytes ml ret R n1 Q (sl + nn) H' pc' Ls (rf hB i :: st)) : WP l Z hB y bytes ml ret R n1 Q sl H pc Ls (.int n :: st) := by
  subst hp; subst hH; subst hlen; subst hnn
  refine WP.stepH (fun p e s m args below meth c T locs cells slots Cx X hz N P hs => ?_) hr
  have hsz := Cx.2.2.2.2.2.2.2.2
  have hp1 := P.1
  obtain ⟨T', h', cA, X', e', E, A, Ex, k⟩ := newPE X Cx.1 Cx.2.1 w rfl (g := mkF m pc Ls (.int n :: st)) rfl (hb Cx.2.2.1 hd) rfl hn (cap := n.toNatClampNeg) (Nat.le_refl _) hb8 (by omega) (by omega) rfl
  subst e'
  have hle := X'.heapSize
  refine ⟨T', _, _, _, X', N, P.push E (by omega) ⟨_, A, by simp [newA], rfl, Ex, ⟨fun C q => absurd q (hnr.1 C), fun t q => absurd q (hnr.2 t)⟩, fun v hv => by rw [List.eq_of_mem_replicate hv]; exact hdf⟩, by omega, by rw [show rf hB H.length = .ref T.heap.size from by show Value.ref _ = _; rw [hp1]]; exact k⟩
theorem newRef {C : String} {index i : Nat} {n : Int32} {nn : Nat} (hd : decode bytes pc = .ok (.anewarray index, 3)) (w1 : (Jvm.Cond.classLink y.cls index C).before a0 Z = true) (w2 : (Jvm.Cond.arrayOver (.object C)).before a0 Z = true) (hn : ¬ n < 0) (hnn : n.toNatClampNeg = nn) (hb8 : nn * 8 ≤ 536870912)
    (hc : H.length + 1 ≤ n1 + R.cells) (hsl : sl + nn ≤ R.slots) (hH : H ++ [arr (.object C) (List.replicate nn .null)] = H') (hlen : H.length = i) (hp : pc + 3 = pc') (hr : WP l Z hB y bytes ml ret R n1 Q (sl + nn) H' pc' Ls (rf hB i :: st)) : WP l Z hB y bytes ml ret R n1 Q sl H pc Ls (.int n :: st) := by
  subst hp; subst hH; subst hlen; subst hnn
  refine WP.stepH (fun p e s m args below meth c T locs cells slots Cx X hz N P hs => ?_) hr
  have hsz := Cx.2.2.2.2.2.2.2.2
  have hp1 := P.1
  obtain ⟨T', h', cA, X', e', E, A, Ex, O, k⟩ := newRE X Cx.1 Cx.2.1 Cx.2.2.2.2.1 w1 w2 rfl (g := mkF m pc Ls (.int n :: st)) rfl (hb Cx.2.2.1 hd) rfl hn (cap := n.toNatClampNeg) (Nat.le_refl _) hb8 (by omega) (by omega) rfl
  subst e'
  have hle := X'.heapSize
  refine ⟨T', _, _, _, X', N, P.push E (by omega) ⟨_, A, by simp [newA, defaultValue], rfl, Ex, ⟨fun C' q => (by cases q; exact O), fun t q => (by cases q)⟩, fun v hv => by rw [List.eq_of_mem_replicate hv]; rfl⟩, by omega, by rw [show rf hB H.length = .ref T.heap.size from by show Value.ref _ = _; rw [hp1]]; exact k⟩
theorem newRefA {ty : FieldType} {C : String} {index i : Nat} {n : Int32} {nn : Nat} (hd : decode bytes pc = .ok (.anewarray index, 3)) (hC : (FieldType.array ty).toString = C) (w1 : (Jvm.Cond.classLink y.cls index C).before a0 Z = true) (w2 : (Jvm.Cond.arrayOver (.array ty)).before a0 Z = true) (hn : ¬ n < 0) (hnn : n.toNatClampNeg = nn) (hb8 : nn * 8 ≤ 536870912)
    (hc : H.length + 1 ≤ n1 + R.cells) (hsl : sl + nn ≤ R.slots) (hH : H ++ [arr (.array ty) (List.replicate nn .null)] = H') (hlen : H.length = i) (hp : pc + 3 = pc') (hr : WP l Z hB y bytes ml ret R n1 Q (sl + nn) H' pc' Ls (rf hB i :: st)) : WP l Z hB y bytes ml ret R n1 Q sl H pc Ls (.int n :: st) := by
  subst hp; subst hH; subst hlen; subst hnn; subst hC
  refine WP.stepH (fun p e s m args below meth c T locs cells slots Cx X hz N P hs => ?_) hr
  have hsz := Cx.2.2.2.2.2.2.2.2
  have hp1 := P.1
  obtain ⟨T', h', cA, X', e', E, A, Ex, O, k⟩ := newRA X Cx.1 Cx.2.1 Cx.2.2.2.2.1 rfl w1 w2 rfl (g := mkF m pc Ls (.int n :: st)) rfl (hb Cx.2.2.1 hd) rfl hn (cap := n.toNatClampNeg) (Nat.le_refl _) hb8 (by omega) (by omega) rfl
  subst e'
  have hle := X'.heapSize
  refine ⟨T', _, _, _, X', N, P.push E (by omega) ⟨_, A, by simp [newA, defaultValue], rfl, Ex, ⟨fun C' q => (by cases q), fun t q => (by cases q; exact O)⟩, fun v hv => by rw [List.eq_of_mem_replicate hv]; rfl⟩, by omega, by rw [show rf hB H.length = .ref T.heap.size from by show Value.ref _ = _; rw [hp1]]; exact k⟩
theorem inb {c : Cell} {vs : List Value} {j : Int32} {v : Value} (hc : c.slots = vs.toArray) (h0 : ¬ j < 0) (hv : vs[j.toNatClampNeg]? = some v) : ¬ (j < 0 ∨ c.slots.size ≤ j.toNatClampNeg) ∧ c.slots[j.toNatClampNeg]? = some v := by
  have := (List.getElem?_eq_some_iff.mp hv).1
  refine ⟨fun q => q.elim h0 fun z => ?_, by rw [hc]; simpa using hv⟩
  rw [hc, List.size_toArray] at z; omega
theorem arrLen {i : Nat} {t : FieldType} {vs : List Value} {z : Int32} (hd : decode bytes pc = .ok (.arraylength, 1)) (hi : H[i]? = some (arr t vs)) (hz : vs.length.toInt32 = z) (hp : pc + 1 = pc') (hr : WP l Z hB y bytes ml ret R n1 Q sl H pc' Ls (.int z :: st)) : WP l Z hB y bytes ml ret R n1 Q sl H pc Ls (rf hB i :: st) := by
  subst hp
  refine WP.step (fun p e s m args below meth c T locs cells slots C X P tgt h => ?_) hr
  obtain ⟨cl, h1, h2, -⟩ := P.at hi
  exact X.arraylength C.1 h1.1 (State.isArrayOf_alike C.2.1.alike h1.2.1) (g := mkF m pc Ls (rf hB i :: st)) rfl rfl (hb C.2.2.1 hd) _ (by rw [h2, List.size_toArray, hz]; exact h)
theorem arrLenOld {a : Addr} {t : FieldType} {cl : Cell} {z : Int32} (hd : decode bytes pc = .ok (.arraylength, 1)) (A : Arr Z hB a cl t) (hz : cl.slots.size.toInt32 = z) (hp : pc + 1 = pc') (hr : WP l Z hB y bytes ml ret R n1 Q sl H pc' Ls (.int z :: st)) : WP l Z hB y bytes ml ret R n1 Q sl H pc Ls (.ref a :: st) := by
  subst hp
  refine WP.step (fun p e s m args below meth c T locs cells slots C X P tgt h => ?_) hr
  have h1 := A.ext P.toExt
  exact X.arraylength C.1 h1.1 (State.isArrayOf_alike C.2.1.alike h1.2.1) (g := mkF m pc Ls (.ref a :: st)) rfl rfl (hb C.2.2.1 hd) _ (by rw [hz]; exact h)
theorem iaload {i : Nat} {vs : List Value} {j : Int32} {v : Value} {jn : Nat} (hd : decode bytes pc = .ok (.iaload, 1)) (hi : H[i]? = some (arr .int vs)) (h0 : ¬ j < 0) (hjn : j.toNatClampNeg = jn) (hv : vs[jn]? = some v) (hp : pc + 1 = pc') (hr : WP l Z hB y bytes ml ret R n1 Q sl H pc' Ls (v :: st)) : WP l Z hB y bytes ml ret R n1 Q sl H pc Ls (.int j :: rf hB i :: st) := by
  subst hp; subst hjn
  refine WP.step (fun p e s m args below meth c T locs cells slots C X P tgt h => ?_) hr
  obtain ⟨cl, h1, h2, -⟩ := P.at hi
  exact X.iaload C.1 h1.1 (State.isArrayOf_alike C.2.1.alike h1.2.1) h1.2.2 (inb h2 h0 hv).1 (inb h2 h0 hv).2 (g := mkF m pc Ls (.int j :: rf hB i :: st)) rfl rfl (hb C.2.2.1 hd) _ h
theorem laload {i : Nat} {vs : List Value} {j : Int32} {v : Value} {jn : Nat} (hd : decode bytes pc = .ok (.laload, 1)) (hi : H[i]? = some (arr .long vs)) (h0 : ¬ j < 0) (hjn : j.toNatClampNeg = jn) (hv : vs[jn]? = some v) (hp : pc + 1 = pc') (hr : WP l Z hB y bytes ml ret R n1 Q sl H pc' Ls (v :: st)) : WP l Z hB y bytes ml ret R n1 Q sl H pc Ls (.int j :: rf hB i :: st) := by
  subst hp; subst hjn
  refine WP.step (fun p e s m args below meth c T locs cells slots C X P tgt h => ?_) hr
  obtain ⟨cl, h1, h2, -⟩ := P.at hi
  exact X.laload C.1 h1.1 (State.isArrayOf_alike C.2.1.alike h1.2.1) h1.2.2 (inb h2 h0 hv).1 (inb h2 h0 hv).2 (g := mkF m pc Ls (.int j :: rf hB i :: st)) rfl rfl (hb C.2.2.1 hd) _ h
theorem caload {i : Nat} {vs : List Value} {j : Int32} {v : Value} {jn : Nat} (hd : decode bytes pc = .ok (.caload, 1)) (hi : H[i]? = some (arr .char vs)) (h0 : ¬ j < 0) (hjn : j.toNatClampNeg = jn) (hv : vs[jn]? = some v) (hp : pc + 1 = pc') (hr : WP l Z hB y bytes ml ret R n1 Q sl H pc' Ls (v :: st)) : WP l Z hB y bytes ml ret R n1 Q sl H pc Ls (.int j :: rf hB i :: st) := by
  subst hp; subst hjn
  refine WP.step (fun p e s m args below meth c T locs cells slots C X P tgt h => ?_) hr
  obtain ⟨cl, h1, h2, -⟩ := P.at hi
  exact X.caload C.1 h1.1 (State.isArrayOf_alike C.2.1.alike h1.2.1) h1.2.2 (inb h2 h0 hv).1 (inb h2 h0 hv).2 (g := mkF m pc Ls (.int j :: rf hB i :: st)) rfl rfl (hb C.2.2.1 hd) _ h
theorem baload {i : Nat} {vs : List Value} {j : Int32} {v : Value} {jn : Nat} (hd : decode bytes pc = .ok (.baload, 1)) (hi : H[i]? = some (arr .byte vs)) (h0 : ¬ j < 0) (hjn : j.toNatClampNeg = jn) (hv : vs[jn]? = some v) (hp : pc + 1 = pc') (hr : WP l Z hB y bytes ml ret R n1 Q sl H pc' Ls (v :: st)) : WP l Z hB y bytes ml ret R n1 Q sl H pc Ls (.int j :: rf hB i :: st) := by
  subst hp; subst hjn
  refine WP.step (fun p e s m args below meth c T locs cells slots C X P tgt h => ?_) hr
  obtain ⟨cl, h1, h2, -⟩ := P.at hi
  exact X.baloadBytes C.1 h1.1 (State.isArrayOf_alike C.2.1.alike h1.2.1) h1.2.2 (inb h2 h0 hv).1 (inb h2 h0 hv).2 (g := mkF m pc Ls (.int j :: rf hB i :: st)) rfl rfl (hb C.2.2.1 hd) _ h
theorem zaload {i : Nat} {vs : List Value} {j : Int32} {v : Value} {jn : Nat} (hd : decode bytes pc = .ok (.baload, 1)) (hi : H[i]? = some (arr .boolean vs)) (h0 : ¬ j < 0) (hjn : j.toNatClampNeg = jn) (hv : vs[jn]? = some v) (hp : pc + 1 = pc') (hr : WP l Z hB y bytes ml ret R n1 Q sl H pc' Ls (v :: st)) : WP l Z hB y bytes ml ret R n1 Q sl H pc Ls (.int j :: rf hB i :: st) := by
  subst hp; subst hjn
  refine WP.step (fun p e s m args below meth c T locs cells slots C X P tgt h => ?_) hr
  obtain ⟨cl, h1, h2, -⟩ := P.at hi
  exact X.baloadBooleans C.1 h1.1 (State.isArrayOf_alike C.2.1.alike h1.2.1) h1.2.2 (inb h2 h0 hv).1 (inb h2 h0 hv).2 (g := mkF m pc Ls (.int j :: rf hB i :: st)) rfl rfl (hb C.2.2.1 hd) _ h
theorem aaload {i : Nat} {t : FieldType} {vs : List Value} {j : Int32} {v : Value} {jn : Nat} (hd : decode bytes pc = .ok (.aaload, 1)) (hi : H[i]? = some (arr t vs)) (ht : t.isReference = true) (h0 : ¬ j < 0) (hjn : j.toNatClampNeg = jn) (hv : vs[jn]? = some v) (hp : pc + 1 = pc') (hr : WP l Z hB y bytes ml ret R n1 Q sl H pc' Ls (v :: st)) : WP l Z hB y bytes ml ret R n1 Q sl H pc Ls (.int j :: rf hB i :: st) := by
  subst hp; subst hjn
  refine WP.step (fun p e s m args below meth c T locs cells slots C X P tgt h => ?_) hr
  obtain ⟨cl, h1, h2, -⟩ := P.at hi
  exact X.aaload C.1 h1.1 (State.isArrayOf_alike C.2.1.alike h1.2.1) ht h1.2.2 (inb h2 h0 hv).1 (inb h2 h0 hv).2 (g := mkF m pc Ls (.int j :: rf hB i :: st)) rfl rfl (hb C.2.2.1 hd) _ h
theorem baloadOld {a : Addr} {cl : Cell} {j : Int32} {v : Value} (hd : decode bytes pc = .ok (.baload, 1)) (A : Arr Z hB a cl .byte) (h0 : ¬ (j < 0 ∨ cl.slots.size ≤ j.toNatClampNeg)) (hv : cl.slots[j.toNatClampNeg]? = some v) (hp : pc + 1 = pc') (hr : WP l Z hB y bytes ml ret R n1 Q sl H pc' Ls (v :: st)) : WP l Z hB y bytes ml ret R n1 Q sl H pc Ls (.int j :: .ref a :: st) := by
  subst hp
  refine WP.step (fun p e s m args below meth c T locs cells slots C X P tgt h => ?_) hr
  have h1 := A.ext P.toExt
  exact X.baloadBytes C.1 h1.1 (State.isArrayOf_alike C.2.1.alike h1.2.1) h1.2.2 h0 hv (g := mkF m pc Ls (.int j :: .ref a :: st)) rfl rfl (hb C.2.2.1 hd) _ h
theorem ialoadOld {a : Addr} {cl : Cell} {j : Int32} {v : Value} (hd : decode bytes pc = .ok (.iaload, 1)) (A : Arr Z hB a cl .int) (h0 : ¬ (j < 0 ∨ cl.slots.size ≤ j.toNatClampNeg)) (hv : cl.slots[j.toNatClampNeg]? = some v) (hp : pc + 1 = pc') (hr : WP l Z hB y bytes ml ret R n1 Q sl H pc' Ls (v :: st)) : WP l Z hB y bytes ml ret R n1 Q sl H pc Ls (.int j :: .ref a :: st) := by
  subst hp
  refine WP.step (fun p e s m args below meth c T locs cells slots C X P tgt h => ?_) hr
  have h1 := A.ext P.toExt
  exact X.iaload C.1 h1.1 (State.isArrayOf_alike C.2.1.alike h1.2.1) h1.2.2 h0 hv (g := mkF m pc Ls (.int j :: .ref a :: st)) rfl rfl (hb C.2.2.1 hd) _ h
theorem aaloadOld {a : Addr} {t : FieldType} {cl : Cell} {j : Int32} {v : Value} (hd : decode bytes pc = .ok (.aaload, 1)) (A : Arr Z hB a cl t) (ht : t.isReference = true) (h0 : ¬ (j < 0 ∨ cl.slots.size ≤ j.toNatClampNeg)) (hv : cl.slots[j.toNatClampNeg]? = some v) (hp : pc + 1 = pc') (hr : WP l Z hB y bytes ml ret R n1 Q sl H pc' Ls (v :: st)) : WP l Z hB y bytes ml ret R n1 Q sl H pc Ls (.int j :: .ref a :: st) := by
  subst hp
  refine WP.step (fun p e s m args below meth c T locs cells slots C X P tgt h => ?_) hr
  have h1 := A.ext P.toExt
  exact X.aaload C.1 h1.1 (State.isArrayOf_alike C.2.1.alike h1.2.1) ht h1.2.2 h0 hv (g := mkF m pc Ls (.int j :: .ref a :: st)) rfl rfl (hb C.2.2.1 hd) _ h
theorem iastore {i : Nat} {vs : List Value} {j : Int32} {x : Int32} {jn : Nat} (hd : decode bytes pc = .ok (.iastore, 1)) (hi : H[i]? = some (arr .int vs)) (h0 : ¬ j < 0) (hjn : j.toNatClampNeg = jn) (hlt : jn < vs.length) (hH : H.set i (arr .int (vs.set jn (.int x))) = H') (hp : pc + 1 = pc') (hr : WP l Z hB y bytes ml ret R n1 Q sl H' pc' Ls st) : WP l Z hB y bytes ml ret R n1 Q sl H pc Ls (.int x :: .int j :: rf hB i :: st) := by
  subst hp; subst hH; subst hjn
  refine WP.stepH (fun p e s m args below meth c T locs cells slots C X hz N P hs => ?_) hr
  obtain ⟨cl, h1, h2, -⟩ := P.at hi
  obtain ⟨T', h', X', e', W, k⟩ := stI X C.1 C.2.1 rfl h1 (inb h2 h0 (List.getElem?_eq_getElem hlt)).1 (g := mkF m pc Ls (.int x :: .int j :: rf hB i :: st)) rfl rfl (hb C.2.2.1 hd)
  exact ⟨T', _, _, _, X', Fr.snoc X' N (Nat.le_add_right _ _), by rw [e']; exact P.wrA hi (rfl) W, hs, k⟩
theorem lastore {i : Nat} {vs : List Value} {j : Int32} {x : Int64} {jn : Nat} (hd : decode bytes pc = .ok (.lastore, 1)) (hi : H[i]? = some (arr .long vs)) (h0 : ¬ j < 0) (hjn : j.toNatClampNeg = jn) (hlt : jn < vs.length) (hH : H.set i (arr .long (vs.set jn (.long x))) = H') (hp : pc + 1 = pc') (hr : WP l Z hB y bytes ml ret R n1 Q sl H' pc' Ls st) : WP l Z hB y bytes ml ret R n1 Q sl H pc Ls (.long x :: .int j :: rf hB i :: st) := by
  subst hp; subst hH; subst hjn
  refine WP.stepH (fun p e s m args below meth c T locs cells slots C X hz N P hs => ?_) hr
  obtain ⟨cl, h1, h2, -⟩ := P.at hi
  obtain ⟨T', h', X', e', W, k⟩ := stJ X C.1 C.2.1 rfl h1 (inb h2 h0 (List.getElem?_eq_getElem hlt)).1 (g := mkF m pc Ls (.long x :: .int j :: rf hB i :: st)) rfl rfl (hb C.2.2.1 hd)
  exact ⟨T', _, _, _, X', Fr.snoc X' N (Nat.le_add_right _ _), by rw [e']; exact P.wrA hi (rfl) W, hs, k⟩
theorem castore {i : Nat} {vs : List Value} {j : Int32} {x : Int32} {jn : Nat} (hd : decode bytes pc = .ok (.castore, 1)) (hi : H[i]? = some (arr .char vs)) (h0 : ¬ j < 0) (hjn : j.toNatClampNeg = jn) (hlt : jn < vs.length) (hH : H.set i (arr .char (vs.set jn (.int (nar .char x)))) = H') (hp : pc + 1 = pc') (hr : WP l Z hB y bytes ml ret R n1 Q sl H' pc' Ls st) : WP l Z hB y bytes ml ret R n1 Q sl H pc Ls (.int x :: .int j :: rf hB i :: st) := by
  subst hp; subst hH; subst hjn
  refine WP.stepH (fun p e s m args below meth c T locs cells slots C X hz N P hs => ?_) hr
  obtain ⟨cl, h1, h2, -⟩ := P.at hi
  obtain ⟨T', h', X', e', W, k⟩ := stC X C.1 C.2.1 rfl h1 (inb h2 h0 (List.getElem?_eq_getElem hlt)).1 (g := mkF m pc Ls (.int x :: .int j :: rf hB i :: st)) rfl rfl (hb C.2.2.1 hd)
  exact ⟨T', _, _, _, X', Fr.snoc X' N (Nat.le_add_right _ _), by rw [e']; exact P.wrA hi (fits_nar_char x) W, hs, k⟩
theorem bastore {i : Nat} {vs : List Value} {j : Int32} {x : Int32} {jn : Nat} (hd : decode bytes pc = .ok (.bastore, 1)) (hi : H[i]? = some (arr .byte vs)) (h0 : ¬ j < 0) (hjn : j.toNatClampNeg = jn) (hlt : jn < vs.length) (hH : H.set i (arr .byte (vs.set jn (.int (nar .byte x)))) = H') (hp : pc + 1 = pc') (hr : WP l Z hB y bytes ml ret R n1 Q sl H' pc' Ls st) : WP l Z hB y bytes ml ret R n1 Q sl H pc Ls (.int x :: .int j :: rf hB i :: st) := by
  subst hp; subst hH; subst hjn
  refine WP.stepH (fun p e s m args below meth c T locs cells slots C X hz N P hs => ?_) hr
  obtain ⟨cl, h1, h2, -⟩ := P.at hi
  obtain ⟨T', h', X', e', W, k⟩ := stB X C.1 C.2.1 rfl h1 (inb h2 h0 (List.getElem?_eq_getElem hlt)).1 (g := mkF m pc Ls (.int x :: .int j :: rf hB i :: st)) rfl rfl (hb C.2.2.1 hd)
  exact ⟨T', _, _, _, X', Fr.snoc X' N (Nat.le_add_right _ _), by rw [e']; exact P.wrA hi (fits_nar_byte x) W, hs, k⟩
theorem zastore {i : Nat} {vs : List Value} {j : Int32} {x : Int32} {jn : Nat} (hd : decode bytes pc = .ok (.bastore, 1)) (hi : H[i]? = some (arr .boolean vs)) (h0 : ¬ j < 0) (hjn : j.toNatClampNeg = jn) (hlt : jn < vs.length) (hH : H.set i (arr .boolean (vs.set jn (.int (nar .boolean x)))) = H') (hp : pc + 1 = pc') (hr : WP l Z hB y bytes ml ret R n1 Q sl H' pc' Ls st) : WP l Z hB y bytes ml ret R n1 Q sl H pc Ls (.int x :: .int j :: rf hB i :: st) := by
  subst hp; subst hH; subst hjn
  refine WP.stepH (fun p e s m args below meth c T locs cells slots C X hz N P hs => ?_) hr
  obtain ⟨cl, h1, h2, -⟩ := P.at hi
  obtain ⟨T', h', X', e', W, k⟩ := stZ X C.1 C.2.1 rfl h1 (inb h2 h0 (List.getElem?_eq_getElem hlt)).1 (g := mkF m pc Ls (.int x :: .int j :: rf hB i :: st)) rfl rfl (hb C.2.2.1 hd)
  exact ⟨T', _, _, _, X', Fr.snoc X' N (Nat.le_add_right _ _), by rw [e']; exact P.wrA hi (fits_nar_bool x) W, hs, k⟩
theorem aastore {i : Nat} {t : FieldType} {vs : List Value} {j : Int32} {v : Value} {jn : Nat} (hd : decode bytes pc = .ok (.aastore, 1)) (hi : H[i]? = some (arr t vs)) (ht : t.isReference = true) (F : ∀ h, Hp Z hB h H → Sto Z h (hB.size + i) v) (hf : fits t v = true) (h0 : ¬ j < 0) (hjn : j.toNatClampNeg = jn) (hlt : jn < vs.length) (hH : H.set i (arr t (vs.set jn v)) = H') (hp : pc + 1 = pc') (hr : WP l Z hB y bytes ml ret R n1 Q sl H' pc' Ls st) : WP l Z hB y bytes ml ret R n1 Q sl H pc Ls (v :: .int j :: rf hB i :: st) := by
  subst hp; subst hH; subst hjn
  refine WP.stepH (fun p e s m args below meth c T locs cells slots C X hz N P hs => ?_) hr
  obtain ⟨cl, h1, h2, -⟩ := P.at hi
  obtain ⟨T', h', X', e', W, k⟩ := stR X C.1 C.2.1 rfl h1 (inb h2 h0 (List.getElem?_eq_getElem hlt)).1 ht (F _ P) (g := mkF m pc Ls (v :: .int j :: rf hB i :: st)) rfl rfl (hb C.2.2.1 hd)
  exact ⟨T', _, _, _, X', Fr.snoc X' N (Nat.le_add_right _ _), by rw [e']; exact P.wrA hi hf W, hs, k⟩
theorem ialoadI {i : Nat} {xs : List Int32} {j x : Int32} {jn : Nat} (hd : decode bytes pc = .ok (.iaload, 1)) (hi : H[i]? = some (ints xs)) (h0 : ¬ j < 0) (hjn : j.toNatClampNeg = jn) (hv : xs[jn]? = some x) (hp : pc + 1 = pc') (hr : WP l Z hB y bytes ml ret R n1 Q sl H pc' Ls (.int x :: st)) : WP l Z hB y bytes ml ret R n1 Q sl H pc Ls (.int j :: rf hB i :: st) :=
  iaload hd hi h0 hjn (by rw [List.getElem?_map, hv]; rfl) hp hr
theorem iastoreI {i : Nat} {xs : List Int32} {j x : Int32} {jn : Nat} (hd : decode bytes pc = .ok (.iastore, 1)) (hi : H[i]? = some (ints xs)) (h0 : ¬ j < 0) (hjn : j.toNatClampNeg = jn) (hlt : jn < xs.length) (hH : H.set i (ints (xs.set jn x)) = H') (hp : pc + 1 = pc') (hr : WP l Z hB y bytes ml ret R n1 Q sl H' pc' Ls st) : WP l Z hB y bytes ml ret R n1 Q sl H pc Ls (.int x :: .int j :: rf hB i :: st) :=
  iastore hd hi h0 hjn (by rw [List.length_map]; exact hlt) (by rw [← hH]; show H.set i (arr .int ((xs.map Value.int).set jn (Value.int x))) = H.set i (arr .int ((xs.set jn x).map Value.int)); rw [List.map_set]) hp hr
theorem ialoadG {i : Nat} {xs : List Int32} {j x : Int32} (hd : decode bytes pc = .ok (.iaload, 1)) (hi : H[i]? = some (ints xs)) (hg : gI xs j = some x) (hp : pc + 1 = pc') (hr : WP l Z hB y bytes ml ret R n1 Q sl H pc' Ls (.int x :: st)) : WP l Z hB y bytes ml ret R n1 Q sl H pc Ls (.int j :: rf hB i :: st) :=
  ialoadI hd hi (gI_at hg).1 rfl (gI_at hg).2 hp hr
theorem iastoreG {i : Nat} {xs xs' : List Int32} {j x : Int32} (hd : decode bytes pc = .ok (.iastore, 1)) (hi : H[i]? = some (ints xs)) (hg : sI xs j x = some xs') (hH : H.set i (ints xs') = H') (hp : pc + 1 = pc') (hr : WP l Z hB y bytes ml ret R n1 Q sl H' pc' Ls st) : WP l Z hB y bytes ml ret R n1 Q sl H pc Ls (.int x :: .int j :: rf hB i :: st) :=
  iastoreI hd hi (sI_at hg).1 rfl (sI_at hg).2.1 (by rw [← hH, (sI_at hg).2.2]) hp hr
theorem stoO {h : Heap} (P : Hp Z hB h H) {i : Nat} {C : String} {vs : List Value} {b : Addr} (hi : H[i]? = some (arr (.object C) vs)) (I : Ins Z h b C true) : Sto Z h (hB.size + i) (.ref b) := by
  obtain ⟨cl, h1, -, -, -, h6, -⟩ := P.at hi
  exact Sto.of h1 (h6.1 _ rfl) I
theorem stoA {h : Heap} (P : Hp Z hB h H) {i : Nat} {ty : FieldType} {C : String} {vs : List Value} {b : Addr} (hi : H[i]? = some (arr (.array ty) vs)) (hC : (FieldType.array ty).toString = C) (I : Ins Z h b C true) : Sto Z h (hB.size + i) (.ref b) := by
  subst hC
  obtain ⟨cl, h1, -, -, -, h6, -⟩ := P.at hi
  obtain ⟨k, comp, o1, o2, o3⟩ := h6.2 _ rfl
  obtain ⟨cv, cT, i1, i2, i3⟩ := I
  cases o3.symm.trans i2
  simp only [Bool.and_eq_true, Bool.not_eq_true'] at i3
  obtain ⟨kc, q⟩ := Vm.classAt_of_findClass o3
  obtain ⟨kv, q2⟩ := Vm.classAt_of_assignable i3.2 ⟨kc, q⟩
  exact Or.inr ⟨cl, cv, k, kv, kc, _, _, b, h1.1, o1, o2, q, rfl, i1, i3.1, q2, i3.2⟩
/-- System.arraycopy into an array made since -/
theorem arraycopy {a : Addr} {i index : Nat} {t t' : FieldType} {vs vd us : List Value} {z sp dp nn : Int32} {spn dpn n : Nat} {dv : Value} (hd : decode bytes pc = .ok (.invokestatic index, 3)) (w1 : (Jvm.Cond.methodLink y.cls index Jvm.Stand.acN).before a0 Z = true) (w2 : (Jvm.Cond.native Jvm.Stand.acN).before a0 Z = true) (w3 : (Jvm.Cond.static Jvm.Stand.acN).before a0 Z = true) (w4 : (Jvm.Cond.initialized "java/lang/System").before a0 Z = true)
    (A : ∀ h, Hp Z hB h H → ∃ k, Arv Z h a k t z vs dv) (hi : H[i]? = some (arr t' vd)) (hty : (t = t' ∧ refKind t = false) ∨ (refKind t = true ∧ refKind t' = true ∧ ∀ h, Hp Z hB h H → StoL Z h (hB.size + i) us)) (h1 : ¬ sp < 0) (h2 : ¬ dp < 0) (h3 : ¬ nn < 0) (e1 : sp.toNatClampNeg = spn) (e2 : dp.toNatClampNeg = dpn) (e3 : nn.toNatClampNeg = n) (h4 : spn + n ≤ z.toNatClampNeg) (h5 : dpn + n ≤ vd.length) (hl : vd.length < 2 ^ 31)
    (hus : us = (List.range n).map fun j => vs.getD (spn + j) dv) (hml : Ls.size = ml) (hf : 1 ≤ R.frames) (hlo : (st.map fun v => v.category).sum + (nativeFrameWords "java/lang/System" "arraycopy" 5 + 11) ≤ R.locals) (hH : H.set i (arr t' (vd.take dpn ++ us ++ vd.drop (dpn + n))) = H') (hp : pc + 3 = pc') (hr : WP l Z hB y bytes ml ret R n1 Q sl H' pc' Ls st) : WP l Z hB y bytes ml ret R n1 Q sl H pc Ls (.int nn :: .int dp :: rf hB i :: .int sp :: .ref a :: st) := by
  subst hp; subst hH; subst e1; subst e2; subst e3
  refine WP.stepH (fun p e s m args below meth c T locs cells slots C X hz N P hs => ?_) hr
  obtain ⟨k, A⟩ := A _ P
  obtain ⟨k', B⟩ := P.arv hi hl .null
  obtain ⟨T', h', L, X', e', N', K, B', stp⟩ := cpA X C.1 C.2.1 C.2.2.2.2.1 w1 w2 w3 w4 rfl A B (hty.imp id fun q => ⟨q.1, q.2.1, q.2.2 _ P⟩) h1 h2 h3 h4 (by rw [(toNat_len hl).1]; exact h5) hus h5 N (Nat.le_add_right _ _) (g := mkF m pc Ls (.int nn :: .int dp :: rf hB i :: .int sp :: .ref a :: st)) rfl (hml.trans C.2.2.2.1.symm) rfl (hb C.2.2.1 hd) hf (W := (st.map fun v => v.category).sum) (by show 2 * 0 + _ ≤ _; omega) hlo
  subst e'
  have hle := X'.heapSize
  have ul : us.length = nn.toNatClampNeg := by rw [hus]; simp
  exact ⟨T', L, cells, slots, X', N', P.copied hi (by omega) K hl (by simp only [List.length_append, List.length_take, List.length_drop, ul]; omega) B', hs, stp⟩
theorem ldcInt {index : Nat} {x : Int32} (hd : decode bytes pc = .ok (.ldc index, 2)) (w : (Jvm.Cond.constant y.cls index x).before a0 Z = true) (hp : pc + 2 = pc') (hr : WP l Z hB y bytes ml ret R n1 Q sl H pc' Ls (.int x :: st)) : WP l Z hB y bytes ml ret R n1 Q sl H pc Ls st := by
  subst hp
  exact WP.step (fun p e s m args below meth c T locs cells slots C X P tgt h => X.ldcInt C.1 C.2.2.2.2.1 (mvT C.2.1 w) (g := mkF m pc Ls st) rfl (hb C.2.2.1 hd) _ h) hr
theorem ldc2Long {index : Nat} {x : Int64} (hd : decode bytes pc = .ok (.ldc2_w index, 3)) (w : (Jvm.Cond.constantLong y.cls index x).before a0 Z = true) (hp : pc + 3 = pc') (hr : WP l Z hB y bytes ml ret R n1 Q sl H pc' Ls (.long x :: st)) : WP l Z hB y bytes ml ret R n1 Q sl H pc Ls st := by
  subst hp
  exact WP.step (fun p e s m args below meth c T locs cells slots C X P tgt h => X.ldc2Long C.1 C.2.2.2.2.1 (mvT C.2.1 w) (g := mkF m pc Ls st) rfl (hb C.2.2.1 hd) _ h) hr
theorem castTo {K : String} {index : Nat} {a : Addr} (hd : decode bytes pc = .ok (.checkcast index, 3)) (w : (Jvm.Cond.classLink y.cls index K).before a0 Z = true) (F : ∀ h, Hp Z hB h H → Ins Z h a K true) (hp : pc + 3 = pc') (hr : WP l Z hB y bytes ml ret R n1 Q sl H pc' Ls (.ref a :: st)) : WP l Z hB y bytes ml ret R n1 Q sl H pc Ls (.ref a :: st) := by
  subst hp
  exact WP.stepT (fun p e s m args below meth c T locs cells slots C X P => castY X C.1 C.2.1 C.2.2.2.2.1 w rfl (F _ P) (g := mkF m pc Ls (.ref a :: st)) rfl rfl (hb C.2.2.1 hd)) hr
theorem instYes {K : String} {index : Nat} {a : Addr} (hd : decode bytes pc = .ok (.instanceof index, 3)) (w : (Jvm.Cond.classLink y.cls index K).before a0 Z = true) (F : ∀ h, Hp Z hB h H → Ins Z h a K true) (hp : pc + 3 = pc') (hr : WP l Z hB y bytes ml ret R n1 Q sl H pc' Ls (.int 1 :: st)) : WP l Z hB y bytes ml ret R n1 Q sl H pc Ls (.ref a :: st) := by
  subst hp
  exact WP.stepT (fun p e s m args below meth c T locs cells slots C X P => instY X C.1 C.2.1 C.2.2.2.2.1 w rfl (F _ P) (g := mkF m pc Ls (.ref a :: st)) rfl rfl (hb C.2.2.1 hd)) hr
theorem instNot {K C : String} {index : Nat} {a : Addr} (hd : decode bytes pc = .ok (.instanceof index, 3)) (w : (Jvm.Cond.classLink y.cls index K).before a0 Z = true) (E : ∀ h, Hp Z hB h H → Exa Z h a C) (F : ∃ c t, Z.vm.findClass C = some c ∧ Z.vm.findClass K = some t ∧ Z.vm.assignable c t = false) (hp : pc + 3 = pc') (hr : WP l Z hB y bytes ml ret R n1 Q sl H pc' Ls (.int 0 :: st)) : WP l Z hB y bytes ml ret R n1 Q sl H pc Ls (.ref a :: st) := by
  subst hp
  exact WP.stepT (fun p e s m args below meth c T locs cells slots C X P => instNo X C.1 C.2.1 C.2.2.2.2.1 w rfl (E _ P) F (g := mkF m pc Ls (.ref a :: st)) rfl rfl (hb C.2.2.1 hd)) hr
theorem instNull {index : Nat} (hd : decode bytes pc = .ok (.instanceof index, 3)) (hp : pc + 3 = pc') (hr : WP l Z hB y bytes ml ret R n1 Q sl H pc' Ls (.int 0 :: st)) : WP l Z hB y bytes ml ret R n1 Q sl H pc Ls (.null :: st) := by
  subst hp
  exact WP.step (fun p e s m args below meth c T locs cells slots C X P tgt h => X.instanceofNull C.1 (g := mkF m pc Ls (.null :: st)) rfl rfl (hb C.2.2.1 hd) _ h) hr
theorem castNull {index : Nat} (hd : decode bytes pc = .ok (.checkcast index, 3)) (hp : pc + 3 = pc') (hr : WP l Z hB y bytes ml ret R n1 Q sl H pc' Ls (.null :: st)) : WP l Z hB y bytes ml ret R n1 Q sl H pc Ls (.null :: st) := by
  subst hp
  exact WP.step (fun p e s m args below meth c T locs cells slots C X P tgt h => X.checkcastNull C.1 (g := mkF m pc Ls (.null :: st)) rfl rfl (hb C.2.2.1 hd) _ h) hr
/-! returns -/
theorem retV {w : Value} {t : FieldType} {i : Instr} (hd : decode bytes pc = .ok (i, 1)) (hret : ret = some t) (hn : narrow t w = w)
    (hi : (i = .ireturn ∧ (t = .int ∨ t = .boolean ∨ t = .byte ∨ t = .char ∨ t = .short) ∧ ∃ z, w = .int z) ∨ (i = .lreturn ∧ t = .long ∧ ∃ z, w = .long z) ∨ (i = .dreturn ∧ t = .double ∧ ∃ z, w = .double z) ∨ (i = .freturn ∧ t = .float ∧ ∃ z, w = .float z) ∨ (i = .areturn ∧ t.isReference = true ∧ w.isRef = true))
    (hc : H.length ≤ n1 + R.cells) (hs : sl ≤ R.slots) (hQ : Q (some w) H) : WP l Z hB y bytes ml ret R n1 Q sl H pc Ls (w :: st) := by
  intro p e s m args below meth c C T locs cells slots X N P hs'
  have hr := C.2.2.2.2.2.2.1.trans hret
  have hsz := C.2.2.2.2.2.2.2.2
  have hp1 := P.1
  obtain ⟨fs, hl, hrun, hended, hW, hsame⟩ := (exact' X (k := R.cells) (by omega)).leave (v := some w) (fun h => by rw [hr] at h; cases h) C.2.2.2.2.2.2.2.1
  exact ⟨_, _, retOut X C.1 hr hn hi (hb C.2.2.1 hd) hl, hrun, hended, some w, locs, H, rfl, hQ, P, N, ⟨_, rfl⟩, hW, hsame.mono (Nat.le_refl _) (Nat.le_trans hs' hs)⟩
theorem iret {x : Int32} {t : FieldType} (hd : decode bytes pc = .ok (.ireturn, 1)) (hret : ret = some t) (ht : t = .int ∨ t = .boolean ∨ t = .byte ∨ t = .char ∨ t = .short) (hn : narrow t (.int x) = .int x) (hc : H.length ≤ n1 + R.cells) (hs : sl ≤ R.slots) (hQ : Q (some (.int x)) H) : WP l Z hB y bytes ml ret R n1 Q sl H pc Ls (.int x :: st) :=
  retV hd hret hn (Or.inl ⟨rfl, ht, _, rfl⟩) hc hs hQ
theorem iretN {x : Int32} {t : FieldType} (hd : decode bytes pc = .ok (.ireturn, 1)) (hret : ret = some t) (ht : t = .boolean ∨ t = .byte ∨ t = .char ∨ t = .short) (hc : H.length ≤ n1 + R.cells) (hs : sl ≤ R.slots) (hQ : Q (some (.int (nar t x))) H) : WP l Z hB y bytes ml ret R n1 Q sl H pc Ls (.int x :: st) := by
  intro p e s m args below meth c C T locs cells slots X N P hs'
  have hr := C.2.2.2.2.2.2.1.trans hret
  have hsz := C.2.2.2.2.2.2.2.2
  have hp1 := P.1
  obtain ⟨fs, hl, hrun, hended, hW, hsame⟩ := (exact' X (k := R.cells) (by omega)).leave (v := some (.int (nar t x))) (fun h => by rw [hr] at h; cases h) C.2.2.2.2.2.2.2.1
  exact ⟨_, _, retN X C.1 hr ht (hb C.2.2.1 hd) hl, hrun, hended, _, locs, H, rfl, hQ, P, N, ⟨_, rfl⟩, hW, hsame.mono (Nat.le_refl _) (Nat.le_trans hs' hs)⟩
theorem lret {x : Int64} (hd : decode bytes pc = .ok (.lreturn, 1)) (hret : ret = some .long) (hc : H.length ≤ n1 + R.cells) (hs : sl ≤ R.slots) (hQ : Q (some (.long x)) H) : WP l Z hB y bytes ml ret R n1 Q sl H pc Ls (.long x :: st) :=
  retV hd hret rfl (Or.inr (Or.inl ⟨rfl, rfl, _, rfl⟩)) hc hs hQ
theorem aret {w : Value} {t : FieldType} (hd : decode bytes pc = .ok (.areturn, 1)) (hret : ret = some t) (ht : t.isReference = true) (hw : w.isRef = true) (hc : H.length ≤ n1 + R.cells) (hs : sl ≤ R.slots) (hQ : Q (some w) H) : WP l Z hB y bytes ml ret R n1 Q sl H pc Ls (w :: st) :=
  retV hd hret (by rcases ref_cases hw with rfl | ⟨a, rfl⟩ <;> cases t <;> first | rfl | cases ht) (Or.inr (Or.inr (Or.inr (Or.inr ⟨rfl, ht, hw⟩)))) hc hs hQ
theorem vret (hd : decode bytes pc = .ok (.return_, 1)) (hret : ret = none) (hc : H.length ≤ n1 + R.cells) (hs : sl ≤ R.slots) (hQ : Q none H) : WP l Z hB y bytes ml ret R n1 Q sl H pc Ls [] := by
  intro p e s m args below meth c C T locs cells slots X N P hs'
  have hr := C.2.2.2.2.2.2.1.trans hret
  have hsz := C.2.2.2.2.2.2.2.2
  have hp1 := P.1
  obtain ⟨fs, hl, hrun, hended, hW, hsame⟩ := (exact' X (k := R.cells) (by omega)).leave (v := none) (fun _ => rfl) C.2.2.2.2.2.2.2.1
  exact ⟨_, _, X.returnOut C.1 hr (hb C.2.2.1 hd) hl, hrun, hended, none, locs, H, rfl, hQ, P, N, ⟨_, rfl⟩, hW, hsame.mono (Nat.le_refl _) (Nat.le_trans hs' hs)⟩
/-! calls -/
section Calls
variable {y' z' : MethodName} {bytes' : ByteArray} {ml' : Nat} {ret' : Option FieldType} {rm : Room} {Q' : Option Value → List Rec → Prop} {index : Nat} {argsL st0 : List Value}
theorem mkBack {p : Program} {e : Env} {s : State} {args : Array Value} {below : List Frame} {h : Heap} {len W : Nat} {as' : Array Value} (hC : Ctr l Z hB y' bytes' ml' ret' [] rm as' H Q') (P : Hp Z hB h H) (hZ : Z.Warmed39 s.vm) (w4 : (Jvm.Cond.code y' bytes' ml' ret').before a0 Z = true) (w3 : (Jvm.Cond.initialized y'.cls).before a0 Z = true) (hfr : rm.frames + 1 ≤ R.frames) (hlo : W + (ml' + 11) + rm.locals ≤ R.locals) :
    Back l R p e below s args y' len W (fun A a => a = as' ∧ A.U.heap = h ∧ A.cells + rm.cells ≤ R.cells ∧ A.slots + rm.slots ≤ R.slots)
      (fun A _ v B => ∃ L, (∃ H', Q' v H' ∧ Hp Z hB B.U.heap H' ∧ Fr hB.size L) ∧ B.locs = A.locs ++ L ∧ B.cells = A.cells + rm.cells ∧ B.slots = A.slots + rm.slots) :=
  backOf (Q := fun v h L => ∃ H', Q' v H' ∧ Hp Z hB h H' ∧ Fr hB.size L) (MetFree.mono hC (fun a s h => ⟨h.1, h.2.1, by rw [h.2.2]; exact P⟩) (fun _ _ _ _ _ h => h) (fun a s o s' _ ⟨v, L, H', h1, h2, h3, h4, h5⟩ => ⟨v, L, h1, ⟨H', h2, h3, h4⟩, h5⟩)) hZ w4 w3 hfr hlo
theorem callS (hd : decode bytes pc = .ok (.invokestatic index, 3)) (w1 : (Jvm.Cond.methodLink y.cls index y').before a0 Z = true) (w2 : (Jvm.Cond.static y').before a0 Z = true) (w3 : (Jvm.Cond.initialized y'.cls).before a0 Z = true) (w4 : (Jvm.Cond.code y' bytes' ml' ret').before a0 Z = true) (hy : y'.cls ≠ "java/lang/invoke/MethodHandle" ∧ y'.cls ≠ "java/lang/invoke/VarHandle") (hlen : ∀ sig, parseMethodDescriptor y'.desc = some sig → argsL.length = sig.parameters.length)
    (hC : Ctr l Z hB y' bytes' ml' ret' [] rm argsL.toArray H Q') (hml : Ls.size = ml) (hfr : rm.frames + 1 ≤ R.frames) (hlo : (st.map fun v => v.category).sum + (ml' + 11) + rm.locals ≤ R.locals) (hcl : H.length + rm.cells ≤ n1 + R.cells) (hsl : sl + rm.slots ≤ R.slots) (hst : argsL.reverse ++ st = st0) (hp : pc + 3 = pc')
    (hr : ∀ v H', Q' v H' → WP l Z hB y bytes ml ret R n1 Q (sl + rm.slots) H' pc' Ls (v.toList ++ st)) : WP l Z hB y bytes ml ret R n1 Q sl H pc Ls st0 := by
  subst hp; subst hst
  intro p e s m args below meth c C T locs cells slots X N P hs
  have hsz := C.2.2.2.2.2.2.2.2
  have hp1 := P.1
  have hz : T.heap.size = s.heap.size + (T.heap.size - s.heap.size) := by have := X.same.2.1; have : s.heap.size ≤ T.heap.size := this; omega
  obtain ⟨v, vm1, ⟨U', ls, cc, ss⟩, -, X', ⟨L, hq, e1, e2, e3⟩, stp⟩ := Jvm.LawKit.callS (exact' X (Nat.le_of_eq hz)) C.1 (y := y') C.2.2.2.2.1 (mvT C.2.1 w1) (mvT C.2.1 w2) (mvT C.2.1 w3) (mvT C.2.1 w4) hy (mkBack (W := (st.map fun v => v.category).sum) hC P C.2.1 w4 w3 hfr hlo) (g := mkF m pc Ls (argsL.reverse ++ st)) rfl (hml.trans C.2.2.2.1.symm) (argsL := argsL) (rest := st) hlen rfl (by show 2 * 0 + _ ≤ _; omega) (hb C.2.2.1 hd) (fun _ _ => ⟨rfl, rfl, by show T.heap.size - s.heap.size + _ ≤ _; omega, by show slots + _ ≤ _; omega⟩)
  dsimp only [Pt.U, Pt.locs, Pt.cells, Pt.slots] at X' e1 e2 e3 stp hq
  subst e1 e2 e3
  obtain ⟨H', q1, q2, q3⟩ := hq
  obtain ⟨U, o, h1, h2⟩ := hr v H' q1 p e s m args below meth c C U' _ _ _ X' (Fr.app N q3) q2 (by omega)
  exact ⟨U, o, stp U h1, h2⟩
theorem callI {a : Addr} (hd : decode bytes pc = .ok (.invokespecial index, 3)) (hy1 : y'.name = "<init>") (w1 : (Jvm.Cond.methodLink y.cls index y').before a0 Z = true) (w2 : (Jvm.Cond.instanceMethod y').before a0 Z = true) (w3 : (Jvm.Cond.initialized y'.cls).before a0 Z = true) (w4 : (Jvm.Cond.code y' bytes' ml' none).before a0 Z = true) (hy : y'.cls ≠ "java/lang/invoke/MethodHandle" ∧ y'.cls ≠ "java/lang/invoke/VarHandle") (hlen : ∀ sig, parseMethodDescriptor y'.desc = some sig → argsL.length = sig.parameters.length)
    (hC : Ctr l Z hB y' bytes' ml' none [] rm (.ref a :: argsL).toArray H Q') (hml : Ls.size = ml) (hfr : rm.frames + 1 ≤ R.frames) (hlo : (st.map fun v => v.category).sum + (ml' + 11) + rm.locals ≤ R.locals) (hcl : H.length + rm.cells ≤ n1 + R.cells) (hsl : sl + rm.slots ≤ R.slots) (hst : argsL.reverse ++ .ref a :: st = st0) (hp : pc + 3 = pc')
    (hr : ∀ v H', Q' v H' → WP l Z hB y bytes ml ret R n1 Q (sl + rm.slots) H' pc' Ls (v.toList ++ st)) : WP l Z hB y bytes ml ret R n1 Q sl H pc Ls st0 := by
  subst hp; subst hst
  intro p e s m args below meth c C T locs cells slots X N P hs
  have hsz := C.2.2.2.2.2.2.2.2
  have hp1 := P.1
  have hz : T.heap.size = s.heap.size + (T.heap.size - s.heap.size) := by have := X.same.2.1; have : s.heap.size ≤ T.heap.size := this; omega
  obtain ⟨v, vm1, ⟨U', ls, cc, ss⟩, -, X', ⟨L, hq, e1, e2, e3⟩, stp⟩ := (exact' X (Nat.le_of_eq hz)).specialBack C.1 (y := y') hy1 C.2.2.2.2.1 (mvT C.2.1 w1) (mvT C.2.1 w2) (mvT C.2.1 w4) hy (mkBack (W := (st.map fun v => v.category).sum) hC P C.2.1 w4 w3 hfr hlo) (g := mkF m pc Ls (argsL.reverse ++ .ref a :: st)) rfl (hml.trans C.2.2.2.1.symm) (Steps.refl _) (a := a) (argsL := argsL) (rest := st) hlen rfl (by show 2 * 0 + _ ≤ _; omega) (hb C.2.2.1 hd) (fun _ _ => ⟨rfl, rfl, by show T.heap.size - s.heap.size + _ ≤ _; omega, by show slots + _ ≤ _; omega⟩)
  dsimp only [Pt.U, Pt.locs, Pt.cells, Pt.slots] at X' e1 e2 e3 stp hq
  subst e1 e2 e3
  obtain ⟨H', q1, q2, q3⟩ := hq
  obtain ⟨U, o, h1, h2⟩ := hr v H' q1 p e s m args below meth c C U' _ _ _ X' (Fr.app N q3) q2 (by omega)
  exact ⟨U, o, stp.trans h1, h2⟩
theorem nfSel {C : String} (w : (Jvm.Cond.selects C y' y').before a0 Z = true) : ∀ s : State, Z.Warmed39 s.vm → NotFace s y' := fun s hZ => notFace_of_selects (args := #[]) (mvT hZ w)
theorem callV {a : Addr} {C : String} (hd : decode bytes pc = .ok (.invokevirtual index, 3)) (w1 : (Jvm.Cond.methodLink y.cls index y').before a0 Z = true) (w2 : (Jvm.Cond.declares y').before a0 Z = true) (hnf : ∀ s : State, Z.Warmed39 s.vm → NotFace s y') (w5 : (Jvm.Cond.selects C y' z').before a0 Z = true) (w6 : (Jvm.Cond.instanceMethod z').before a0 Z = true) (w3 : (Jvm.Cond.initialized z'.cls).before a0 Z = true) (w4 : (Jvm.Cond.code z' bytes' ml' ret').before a0 Z = true) (hy : y'.cls ≠ "java/lang/invoke/MethodHandle" ∧ y'.cls ≠ "java/lang/invoke/VarHandle") (hlen : ∀ sig, parseMethodDescriptor y'.desc = some sig → argsL.length = sig.parameters.length)
    (E : ∀ h, Hp Z hB h H → Exa Z h a C) (hC : Ctr l Z hB z' bytes' ml' ret' [] rm (.ref a :: argsL).toArray H Q') (hml : Ls.size = ml) (hfr : rm.frames + 1 ≤ R.frames) (hlo : (st.map fun v => v.category).sum + (ml' + 11) + rm.locals ≤ R.locals) (hcl : H.length + rm.cells ≤ n1 + R.cells) (hsl : sl + rm.slots ≤ R.slots) (hst : argsL.reverse ++ .ref a :: st = st0) (hp : pc + 3 = pc')
    (hr : ∀ v H', Q' v H' → WP l Z hB y bytes ml ret R n1 Q (sl + rm.slots) H' pc' Ls (v.toList ++ st)) : WP l Z hB y bytes ml ret R n1 Q sl H pc Ls st0 := by
  subst hp; subst hst
  intro p e s m args below meth c C' T locs cells slots X N P hs
  have hsz := C'.2.2.2.2.2.2.2.2
  have hp1 := P.1
  have hz : T.heap.size = s.heap.size + (T.heap.size - s.heap.size) := by have := X.same.2.1; have : s.heap.size ≤ T.heap.size := this; omega
  obtain ⟨cq, kq, qa, qb, qc⟩ := isOf (s := s) (T := T) C'.2.1 rfl (E _ P)
  obtain ⟨v, vm1, ⟨U', ls, cc, ss⟩, -, X', ⟨L, hq, e1, e2, e3⟩, stp⟩ := (exact' X (Nat.le_of_eq hz)).virtualBack C'.1 (y := y') (z := z') C'.2.2.2.2.1 (mvT C'.2.1 w1) (mvT C'.2.1 w2) (hnf s C'.2.1) (mvT C'.2.1 w5) (mvT C'.2.1 w6) hy (mkBack (W := (st.map fun v => v.category).sum) hC P C'.2.1 w4 w3 hfr hlo) qa qc (g := mkF m pc Ls (argsL.reverse ++ .ref a :: st)) rfl (hml.trans C'.2.2.2.1.symm) (Steps.refl _) (argsL := argsL) (rest := st) hlen rfl (by show 2 * 0 + _ ≤ _; omega) (hb C'.2.2.1 hd) (fun _ _ => ⟨rfl, rfl, by show T.heap.size - s.heap.size + _ ≤ _; omega, by show slots + _ ≤ _; omega⟩)
  dsimp only [Pt.U, Pt.locs, Pt.cells, Pt.slots] at X' e1 e2 e3 stp hq
  subst e1 e2 e3
  obtain ⟨H', q1, q2, q3⟩ := hq
  obtain ⟨U, o, h1, h2⟩ := hr v H' q1 p e s m args below meth c C' U' _ _ _ X' (Fr.app N q3) q2 (by omega)
  exact ⟨U, o, stp.trans h1, h2⟩
/-- through a subclass's name: the class 'owner' declares it -/
theorem callU {a : Addr} {C owner : String} (hd : decode bytes pc = .ok (.invokevirtual index, 3)) (w1 : (Jvm.Cond.methodLink y.cls index y').before a0 Z = true) (w7 : (Jvm.Cond.sameMethod y'.cls owner y'.name y'.desc).before a0 Z = true) (w2 : (Jvm.Cond.declares ⟨owner, y'.name, y'.desc⟩).before a0 Z = true) (w5 : (Jvm.Cond.selects C y' z').before a0 Z = true) (w6 : (Jvm.Cond.instanceMethod z').before a0 Z = true) (w3 : (Jvm.Cond.initialized z'.cls).before a0 Z = true) (w4 : (Jvm.Cond.code z' bytes' ml' ret').before a0 Z = true) (hy : owner ≠ "java/lang/invoke/MethodHandle" ∧ owner ≠ "java/lang/invoke/VarHandle") (hlen : ∀ sig, parseMethodDescriptor y'.desc = some sig → argsL.length = sig.parameters.length)
    (E : ∀ h, Hp Z hB h H → Exa Z h a C) (hC : Ctr l Z hB z' bytes' ml' ret' [] rm (.ref a :: argsL).toArray H Q') (hml : Ls.size = ml) (hfr : rm.frames + 1 ≤ R.frames) (hlo : (st.map fun v => v.category).sum + (ml' + 11) + rm.locals ≤ R.locals) (hcl : H.length + rm.cells ≤ n1 + R.cells) (hsl : sl + rm.slots ≤ R.slots) (hst : argsL.reverse ++ .ref a :: st = st0) (hp : pc + 3 = pc')
    (hr : ∀ v H', Q' v H' → WP l Z hB y bytes ml ret R n1 Q (sl + rm.slots) H' pc' Ls (v.toList ++ st)) : WP l Z hB y bytes ml ret R n1 Q sl H pc Ls st0 := by
  subst hp; subst hst
  intro p e s m args below meth c C' T locs cells slots X N P hs
  have hsz := C'.2.2.2.2.2.2.2.2
  have hp1 := P.1
  have hz : T.heap.size = s.heap.size + (T.heap.size - s.heap.size) := by have := X.same.2.1; have : s.heap.size ≤ T.heap.size := this; omega
  obtain ⟨cq, kq, qa, qb, qc⟩ := isOf (s := s) (T := T) C'.2.1 rfl (E _ P)
  obtain ⟨v, vm1, ⟨U', ls, cc, ss⟩, -, X', ⟨L, hq, e1, e2, e3⟩, stp⟩ := (exact' X (Nat.le_of_eq hz)).virtualBackUp C'.1 (x := y') (y := z') C'.2.2.2.2.1 (mvT C'.2.1 w1) (mvT C'.2.1 w7) (mvT C'.2.1 w2) hy (mvT C'.2.1 w5) (mvT C'.2.1 w6) (mkBack (W := (st.map fun v => v.category).sum) hC P C'.2.1 w4 w3 hfr hlo) qa qc (g := mkF m pc Ls (argsL.reverse ++ .ref a :: st)) rfl (hml.trans C'.2.2.2.1.symm) (Steps.refl _) (argsL := argsL) (rest := st) hlen rfl (by show 2 * 0 + _ ≤ _; omega) (hb C'.2.2.1 hd) (fun _ _ => ⟨rfl, rfl, by show T.heap.size - s.heap.size + _ ≤ _; omega, by show slots + _ ≤ _; omega⟩)
  dsimp only [Pt.U, Pt.locs, Pt.cells, Pt.slots] at X' e1 e2 e3 stp hq
  subst e1 e2 e3
  obtain ⟨H', q1, q2, q3⟩ := hq
  obtain ⟨U, o, h1, h2⟩ := hr v H' q1 p e s m args below meth c C' U' _ _ _ X' (Fr.app N q3) q2 (by omega)
  exact ⟨U, o, stp.trans h1, h2⟩
/-- a private method, by invokevirtual -/
theorem callP {a : Addr} {C : String} (hd : decode bytes pc = .ok (.invokevirtual index, 3)) (w1 : (Jvm.Cond.methodLink y.cls index y').before a0 Z = true) (w6 : (Jvm.Cond.instanceMethod y').before a0 Z = true) (w5 : (Jvm.Cond.selects y'.cls y' y').before a0 Z = true) (w8 : (Jvm.Cond.privateMethod y').before a0 Z = true) (w3 : (Jvm.Cond.initialized y'.cls).before a0 Z = true) (w4 : (Jvm.Cond.code y' bytes' ml' ret').before a0 Z = true) (hy : y'.cls ≠ "java/lang/invoke/MethodHandle" ∧ y'.cls ≠ "java/lang/invoke/VarHandle") (hlen : ∀ sig, parseMethodDescriptor y'.desc = some sig → argsL.length = sig.parameters.length)
    (E : ∀ h, Hp Z hB h H → Exa Z h a C) (hC : Ctr l Z hB y' bytes' ml' ret' [] rm (.ref a :: argsL).toArray H Q') (hml : Ls.size = ml) (hfr : rm.frames + 1 ≤ R.frames) (hlo : (st.map fun v => v.category).sum + (ml' + 11) + rm.locals ≤ R.locals) (hcl : H.length + rm.cells ≤ n1 + R.cells) (hsl : sl + rm.slots ≤ R.slots) (hst : argsL.reverse ++ .ref a :: st = st0) (hp : pc + 3 = pc')
    (hr : ∀ v H', Q' v H' → WP l Z hB y bytes ml ret R n1 Q (sl + rm.slots) H' pc' Ls (v.toList ++ st)) : WP l Z hB y bytes ml ret R n1 Q sl H pc Ls st0 := by
  subst hp; subst hst
  intro p e s m args below meth c C' T locs cells slots X N P hs
  have hsz := C'.2.2.2.2.2.2.2.2
  have hp1 := P.1
  have hz : T.heap.size = s.heap.size + (T.heap.size - s.heap.size) := by have := X.same.2.1; have : s.heap.size ≤ T.heap.size := this; omega
  obtain ⟨cq, qa, qb⟩ := (E _ P).cell
  obtain ⟨v, vm1, ⟨U', ls, cc, ss⟩, -, X', ⟨L, hq, e1, e2, e3⟩, stp⟩ := (exact' X (Nat.le_of_eq hz)).privateBack C'.1 (y := y') C'.2.2.2.2.1 (mvT C'.2.1 w1) (mvT C'.2.1 w6) (mvT C'.2.1 w5) (Cond.privateMethod_at (mvP C'.2.1 w8 (args := #[]))) (mvT C'.2.1 w4) hy (mkBack (W := (st.map fun v => v.category).sum) hC P C'.2.1 w4 w3 hfr hlo) (g := mkF m pc Ls (argsL.reverse ++ .ref a :: st)) rfl (hml.trans C'.2.2.2.1.symm) (Steps.refl _) (a := a) qa qb (argsL := argsL) (rest := st) hlen rfl (by show 2 * 0 + _ ≤ _; omega) (hb C'.2.2.1 hd) (fun _ _ => ⟨rfl, rfl, by show T.heap.size - s.heap.size + _ ≤ _; omega, by show slots + _ ≤ _; omega⟩)
  dsimp only [Pt.U, Pt.locs, Pt.cells, Pt.slots] at X' e1 e2 e3 stp hq
  subst e1 e2 e3
  obtain ⟨H', q1, q2, q3⟩ := hq
  obtain ⟨U, o, h1, h2⟩ := hr v H' q1 p e s m args below meth c C' U' _ _ _ X' (Fr.app N q3) q2 (by omega)
  exact ⟨U, o, stp.trans h1, h2⟩
theorem callF {a : Addr} {C : String} {count : Nat} (hfa : (Jvm.Cond.interfaceMethod y'.cls y'.cls y'.name y'.desc).faceAtom = true) (hd : decode bytes pc = .ok (.invokeinterface index count, 5)) (w1 : (Jvm.Cond.methodLink y.cls index y').before a0 Z = true) (w2 : (Jvm.Cond.declares y').before a0 Z = true) (wf : (Jvm.Cond.interfaceMethod y'.cls y'.cls y'.name y'.desc).before a0 Z = true) (w5 : (Jvm.Cond.selects C y' z').before a0 Z = true) (w6 : (Jvm.Cond.instanceMethod z').before a0 Z = true) (wp : (Jvm.Cond.publicMethod z').before a0 Z = true) (wu : (Jvm.Cond.unhidden C y'.name y'.desc).before a0 Z = true) (wc : (Jvm.Cond.castable C y'.cls).before a0 Z = true) (w3 : (Jvm.Cond.initialized z'.cls).before a0 Z = true) (w4 : (Jvm.Cond.code z' bytes' ml' ret').before a0 Z = true) (hy : y'.cls ≠ "java/lang/invoke/MethodHandle" ∧ y'.cls ≠ "java/lang/invoke/VarHandle") (hlen : ∀ sig, parseMethodDescriptor y'.desc = some sig → argsL.length = sig.parameters.length)
    (E : ∀ h, Hp Z hB h H → Exa Z h a C) (hC : Ctr l Z hB z' bytes' ml' ret' [] rm (.ref a :: argsL).toArray H Q') (hml : Ls.size = ml) (hfr : rm.frames + 1 ≤ R.frames) (hlo : (st.map fun v => v.category).sum + (ml' + 11) + rm.locals ≤ R.locals) (hcl : H.length + rm.cells ≤ n1 + R.cells) (hsl : sl + rm.slots ≤ R.slots) (hst : argsL.reverse ++ .ref a :: st = st0) (hp : pc + 5 = pc')
    (hr : ∀ v H', Q' v H' → WP l Z hB y bytes ml ret R n1 Q (sl + rm.slots) H' pc' Ls (v.toList ++ st)) : WP l Z hB y bytes ml ret R n1 Q sl H pc Ls st0 := by
  subst hp; subst hst
  intro p e s m args below meth c C' T locs cells slots X N P hs
  have hsz := C'.2.2.2.2.2.2.2.2
  have hp1 := P.1
  have hz : T.heap.size = s.heap.size + (T.heap.size - s.heap.size) := by have := X.same.2.1; have : s.heap.size ≤ T.heap.size := this; omega
  obtain ⟨cq, kq, qa, qb, qc⟩ := isOf (s := s) (T := T) C'.2.1 rfl (E _ P)
  obtain ⟨v, vm1, ⟨U', ls, cc, ss⟩, -, X', ⟨L, hq, e1, e2, e3⟩, stp⟩ := (exact' X (Nat.le_of_eq hz)).interfaceBack C'.1 (xi := y') (y := z') C'.2.2.2.2.1 (mvT C'.2.1 w1) (mvT C'.2.1 w2) (mvT C'.2.1 wf (by simp [Cond.onTables, Cond.keepsFace, Cond.keeps, Cond.steady, hfa])) (mvT C'.2.1 w5) (mvT C'.2.1 w6) (mvT C'.2.1 wp) (mvT C'.2.1 wu) (mvT C'.2.1 wc) hy (mkBack (W := (st.map fun v => v.category).sum) hC P C'.2.1 w4 w3 hfr hlo) qa qb qc (g := mkF m pc Ls (argsL.reverse ++ .ref a :: st)) rfl (hml.trans C'.2.2.2.1.symm) (Steps.refl _) (argsL := argsL) (rest := st) hlen rfl (by show 2 * 0 + _ ≤ _; omega) (hb C'.2.2.1 hd) (fun _ _ => ⟨rfl, rfl, by show T.heap.size - s.heap.size + _ ≤ _; omega, by show slots + _ ≤ _; omega⟩)
  dsimp only [Pt.U, Pt.locs, Pt.cells, Pt.slots] at X' e1 e2 e3 stp hq
  subst e1 e2 e3
  obtain ⟨H', q1, q2, q3⟩ := hq
  obtain ⟨U, o, h1, h2⟩ := hr v H' q1 p e s m args below meth c C' U' _ _ _ X' (Fr.app N q3) q2 (by omega)
  exact ⟨U, o, stp.trans h1, h2⟩
end Calls
theorem gsE {H : List Rec} {i : Nat} {r r' : Rec} (h : H[i]? = some r) : (H.set i r')[i]? = some r' := by
  have := (List.getElem?_eq_some_iff.mp h).1
  simp [List.getElem?_set, this]
theorem gsN {H : List Rec} {i j : Nat} {r r' : Rec} (hn : j ≠ i) (h : H[i]? = some r) : (H.set j r')[i]? = some r := by rw [List.getElem?_set_ne hn]; exact h
theorem gaL {H : List Rec} {i : Nat} {r r' : Rec} (h : H[i]? = some r) : (H ++ [r'])[i]? = some r := by
  have := (List.getElem?_eq_some_iff.mp h).1
  rw [List.getElem?_append_left this]; exact h
theorem gaR {H : List Rec} {i : Nat} {r : Rec} (h : H.length = i) : (H ++ [r])[i]? = some r := by subst h; simp
theorem saR {H : List Rec} {a b : Rec} : (H ++ [a]).set H.length b = H ++ [b] := by simp
theorem distK {C : String} {ks : List Key} (hl : ∀ (i : Nat) (k : Key), ks[i]? = some k → Laid Z a0 C k.1 k.2.1 k.2.2) (hn : (ks.map fun k => k.2.1).Nodup) (hd : (ks.all fun k => (parseFieldDescriptor k.2.2).isSome) = true) : ∀ (i j : Nat) (k k' : Key), ks[i]? = some k → ks[j]? = some k' → i ≠ j → kslot Z k ≠ kslot Z k' := by
  intro i j k k' h1 h2 hne
  obtain ⟨l1, g1⟩ := List.getElem?_eq_some_iff.mp h1
  obtain ⟨l2, g2⟩ := List.getElem?_eq_some_iff.mp h2
  have p1 := List.all_eq_true.mp hd k (List.mem_of_getElem? h1)
  have p2 := List.all_eq_true.mp hd k' (List.mem_of_getElem? h2)
  obtain ⟨t1, q1⟩ := Option.isSome_iff_exists.mp p1
  obtain ⟨t2, q2⟩ := Option.isSome_iff_exists.mp p2
  refine slot_ne (hl i k h1) (hl j k' h2) (fun e => hne ?_) q1 q2
  have hp := List.pairwise_iff_getElem.mp hn
  rcases Nat.lt_trichotomy i j with z | z | z
  · exact (hp i j (by simpa using l1) (by simpa using l2) z (by rw [List.getElem_map, List.getElem_map, g1, g2, e])).elim
  · exact z
  · exact (hp j i (by simpa using l2) (by simpa using l1) z (by rw [List.getElem_map, List.getElem_map, g1, g2, e])).elim
end Walk
section Start
variable {args : Array Value} {Z : State}
theorem exaOf {t : Term} {C : String} (h : (Jvm.Cond.exactly t C).value args Z none Z [] = some true) : ∃ a, t.eval args Z none [] Z = some (.ref a) ∧ Exa Z Z.heap a C := by
  obtain ⟨a, ha⟩ := exa_v h
  exact ⟨a, ha, Exa.start ha h⟩
theorem fldInt {t : Term} {C n d : String} {a : Addr} {k : Int32} (ha : t.eval args Z none [] Z = some (.ref a)) (h : (Jvm.Cond.eq (.field t C n d) (.int k)).value args Z none Z [] = some true) : Fld Z Z.heap a C n d (.int k) := by
  have e : (Term.field t C n d).eval args Z none [] Z = Z.fieldOf? a C n d := fld_at ha
  cases hf : Z.fieldOf? a C n d with
  | none => simp [Cond.value, e, hf] at h
  | some v =>
    have q : v = .int k := by cases v <;> simp [Cond.value, e, hf] at h <;> simp [Term.eval] at h; rw [h]
    exact q ▸ Fld.start hf
theorem subF {first s : State} {o : Option Outcome} {idx : List Nat} {a b : Term} {x y : Int32} (ha : a.eval args first o idx s = some (.int x)) (hb : b.eval args first o idx s = some (.int y)) : (Term.sub a b).eval args first o idx s = some (.int (x - y)) := by simp [Term.eval, ha, hb]
theorem lenOfT {t : Term} {a : Addr} {cl : Cell} {k : Int32} (ht : t.eval args Z none [] Z = some (.ref a)) (ha : Z.arrayAt? a = some cl) (h : (Jvm.Cond.eq (.length t) (.int k)).value args Z none Z [] = some true) : cl.slots.size < 2 ^ 31 ∧ cl.slots.size.toInt32 = k := by
  have e := eqv_i (show (Term.int k).eval args Z none [] Z = some (.int k) from rfl) h
  by_cases hl : cl.slots.size < 2 ^ 31
  · exact ⟨hl, Value.int.inj (Option.some.inj ((len_f ht ha hl).symm.trans e))⟩
  · simp [Term.eval, ht, ha] at e; omega
theorem elemI {t : Term} {a : Addr} {cl : Cell} {j k : Int32} (ht : t.eval args Z none [] Z = some (.ref a)) (ha : Z.arrayAt? a = some cl) (hj : ¬ j < 0) (h : (Jvm.Cond.eq (.elem t (.int j)) (.int k)).value args Z none Z [] = some true) : cl.slots[j.toNatClampNeg]? = some (.int k) :=
  (elem_f (a := .int j) ht (show (Term.int j).eval args Z none [] Z = some (.int j) from rfl) ha hj).symm.trans (eqv_i (show (Term.int k).eval args Z none [] Z = some (.int k) from rfl) h)
theorem nsRoot {a0 : Array Value} {O K : String} {n : Nat} (w : (Jvm.Cond.noSuperclass O).before a0 Z = true) (wi : (Jvm.Cond.instantiable K n).before a0 Z = true) (hn : O ≠ K) : NS Z O K := by
  obtain ⟨c, k, h1, h2, h3, -, -⟩ := Cond.noSuperclass_spec w
  obtain ⟨t, kt, g1, -⟩ := Cond.instantiable_spec wi
  have ne := ids_ne h1 g1 hn
  refine ⟨c, t, h1, g1, fun fuel => ?_⟩
  cases fuel with
  | zero => rfl
  | succ f => simp [Vm.isSubclassAux, ne, h2, h3]
theorem nsNo {a0 : Array Value} {C S K : String} {n : Nat} (w : (Jvm.Cond.superclass C S).before a0 Z = true) (wi : (Jvm.Cond.instantiable K n).before a0 Z = true) (q : NS Z C K) (hn : C ≠ K) : ∃ c t, Z.vm.findClass C = some c ∧ Z.vm.findClass K = some t ∧ Z.vm.assignable c t = false := by
  obtain ⟨c, t, h0, g0, n3⟩ := q
  obtain ⟨p, k, kp, h1, h2, h3, h4, h5, -, h7⟩ := Cond.superclass_spec h0 w
  obtain ⟨t', kt, g1, g2, g3, g4, -⟩ := Cond.instantiable_spec wi
  cases g0.symm.trans g1
  have ne := ids_ne h0 g0 hn
  simp only [Bool.or_eq_false_iff] at g4
  refine ⟨c, t, h0, g0, ?_⟩
  show Z.vm.assignableAux (255 + 1) c t = false
  simp [Vm.assignableAux, ne, h2, g2, h5, g3, g4.1, Vm.isSubclass, n3]
end Start
end Jvm.Wk
namespace Jvm.Pilot.@@N@@
open Jvm Jvm.ClassFile Sem Op Lib Jvm.Free Jvm.Stand Jvm.LawKit Jvm.RoadKit Bundle Jvm.Pilot.@@N@@.Jvm.D
open Jvm.Wk (obj arr ints longs rf Rec Key kslot RecAt Hp WP Ctr gsE gsN gaL gaR distK)
theorem pn_0 : plainFor ({ cls := "java/lang/Math", name := "max", desc := "(II)I" } : Jvm.MethodName) = true := by first | decide +kernel | exact plainFor_of_name (by first | (simp [plainName, overriddenIn]; done) | decide +kernel)
theorem pn_1 : plainFor ({ cls := "java/lang/Math", name := "min", desc := "(II)I" } : Jvm.MethodName) = true := by first | decide +kernel | exact plainFor_of_name (by first | (simp [plainName, overriddenIn]; done) | decide +kernel)
theorem pn_2 : plainFor ({ cls := "java/util/Arrays", name := "copyOf", desc := "([II)[I" } : Jvm.MethodName) = true := by first | decide +kernel | exact plainFor_of_name (by first | (simp [plainName, overriddenIn]; done) | decide +kernel)
theorem pn_3 : plainFor ({ cls := "com/example/dissect/dissect/ReachedRanges", name := "<init>", desc := "()V" } : Jvm.MethodName) = true := by first | decide +kernel | exact plainFor_of_name (by first | (simp [plainName, overriddenIn]; done) | decide +kernel)
theorem pn_4 : plainFor ({ cls := "com/example/dissect/dissect/ReachedRanges", name := "append", desc := "(II)V" } : Jvm.MethodName) = true := by first | decide +kernel | exact plainFor_of_name (by first | (simp [plainName, overriddenIn]; done) | decide +kernel)
theorem pn_5 : plainFor ({ cls := "com/example/dissect/dissect/ReachedRanges", name := "add", desc := "()V" } : Jvm.MethodName) = true := by first | decide +kernel | exact plainFor_of_name (by first | (simp [plainName, overriddenIn]; done) | decide +kernel)
theorem pn_6 : plainFor ({ cls := "com/example/dissect/dissect/ReachedRanges", name := "reach", desc := "(I)V" } : Jvm.MethodName) = true := by first | decide +kernel | exact plainFor_of_name (by first | (simp [plainName, overriddenIn]; done) | decide +kernel)
theorem pn_7 : plainFor ({ cls := "com/example/dissect/dissect/ReachedRanges", name := "mayReach", desc := "(II)Z" } : Jvm.MethodName) = true := by first | decide +kernel | exact plainFor_of_name (by first | (simp [plainName, overriddenIn]; done) | decide +kernel)
theorem pn_8 : plainFor ({ cls := "com/example/dissect/dissect/ReachedRangesMayReachPinLaw", name := "law", desc := "(III)Z" } : Jvm.MethodName) = true := by first | decide +kernel | exact plainFor_of_name (by first | (simp [plainName, overriddenIn]; done) | decide +kernel)
theorem pd_0 : parseMethodDescriptor "(II)I" = some ⟨[.int, .int], some .int⟩ := by decide +kernel
theorem pd_1 : parseMethodDescriptor "([II)[I" = some ⟨[(.array .int), .int], some (.array .int)⟩ := by decide +kernel
theorem pd_2 : parseMethodDescriptor "(II)V" = some ⟨[.int, .int], none⟩ := by decide +kernel
theorem pd_3 : parseMethodDescriptor "(II)Z" = some ⟨[.int, .int], some .boolean⟩ := by decide +kernel
theorem pd_4 : parseMethodDescriptor "()V" = some ⟨[], none⟩ := by decide +kernel
theorem pd_5 : parseMethodDescriptor "(I)V" = some ⟨[.int], none⟩ := by decide +kernel
theorem d0_0 : decode prog_101_method_1_code 0 = .ok (.aload_n 0, 1) := by decide +kernel
theorem d0_1 : decode prog_101_method_1_code 1 = .ok (.invokespecial 1, 3) := by decide +kernel
theorem d0_4 : decode prog_101_method_1_code 4 = .ok (.aload_n 0, 1) := by decide +kernel
theorem d0_5 : decode prog_101_method_1_code 5 = .ok (.getstatic 7, 3) := by decide +kernel
theorem d0_8 : decode prog_101_method_1_code 8 = .ok (.putfield 13, 3) := by decide +kernel
theorem d0_11 : decode prog_101_method_1_code 11 = .ok (.aload_n 0, 1) := by decide +kernel
theorem d0_12 : decode prog_101_method_1_code 12 = .ok (.getstatic 7, 3) := by decide +kernel
theorem d0_15 : decode prog_101_method_1_code 15 = .ok (.putfield 16, 3) := by decide +kernel
theorem d0_18 : decode prog_101_method_1_code 18 = .ok (.aload_n 0, 1) := by decide +kernel
theorem d0_19 : decode prog_101_method_1_code 19 = .ok (.getstatic 7, 3) := by decide +kernel
theorem d0_22 : decode prog_101_method_1_code 22 = .ok (.putfield 19, 3) := by decide +kernel
theorem d0_25 : decode prog_101_method_1_code 25 = .ok (.aload_n 0, 1) := by decide +kernel
theorem d0_26 : decode prog_101_method_1_code 26 = .ok (.bipush 8, 2) := by decide +kernel
theorem d0_28 : decode prog_101_method_1_code 28 = .ok (.newarray .int, 2) := by decide +kernel
theorem d0_30 : decode prog_101_method_1_code 30 = .ok (.putfield 22, 3) := by decide +kernel
theorem d0_33 : decode prog_101_method_1_code 33 = .ok (.aload_n 0, 1) := by decide +kernel
theorem d0_34 : decode prog_101_method_1_code 34 = .ok (.bipush 8, 2) := by decide +kernel
theorem d0_36 : decode prog_101_method_1_code 36 = .ok (.newarray .int, 2) := by decide +kernel
theorem d0_38 : decode prog_101_method_1_code 38 = .ok (.putfield 25, 3) := by decide +kernel
theorem d0_41 : decode prog_101_method_1_code 41 = .ok (.return_, 1) := by decide +kernel
theorem d2_0 : decode prog_101_method_2_code 0 = .ok (.aload_n 0, 1) := by decide +kernel
theorem d2_1 : decode prog_101_method_2_code 1 = .ok (.getfield 28, 3) := by decide +kernel
theorem d2_4 : decode prog_101_method_2_code 4 = .ok (.aload_n 0, 1) := by decide +kernel
theorem d2_5 : decode prog_101_method_2_code 5 = .ok (.getfield 13, 3) := by decide +kernel
theorem d2_8 : decode prog_101_method_2_code 8 = .ok (.arraylength, 1) := by decide +kernel
theorem d2_9 : decode prog_101_method_2_code 9 = .ok (.if_icmp .ne 25, 3) := by decide +kernel
theorem d2_12 : decode prog_101_method_2_code 12 = .ok (.aload_n 0, 1) := by decide +kernel
theorem d2_13 : decode prog_101_method_2_code 13 = .ok (.aload_n 0, 1) := by decide +kernel
theorem d2_14 : decode prog_101_method_2_code 14 = .ok (.getfield 13, 3) := by decide +kernel
theorem d2_17 : decode prog_101_method_2_code 17 = .ok (.bipush 16, 2) := by decide +kernel
theorem d2_19 : decode prog_101_method_2_code 19 = .ok (.iconst 2, 1) := by decide +kernel
theorem d2_20 : decode prog_101_method_2_code 20 = .ok (.aload_n 0, 1) := by decide +kernel
theorem d2_21 : decode prog_101_method_2_code 21 = .ok (.getfield 28, 3) := by decide +kernel
theorem d2_24 : decode prog_101_method_2_code 24 = .ok (.imul, 1) := by decide +kernel
theorem d2_25 : decode prog_101_method_2_code 25 = .ok (.invokestatic 32, 3) := by decide +kernel
theorem d2_28 : decode prog_101_method_2_code 28 = .ok (.invokestatic 38, 3) := by decide +kernel
theorem d2_31 : decode prog_101_method_2_code 31 = .ok (.putfield 13, 3) := by decide +kernel
theorem d2_34 : decode prog_101_method_2_code 34 = .ok (.aload_n 0, 1) := by decide +kernel
theorem d2_35 : decode prog_101_method_2_code 35 = .ok (.getfield 13, 3) := by decide +kernel
theorem d2_38 : decode prog_101_method_2_code 38 = .ok (.aload_n 0, 1) := by decide +kernel
theorem d2_39 : decode prog_101_method_2_code 39 = .ok (.getfield 28, 3) := by decide +kernel
theorem d2_42 : decode prog_101_method_2_code 42 = .ok (.aload_n 0, 1) := by decide +kernel
theorem d2_43 : decode prog_101_method_2_code 43 = .ok (.getfield 44, 3) := by decide +kernel
theorem d2_46 : decode prog_101_method_2_code 46 = .ok (.iastore, 1) := by decide +kernel
theorem d2_47 : decode prog_101_method_2_code 47 = .ok (.aload_n 0, 1) := by decide +kernel
theorem d2_48 : decode prog_101_method_2_code 48 = .ok (.aload_n 0, 1) := by decide +kernel
theorem d2_49 : decode prog_101_method_2_code 49 = .ok (.getfield 28, 3) := by decide +kernel
theorem d2_52 : decode prog_101_method_2_code 52 = .ok (.aload_n 0, 1) := by decide +kernel
theorem d2_53 : decode prog_101_method_2_code 53 = .ok (.getfield 28, 3) := by decide +kernel
theorem d2_56 : decode prog_101_method_2_code 56 = .ok (.invokevirtual 47, 3) := by decide +kernel
theorem d2_59 : decode prog_101_method_2_code 59 = .ok (.aload_n 0, 1) := by decide +kernel
theorem d2_60 : decode prog_101_method_2_code 60 = .ok (.dup, 1) := by decide +kernel
theorem d2_61 : decode prog_101_method_2_code 61 = .ok (.getfield 28, 3) := by decide +kernel
theorem d2_64 : decode prog_101_method_2_code 64 = .ok (.iconst 1, 1) := by decide +kernel
theorem d2_65 : decode prog_101_method_2_code 65 = .ok (.iadd, 1) := by decide +kernel
theorem d2_66 : decode prog_101_method_2_code 66 = .ok (.putfield 28, 3) := by decide +kernel
theorem d2_69 : decode prog_101_method_2_code 69 = .ok (.return_, 1) := by decide +kernel
theorem d3_0 : decode jdk_29_method_65_code 0 = .ok (.iload_n 0, 1) := by decide +kernel
theorem d3_1 : decode jdk_29_method_65_code 1 = .ok (.iload_n 1, 1) := by decide +kernel
theorem d3_2 : decode jdk_29_method_65_code 2 = .ok (.if_icmp .lt 7, 3) := by decide +kernel
theorem d3_5 : decode jdk_29_method_65_code 5 = .ok (.iload_n 0, 1) := by decide +kernel
theorem d3_6 : decode jdk_29_method_65_code 6 = .ok (.goto 4, 3) := by decide +kernel
theorem d3_9 : decode jdk_29_method_65_code 9 = .ok (.iload_n 1, 1) := by decide +kernel
theorem d3_10 : decode jdk_29_method_65_code 10 = .ok (.ireturn, 1) := by decide +kernel
theorem d4_0 : decode jdk_65_method_123_code 0 = .ok (.iload_n 1, 1) := by decide +kernel
theorem d4_1 : decode jdk_65_method_123_code 1 = .ok (.aload_n 0, 1) := by decide +kernel
theorem d4_2 : decode jdk_65_method_123_code 2 = .ok (.arraylength, 1) := by decide +kernel
theorem d4_3 : decode jdk_65_method_123_code 3 = .ok (.if_icmp .ne 11, 3) := by decide +kernel
theorem d4_14 : decode jdk_65_method_123_code 14 = .ok (.iload_n 1, 1) := by decide +kernel
theorem d4_15 : decode jdk_65_method_123_code 15 = .ok (.newarray .int, 2) := by decide +kernel
theorem d4_17 : decode jdk_65_method_123_code 17 = .ok (.astore_n 2, 1) := by decide +kernel
theorem d4_18 : decode jdk_65_method_123_code 18 = .ok (.aload_n 0, 1) := by decide +kernel
theorem d4_19 : decode jdk_65_method_123_code 19 = .ok (.iconst 0, 1) := by decide +kernel
theorem d4_20 : decode jdk_65_method_123_code 20 = .ok (.aload_n 2, 1) := by decide +kernel
theorem d4_21 : decode jdk_65_method_123_code 21 = .ok (.iconst 0, 1) := by decide +kernel
theorem d4_22 : decode jdk_65_method_123_code 22 = .ok (.aload_n 0, 1) := by decide +kernel
theorem d4_23 : decode jdk_65_method_123_code 23 = .ok (.arraylength, 1) := by decide +kernel
theorem d4_24 : decode jdk_65_method_123_code 24 = .ok (.iload_n 1, 1) := by decide +kernel
theorem d4_25 : decode jdk_65_method_123_code 25 = .ok (.invokestatic 304, 3) := by decide +kernel
theorem d4_28 : decode jdk_65_method_123_code 28 = .ok (.invokestatic 150, 3) := by decide +kernel
theorem d4_31 : decode jdk_65_method_123_code 31 = .ok (.aload_n 2, 1) := by decide +kernel
theorem d4_32 : decode jdk_65_method_123_code 32 = .ok (.areturn, 1) := by decide +kernel
theorem d5_0 : decode jdk_29_method_69_code 0 = .ok (.iload_n 0, 1) := by decide +kernel
theorem d5_1 : decode jdk_29_method_69_code 1 = .ok (.iload_n 1, 1) := by decide +kernel
theorem d5_2 : decode jdk_29_method_69_code 2 = .ok (.if_icmp .gt 7, 3) := by decide +kernel
theorem d5_5 : decode jdk_29_method_69_code 5 = .ok (.iload_n 0, 1) := by decide +kernel
theorem d5_6 : decode jdk_29_method_69_code 6 = .ok (.goto 4, 3) := by decide +kernel
theorem d5_9 : decode jdk_29_method_69_code 9 = .ok (.iload_n 1, 1) := by decide +kernel
theorem d5_10 : decode jdk_29_method_69_code 10 = .ok (.ireturn, 1) := by decide +kernel
theorem d6_0 : decode prog_101_method_6_code 0 = .ok (.aload_n 0, 1) := by decide +kernel
theorem d6_1 : decode prog_101_method_6_code 1 = .ok (.getfield 44, 3) := by decide +kernel
theorem d6_4 : decode prog_101_method_6_code 4 = .ok (.aload_n 0, 1) := by decide +kernel
theorem d6_5 : decode prog_101_method_6_code 5 = .ok (.getfield 16, 3) := by decide +kernel
theorem d6_8 : decode prog_101_method_6_code 8 = .ok (.arraylength, 1) := by decide +kernel
theorem d6_9 : decode prog_101_method_6_code 9 = .ok (.if_icmp .ne 39, 3) := by decide +kernel
theorem d6_12 : decode prog_101_method_6_code 12 = .ok (.bipush 16, 2) := by decide +kernel
theorem d6_14 : decode prog_101_method_6_code 14 = .ok (.iconst 2, 1) := by decide +kernel
theorem d6_15 : decode prog_101_method_6_code 15 = .ok (.aload_n 0, 1) := by decide +kernel
theorem d6_16 : decode prog_101_method_6_code 16 = .ok (.getfield 44, 3) := by decide +kernel
theorem d6_19 : decode prog_101_method_6_code 19 = .ok (.imul, 1) := by decide +kernel
theorem d6_20 : decode prog_101_method_6_code 20 = .ok (.invokestatic 32, 3) := by decide +kernel
theorem d6_23 : decode prog_101_method_6_code 23 = .ok (.istore_n 3, 1) := by decide +kernel
theorem d6_24 : decode prog_101_method_6_code 24 = .ok (.aload_n 0, 1) := by decide +kernel
theorem d6_25 : decode prog_101_method_6_code 25 = .ok (.aload_n 0, 1) := by decide +kernel
theorem d6_26 : decode prog_101_method_6_code 26 = .ok (.getfield 16, 3) := by decide +kernel
theorem d6_29 : decode prog_101_method_6_code 29 = .ok (.iload_n 3, 1) := by decide +kernel
theorem d6_30 : decode prog_101_method_6_code 30 = .ok (.invokestatic 38, 3) := by decide +kernel
theorem d6_33 : decode prog_101_method_6_code 33 = .ok (.putfield 16, 3) := by decide +kernel
theorem d6_36 : decode prog_101_method_6_code 36 = .ok (.aload_n 0, 1) := by decide +kernel
theorem d6_37 : decode prog_101_method_6_code 37 = .ok (.aload_n 0, 1) := by decide +kernel
theorem d6_38 : decode prog_101_method_6_code 38 = .ok (.getfield 19, 3) := by decide +kernel
theorem d6_41 : decode prog_101_method_6_code 41 = .ok (.iload_n 3, 1) := by decide +kernel
theorem d6_42 : decode prog_101_method_6_code 42 = .ok (.invokestatic 38, 3) := by decide +kernel
theorem d6_45 : decode prog_101_method_6_code 45 = .ok (.putfield 19, 3) := by decide +kernel
theorem d6_48 : decode prog_101_method_6_code 48 = .ok (.aload_n 0, 1) := by decide +kernel
theorem d6_49 : decode prog_101_method_6_code 49 = .ok (.getfield 16, 3) := by decide +kernel
theorem d6_52 : decode prog_101_method_6_code 52 = .ok (.aload_n 0, 1) := by decide +kernel
theorem d6_53 : decode prog_101_method_6_code 53 = .ok (.getfield 44, 3) := by decide +kernel
theorem d6_56 : decode prog_101_method_6_code 56 = .ok (.iload_n 1, 1) := by decide +kernel
theorem d6_57 : decode prog_101_method_6_code 57 = .ok (.iastore, 1) := by decide +kernel
theorem d6_58 : decode prog_101_method_6_code 58 = .ok (.aload_n 0, 1) := by decide +kernel
theorem d6_59 : decode prog_101_method_6_code 59 = .ok (.getfield 19, 3) := by decide +kernel
theorem d6_62 : decode prog_101_method_6_code 62 = .ok (.aload_n 0, 1) := by decide +kernel
theorem d6_63 : decode prog_101_method_6_code 63 = .ok (.getfield 44, 3) := by decide +kernel
theorem d6_66 : decode prog_101_method_6_code 66 = .ok (.iload_n 2, 1) := by decide +kernel
theorem d6_67 : decode prog_101_method_6_code 67 = .ok (.iastore, 1) := by decide +kernel
theorem d6_68 : decode prog_101_method_6_code 68 = .ok (.aload_n 0, 1) := by decide +kernel
theorem d6_69 : decode prog_101_method_6_code 69 = .ok (.dup, 1) := by decide +kernel
theorem d6_70 : decode prog_101_method_6_code 70 = .ok (.getfield 44, 3) := by decide +kernel
theorem d6_73 : decode prog_101_method_6_code 73 = .ok (.iconst 1, 1) := by decide +kernel
theorem d6_74 : decode prog_101_method_6_code 74 = .ok (.iadd, 1) := by decide +kernel
theorem d6_75 : decode prog_101_method_6_code 75 = .ok (.putfield 44, 3) := by decide +kernel
theorem d6_78 : decode prog_101_method_6_code 78 = .ok (.return_, 1) := by decide +kernel
theorem d7_0 : decode prog_101_method_4_code 0 = .ok (.iload_n 1, 1) := by decide +kernel
theorem d7_1 : decode prog_101_method_4_code 1 = .ok (.aload_n 0, 1) := by decide +kernel
theorem d7_2 : decode prog_101_method_4_code 2 = .ok (.getfield 28, 3) := by decide +kernel
theorem d7_5 : decode prog_101_method_4_code 5 = .ok (.iconst 1, 1) := by decide +kernel
theorem d7_6 : decode prog_101_method_4_code 6 = .ok (.isub, 1) := by decide +kernel
theorem d7_7 : decode prog_101_method_4_code 7 = .ok (.if_icmp .ne 10, 3) := by decide +kernel
theorem d7_10 : decode prog_101_method_4_code 10 = .ok (.aload_n 0, 1) := by decide +kernel
theorem d7_11 : decode prog_101_method_4_code 11 = .ok (.getfield 44, 3) := by decide +kernel
theorem d7_14 : decode prog_101_method_4_code 14 = .ok (.goto 11, 3) := by decide +kernel
theorem d7_17 : decode prog_101_method_4_code 17 = .ok (.aload_n 0, 1) := by decide +kernel
theorem d7_18 : decode prog_101_method_4_code 18 = .ok (.getfield 13, 3) := by decide +kernel
theorem d7_21 : decode prog_101_method_4_code 21 = .ok (.iload_n 1, 1) := by decide +kernel
theorem d7_22 : decode prog_101_method_4_code 22 = .ok (.iconst 1, 1) := by decide +kernel
theorem d7_23 : decode prog_101_method_4_code 23 = .ok (.iadd, 1) := by decide +kernel
theorem d7_24 : decode prog_101_method_4_code 24 = .ok (.iaload, 1) := by decide +kernel
theorem d7_25 : decode prog_101_method_4_code 25 = .ok (.istore_n 3, 1) := by decide +kernel
theorem d7_26 : decode prog_101_method_4_code 26 = .ok (.iconst 0, 1) := by decide +kernel
theorem d7_27 : decode prog_101_method_4_code 27 = .ok (.istore 4, 2) := by decide +kernel
theorem d7_29 : decode prog_101_method_4_code 29 = .ok (.aload_n 0, 1) := by decide +kernel
theorem d7_30 : decode prog_101_method_4_code 30 = .ok (.getfield 13, 3) := by decide +kernel
theorem d7_33 : decode prog_101_method_4_code 33 = .ok (.iload_n 1, 1) := by decide +kernel
theorem d7_34 : decode prog_101_method_4_code 34 = .ok (.iaload, 1) := by decide +kernel
theorem d7_35 : decode prog_101_method_4_code 35 = .ok (.istore 5, 2) := by decide +kernel
theorem d7_37 : decode prog_101_method_4_code 37 = .ok (.iload 5, 2) := by decide +kernel
theorem d7_39 : decode prog_101_method_4_code 39 = .ok (.iload_n 3, 1) := by decide +kernel
theorem d7_40 : decode prog_101_method_4_code 40 = .ok (.if_icmp .ge 43, 3) := by decide +kernel
theorem d7_43 : decode prog_101_method_4_code 43 = .ok (.iload 4, 2) := by decide +kernel
theorem d7_45 : decode prog_101_method_4_code 45 = .ok (.ifCond .ne 38, 3) := by decide +kernel
theorem d7_48 : decode prog_101_method_4_code 48 = .ok (.aload_n 0, 1) := by decide +kernel
theorem d7_49 : decode prog_101_method_4_code 49 = .ok (.getfield 16, 3) := by decide +kernel
theorem d7_52 : decode prog_101_method_4_code 52 = .ok (.iload 5, 2) := by decide +kernel
theorem d7_54 : decode prog_101_method_4_code 54 = .ok (.iaload, 1) := by decide +kernel
theorem d7_55 : decode prog_101_method_4_code 55 = .ok (.iload_n 2, 1) := by decide +kernel
theorem d7_56 : decode prog_101_method_4_code 56 = .ok (.if_icmp .gt 18, 3) := by decide +kernel
theorem d7_59 : decode prog_101_method_4_code 59 = .ok (.iload_n 2, 1) := by decide +kernel
theorem d7_60 : decode prog_101_method_4_code 60 = .ok (.aload_n 0, 1) := by decide +kernel
theorem d7_61 : decode prog_101_method_4_code 61 = .ok (.getfield 19, 3) := by decide +kernel
theorem d7_64 : decode prog_101_method_4_code 64 = .ok (.iload 5, 2) := by decide +kernel
theorem d7_66 : decode prog_101_method_4_code 66 = .ok (.iaload, 1) := by decide +kernel
theorem d7_67 : decode prog_101_method_4_code 67 = .ok (.if_icmp .gt 7, 3) := by decide +kernel
theorem d7_70 : decode prog_101_method_4_code 70 = .ok (.iconst 1, 1) := by decide +kernel
theorem d7_71 : decode prog_101_method_4_code 71 = .ok (.goto 4, 3) := by decide +kernel
theorem d7_74 : decode prog_101_method_4_code 74 = .ok (.iconst 0, 1) := by decide +kernel
theorem d7_75 : decode prog_101_method_4_code 75 = .ok (.istore 4, 2) := by decide +kernel
theorem d7_77 : decode prog_101_method_4_code 77 = .ok (.iinc 5 1, 3) := by decide +kernel
theorem d7_80 : decode prog_101_method_4_code 80 = .ok (.goto (-43), 3) := by decide +kernel
theorem d7_83 : decode prog_101_method_4_code 83 = .ok (.iload 4, 2) := by decide +kernel
theorem d7_85 : decode prog_101_method_4_code 85 = .ok (.ireturn, 1) := by decide +kernel
theorem d8_0 : decode prog_101_method_3_code 0 = .ok (.aload_n 0, 1) := by decide +kernel
theorem d8_1 : decode prog_101_method_3_code 1 = .ok (.getfield 28, 3) := by decide +kernel
theorem d8_4 : decode prog_101_method_3_code 4 = .ok (.iconst 1, 1) := by decide +kernel
theorem d8_5 : decode prog_101_method_3_code 5 = .ok (.isub, 1) := by decide +kernel
theorem d8_6 : decode prog_101_method_3_code 6 = .ok (.istore_n 2, 1) := by decide +kernel
theorem d8_7 : decode prog_101_method_3_code 7 = .ok (.aload_n 0, 1) := by decide +kernel
theorem d8_8 : decode prog_101_method_3_code 8 = .ok (.getfield 13, 3) := by decide +kernel
theorem d8_11 : decode prog_101_method_3_code 11 = .ok (.iload_n 2, 1) := by decide +kernel
theorem d8_12 : decode prog_101_method_3_code 12 = .ok (.iaload, 1) := by decide +kernel
theorem d8_13 : decode prog_101_method_3_code 13 = .ok (.istore_n 3, 1) := by decide +kernel
theorem d8_14 : decode prog_101_method_3_code 14 = .ok (.aload_n 0, 1) := by decide +kernel
theorem d8_15 : decode prog_101_method_3_code 15 = .ok (.getfield 13, 3) := by decide +kernel
theorem d8_18 : decode prog_101_method_3_code 18 = .ok (.iload_n 1, 1) := by decide +kernel
theorem d8_19 : decode prog_101_method_3_code 19 = .ok (.iconst 1, 1) := by decide +kernel
theorem d8_20 : decode prog_101_method_3_code 20 = .ok (.iadd, 1) := by decide +kernel
theorem d8_21 : decode prog_101_method_3_code 21 = .ok (.iaload, 1) := by decide +kernel
theorem d8_22 : decode prog_101_method_3_code 22 = .ok (.istore 4, 2) := by decide +kernel
theorem d8_24 : decode prog_101_method_3_code 24 = .ok (.iconst 0, 1) := by decide +kernel
theorem d8_25 : decode prog_101_method_3_code 25 = .ok (.istore 5, 2) := by decide +kernel
theorem d8_27 : decode prog_101_method_3_code 27 = .ok (.iload_n 3, 1) := by decide +kernel
theorem d8_28 : decode prog_101_method_3_code 28 = .ok (.istore 6, 2) := by decide +kernel
theorem d8_30 : decode prog_101_method_3_code 30 = .ok (.aload_n 0, 1) := by decide +kernel
theorem d8_31 : decode prog_101_method_3_code 31 = .ok (.getfield 13, 3) := by decide +kernel
theorem d8_34 : decode prog_101_method_3_code 34 = .ok (.iload_n 1, 1) := by decide +kernel
theorem d8_35 : decode prog_101_method_3_code 35 = .ok (.iaload, 1) := by decide +kernel
theorem d8_36 : decode prog_101_method_3_code 36 = .ok (.istore 7, 2) := by decide +kernel
theorem d8_38 : decode prog_101_method_3_code 38 = .ok (.iload 6, 2) := by decide +kernel
theorem d8_40 : decode prog_101_method_3_code 40 = .ok (.aload_n 0, 1) := by decide +kernel
theorem d8_41 : decode prog_101_method_3_code 41 = .ok (.getfield 44, 3) := by decide +kernel
theorem d8_44 : decode prog_101_method_3_code 44 = .ok (.if_icmp .lt 10, 3) := by decide +kernel
theorem d8_47 : decode prog_101_method_3_code 47 = .ok (.iload 7, 2) := by decide +kernel
theorem d8_49 : decode prog_101_method_3_code 49 = .ok (.iload 4, 2) := by decide +kernel
theorem d8_51 : decode prog_101_method_3_code 51 = .ok (.if_icmp .ge 154, 3) := by decide +kernel
theorem d8_54 : decode prog_101_method_3_code 54 = .ok (.iload 7, 2) := by decide +kernel
theorem d8_56 : decode prog_101_method_3_code 56 = .ok (.iload 4, 2) := by decide +kernel
theorem d8_58 : decode prog_101_method_3_code 58 = .ok (.if_icmp .eq 29, 3) := by decide +kernel
theorem d8_61 : decode prog_101_method_3_code 61 = .ok (.iload 6, 2) := by decide +kernel
theorem d8_63 : decode prog_101_method_3_code 63 = .ok (.aload_n 0, 1) := by decide +kernel
theorem d8_64 : decode prog_101_method_3_code 64 = .ok (.getfield 44, 3) := by decide +kernel
theorem d8_67 : decode prog_101_method_3_code 67 = .ok (.if_icmp .ge 24, 3) := by decide +kernel
theorem d8_70 : decode prog_101_method_3_code 70 = .ok (.aload_n 0, 1) := by decide +kernel
theorem d8_71 : decode prog_101_method_3_code 71 = .ok (.getfield 16, 3) := by decide +kernel
theorem d8_74 : decode prog_101_method_3_code 74 = .ok (.iload 6, 2) := by decide +kernel
theorem d8_76 : decode prog_101_method_3_code 76 = .ok (.iaload, 1) := by decide +kernel
theorem d8_77 : decode prog_101_method_3_code 77 = .ok (.aload_n 0, 1) := by decide +kernel
theorem d8_78 : decode prog_101_method_3_code 78 = .ok (.getfield 16, 3) := by decide +kernel
theorem d8_81 : decode prog_101_method_3_code 81 = .ok (.iload 7, 2) := by decide +kernel
theorem d8_83 : decode prog_101_method_3_code 83 = .ok (.iaload, 1) := by decide +kernel
theorem d8_84 : decode prog_101_method_3_code 84 = .ok (.if_icmp .gt 7, 3) := by decide +kernel
theorem d8_87 : decode prog_101_method_3_code 87 = .ok (.iconst 1, 1) := by decide +kernel
theorem d8_88 : decode prog_101_method_3_code 88 = .ok (.goto 4, 3) := by decide +kernel
theorem d8_91 : decode prog_101_method_3_code 91 = .ok (.iconst 0, 1) := by decide +kernel
theorem d8_92 : decode prog_101_method_3_code 92 = .ok (.istore 8, 2) := by decide +kernel
theorem d8_94 : decode prog_101_method_3_code 94 = .ok (.iload 8, 2) := by decide +kernel
theorem d8_96 : decode prog_101_method_3_code 96 = .ok (.ifCond .eq 11, 3) := by decide +kernel
theorem d8_99 : decode prog_101_method_3_code 99 = .ok (.iload 6, 2) := by decide +kernel
theorem d8_101 : decode prog_101_method_3_code 101 = .ok (.iinc 6 1, 3) := by decide +kernel
theorem d8_104 : decode prog_101_method_3_code 104 = .ok (.goto 8, 3) := by decide +kernel
theorem d8_107 : decode prog_101_method_3_code 107 = .ok (.iload 7, 2) := by decide +kernel
theorem d8_109 : decode prog_101_method_3_code 109 = .ok (.iinc 7 1, 3) := by decide +kernel
theorem d8_112 : decode prog_101_method_3_code 112 = .ok (.istore 9, 2) := by decide +kernel
theorem d8_114 : decode prog_101_method_3_code 114 = .ok (.iload 5, 2) := by decide +kernel
theorem d8_116 : decode prog_101_method_3_code 116 = .ok (.ifCond .le 55, 3) := by decide +kernel
theorem d8_119 : decode prog_101_method_3_code 119 = .ok (.aload_n 0, 1) := by decide +kernel
theorem d8_120 : decode prog_101_method_3_code 120 = .ok (.getfield 16, 3) := by decide +kernel
theorem d8_123 : decode prog_101_method_3_code 123 = .ok (.iload 9, 2) := by decide +kernel
theorem d8_125 : decode prog_101_method_3_code 125 = .ok (.iaload, 1) := by decide +kernel
theorem d8_126 : decode prog_101_method_3_code 126 = .ok (.aload_n 0, 1) := by decide +kernel
theorem d8_127 : decode prog_101_method_3_code 127 = .ok (.getfield 25, 3) := by decide +kernel
theorem d8_130 : decode prog_101_method_3_code 130 = .ok (.iload 5, 2) := by decide +kernel
theorem d8_132 : decode prog_101_method_3_code 132 = .ok (.iconst 1, 1) := by decide +kernel
theorem d8_133 : decode prog_101_method_3_code 133 = .ok (.isub, 1) := by decide +kernel
theorem d8_134 : decode prog_101_method_3_code 134 = .ok (.iaload, 1) := by decide +kernel
theorem d8_135 : decode prog_101_method_3_code 135 = .ok (.iconst 1, 1) := by decide +kernel
theorem d8_136 : decode prog_101_method_3_code 136 = .ok (.iadd, 1) := by decide +kernel
theorem d8_137 : decode prog_101_method_3_code 137 = .ok (.if_icmp .gt 34, 3) := by decide +kernel
theorem d8_140 : decode prog_101_method_3_code 140 = .ok (.aload_n 0, 1) := by decide +kernel
theorem d8_141 : decode prog_101_method_3_code 141 = .ok (.getfield 25, 3) := by decide +kernel
theorem d8_144 : decode prog_101_method_3_code 144 = .ok (.iload 5, 2) := by decide +kernel
theorem d8_146 : decode prog_101_method_3_code 146 = .ok (.iconst 1, 1) := by decide +kernel
theorem d8_147 : decode prog_101_method_3_code 147 = .ok (.isub, 1) := by decide +kernel
theorem d8_148 : decode prog_101_method_3_code 148 = .ok (.aload_n 0, 1) := by decide +kernel
theorem d8_149 : decode prog_101_method_3_code 149 = .ok (.getfield 25, 3) := by decide +kernel
theorem d8_152 : decode prog_101_method_3_code 152 = .ok (.iload 5, 2) := by decide +kernel
theorem d8_154 : decode prog_101_method_3_code 154 = .ok (.iconst 1, 1) := by decide +kernel
theorem d8_155 : decode prog_101_method_3_code 155 = .ok (.isub, 1) := by decide +kernel
theorem d8_156 : decode prog_101_method_3_code 156 = .ok (.iaload, 1) := by decide +kernel
theorem d8_157 : decode prog_101_method_3_code 157 = .ok (.aload_n 0, 1) := by decide +kernel
theorem d8_158 : decode prog_101_method_3_code 158 = .ok (.getfield 19, 3) := by decide +kernel
theorem d8_161 : decode prog_101_method_3_code 161 = .ok (.iload 9, 2) := by decide +kernel
theorem d8_163 : decode prog_101_method_3_code 163 = .ok (.iaload, 1) := by decide +kernel
theorem d8_164 : decode prog_101_method_3_code 164 = .ok (.invokestatic 32, 3) := by decide +kernel
theorem d8_167 : decode prog_101_method_3_code 167 = .ok (.iastore, 1) := by decide +kernel
theorem d8_168 : decode prog_101_method_3_code 168 = .ok (.goto 34, 3) := by decide +kernel
theorem d8_171 : decode prog_101_method_3_code 171 = .ok (.aload_n 0, 1) := by decide +kernel
theorem d8_172 : decode prog_101_method_3_code 172 = .ok (.getfield 22, 3) := by decide +kernel
theorem d8_175 : decode prog_101_method_3_code 175 = .ok (.iload 5, 2) := by decide +kernel
theorem d8_177 : decode prog_101_method_3_code 177 = .ok (.aload_n 0, 1) := by decide +kernel
theorem d8_178 : decode prog_101_method_3_code 178 = .ok (.getfield 16, 3) := by decide +kernel
theorem d8_181 : decode prog_101_method_3_code 181 = .ok (.iload 9, 2) := by decide +kernel
theorem d8_183 : decode prog_101_method_3_code 183 = .ok (.iaload, 1) := by decide +kernel
theorem d8_184 : decode prog_101_method_3_code 184 = .ok (.iastore, 1) := by decide +kernel
theorem d8_185 : decode prog_101_method_3_code 185 = .ok (.aload_n 0, 1) := by decide +kernel
theorem d8_186 : decode prog_101_method_3_code 186 = .ok (.getfield 25, 3) := by decide +kernel
theorem d8_189 : decode prog_101_method_3_code 189 = .ok (.iload 5, 2) := by decide +kernel
theorem d8_191 : decode prog_101_method_3_code 191 = .ok (.aload_n 0, 1) := by decide +kernel
theorem d8_192 : decode prog_101_method_3_code 192 = .ok (.getfield 19, 3) := by decide +kernel
theorem d8_195 : decode prog_101_method_3_code 195 = .ok (.iload 9, 2) := by decide +kernel
theorem d8_197 : decode prog_101_method_3_code 197 = .ok (.iaload, 1) := by decide +kernel
theorem d8_198 : decode prog_101_method_3_code 198 = .ok (.iastore, 1) := by decide +kernel
theorem d8_199 : decode prog_101_method_3_code 199 = .ok (.iinc 5 1, 3) := by decide +kernel
theorem d8_202 : decode prog_101_method_3_code 202 = .ok (.goto (-164), 3) := by decide +kernel
theorem d8_205 : decode prog_101_method_3_code 205 = .ok (.iload 5, 2) := by decide +kernel
theorem d8_207 : decode prog_101_method_3_code 207 = .ok (.iconst 4, 1) := by decide +kernel
theorem d8_208 : decode prog_101_method_3_code 208 = .ok (.if_icmp .le 14, 3) := by decide +kernel
theorem d8_222 : decode prog_101_method_3_code 222 = .ok (.aload_n 0, 1) := by decide +kernel
theorem d8_223 : decode prog_101_method_3_code 223 = .ok (.iload_n 3, 1) := by decide +kernel
theorem d8_224 : decode prog_101_method_3_code 224 = .ok (.putfield 44, 3) := by decide +kernel
theorem d8_227 : decode prog_101_method_3_code 227 = .ok (.iconst 0, 1) := by decide +kernel
theorem d8_228 : decode prog_101_method_3_code 228 = .ok (.istore 8, 2) := by decide +kernel
theorem d8_230 : decode prog_101_method_3_code 230 = .ok (.iload 8, 2) := by decide +kernel
theorem d8_232 : decode prog_101_method_3_code 232 = .ok (.iload 5, 2) := by decide +kernel
theorem d8_234 : decode prog_101_method_3_code 234 = .ok (.if_icmp .ge 27, 3) := by decide +kernel
theorem d8_237 : decode prog_101_method_3_code 237 = .ok (.aload_n 0, 1) := by decide +kernel
theorem d8_238 : decode prog_101_method_3_code 238 = .ok (.aload_n 0, 1) := by decide +kernel
theorem d8_239 : decode prog_101_method_3_code 239 = .ok (.getfield 22, 3) := by decide +kernel
theorem d8_242 : decode prog_101_method_3_code 242 = .ok (.iload 8, 2) := by decide +kernel
theorem d8_244 : decode prog_101_method_3_code 244 = .ok (.iaload, 1) := by decide +kernel
theorem d8_245 : decode prog_101_method_3_code 245 = .ok (.aload_n 0, 1) := by decide +kernel
theorem d8_246 : decode prog_101_method_3_code 246 = .ok (.getfield 25, 3) := by decide +kernel
theorem d8_249 : decode prog_101_method_3_code 249 = .ok (.iload 8, 2) := by decide +kernel
theorem d8_251 : decode prog_101_method_3_code 251 = .ok (.iaload, 1) := by decide +kernel
theorem d8_252 : decode prog_101_method_3_code 252 = .ok (.invokevirtual 47, 3) := by decide +kernel
theorem d8_255 : decode prog_101_method_3_code 255 = .ok (.iinc 8 1, 3) := by decide +kernel
theorem d8_258 : decode prog_101_method_3_code 258 = .ok (.goto (-28), 3) := by decide +kernel
theorem d8_261 : decode prog_101_method_3_code 261 = .ok (.return_, 1) := by decide +kernel
theorem wd0 {a0 : Array Value} {Z : State} (hw : ∀ d ∈ tables_1, d.before a0 Z = true) : ((Jvm.Cond.constant "com/example/dissect/dissect/ReachedRangesMayReachPinLaw" (7 : Nat) (2147483647 : Int32)) : Jvm.Cond).before a0 Z = true := hw _ (List.mem_of_getElem? (i := 0) rfl)
theorem wd1 {a0 : Array Value} {Z : State} (hw : ∀ d ∈ tables_1, d.before a0 Z = true) : ((Jvm.Cond.classLink "com/example/dissect/dissect/ReachedRangesMayReachPinLaw" (8 : Nat) "com/example/dissect/dissect/ReachedRanges") : Jvm.Cond).before a0 Z = true := hw _ (List.mem_of_getElem? (i := 1) rfl)
theorem wd2 {a0 : Array Value} {Z : State} (hw : ∀ d ∈ tables_1, d.before a0 Z = true) : ((Jvm.Cond.instantiable "com/example/dissect/dissect/ReachedRanges" (7 : Nat)) : Jvm.Cond).before a0 Z = true := hw _ (List.mem_of_getElem? (i := 2) rfl)
theorem wd3 {a0 : Array Value} {Z : State} (hw : ∀ d ∈ tables_1, d.before a0 Z = true) : ((Jvm.Cond.initialized "com/example/dissect/dissect/ReachedRanges") : Jvm.Cond).before a0 Z = true := hw _ (List.mem_of_getElem? (i := 3) rfl)
theorem wd4 {a0 : Array Value} {Z : State} (hw : ∀ d ∈ tables_1, d.before a0 Z = true) : ((Jvm.Cond.methodLink "com/example/dissect/dissect/ReachedRangesMayReachPinLaw" (10 : Nat) ({ cls := "com/example/dissect/dissect/ReachedRanges", name := "<init>", desc := "()V" } : Jvm.MethodName)) : Jvm.Cond).before a0 Z = true := hw _ (List.mem_of_getElem? (i := 4) rfl)
theorem wd5 {a0 : Array Value} {Z : State} (hw : ∀ d ∈ tables_1, d.before a0 Z = true) : ((Jvm.Cond.instanceMethod ({ cls := "com/example/dissect/dissect/ReachedRanges", name := "<init>", desc := "()V" } : Jvm.MethodName)) : Jvm.Cond).before a0 Z = true := hw _ (List.mem_of_getElem? (i := 5) rfl)
theorem wd6 {a0 : Array Value} {Z : State} (hw : ∀ d ∈ tables_1, d.before a0 Z = true) : ((Jvm.Cond.code ({ cls := "com/example/dissect/dissect/ReachedRanges", name := "<init>", desc := "()V" } : Jvm.MethodName) prog_101_method_1_code (1 : Nat) (Option.none : Option Jvm.ClassFile.FieldType)) : Jvm.Cond).before a0 Z = true := hw _ (List.mem_of_getElem? (i := 6) rfl)
theorem wd7 {a0 : Array Value} {Z : State} (hw : ∀ d ∈ tables_1, d.before a0 Z = true) : ((Jvm.Cond.methodLink "com/example/dissect/dissect/ReachedRanges" (1 : Nat) ({ cls := "java/lang/Object", name := "<init>", desc := "()V" } : Jvm.MethodName)) : Jvm.Cond).before a0 Z = true := hw _ (List.mem_of_getElem? (i := 7) rfl)
theorem wd8 {a0 : Array Value} {Z : State} (hw : ∀ d ∈ tables_1, d.before a0 Z = true) : ((Jvm.Cond.instanceMethod ({ cls := "java/lang/Object", name := "<init>", desc := "()V" } : Jvm.MethodName)) : Jvm.Cond).before a0 Z = true := hw _ (List.mem_of_getElem? (i := 8) rfl)
theorem wd9 {a0 : Array Value} {Z : State} (hw : ∀ d ∈ tables_1, d.before a0 Z = true) : ((Jvm.Cond.code ({ cls := "java/lang/Object", name := "<init>", desc := "()V" } : Jvm.MethodName) object_method_1_code (1 : Nat) (Option.none : Option Jvm.ClassFile.FieldType)) : Jvm.Cond).before a0 Z = true := hw _ (List.mem_of_getElem? (i := 9) rfl)
theorem wd10 {a0 : Array Value} {Z : State} (hw : ∀ d ∈ tables_1, d.before a0 Z = true) : ((Jvm.Cond.fieldLink "com/example/dissect/dissect/ReachedRanges" (7 : Nat) "com/example/dissect/dissect/ReachedRanges" "NO_INTS" "[I") : Jvm.Cond).before a0 Z = true := hw _ (List.mem_of_getElem? (i := 10) rfl)
theorem wd11 {a0 : Array Value} {Z : State} (hw : ∀ d ∈ tables_1, d.before a0 Z = true) : ((Jvm.Cond.laysStatic "com/example/dissect/dissect/ReachedRanges" "NO_INTS" "[I") : Jvm.Cond).before a0 Z = true := hw _ (List.mem_of_getElem? (i := 11) rfl)
theorem wd12 {a0 : Array Value} {Z : State} (hw : ∀ d ∈ tables_1, d.before a0 Z = true) : ((Jvm.Cond.fieldLink "com/example/dissect/dissect/ReachedRanges" (13 : Nat) "com/example/dissect/dissect/ReachedRanges" "firstRanges" "[I") : Jvm.Cond).before a0 Z = true := hw _ (List.mem_of_getElem? (i := 12) rfl)
theorem wd13 {a0 : Array Value} {Z : State} (hw : ∀ d ∈ tables_1, d.before a0 Z = true) : ((Jvm.Cond.lays "com/example/dissect/dissect/ReachedRanges" "com/example/dissect/dissect/ReachedRanges" "firstRanges" "[I") : Jvm.Cond).before a0 Z = true := hw _ (List.mem_of_getElem? (i := 13) rfl)
theorem wd14 {a0 : Array Value} {Z : State} (hw : ∀ d ∈ tables_1, d.before a0 Z = true) : ((Jvm.Cond.fieldLink "com/example/dissect/dissect/ReachedRanges" (16 : Nat) "com/example/dissect/dissect/ReachedRanges" "lows" "[I") : Jvm.Cond).before a0 Z = true := hw _ (List.mem_of_getElem? (i := 14) rfl)
theorem wd15 {a0 : Array Value} {Z : State} (hw : ∀ d ∈ tables_1, d.before a0 Z = true) : ((Jvm.Cond.lays "com/example/dissect/dissect/ReachedRanges" "com/example/dissect/dissect/ReachedRanges" "lows" "[I") : Jvm.Cond).before a0 Z = true := hw _ (List.mem_of_getElem? (i := 15) rfl)
theorem wd16 {a0 : Array Value} {Z : State} (hw : ∀ d ∈ tables_1, d.before a0 Z = true) : ((Jvm.Cond.fieldLink "com/example/dissect/dissect/ReachedRanges" (19 : Nat) "com/example/dissect/dissect/ReachedRanges" "highs" "[I") : Jvm.Cond).before a0 Z = true := hw _ (List.mem_of_getElem? (i := 16) rfl)
theorem wd17 {a0 : Array Value} {Z : State} (hw : ∀ d ∈ tables_1, d.before a0 Z = true) : ((Jvm.Cond.lays "com/example/dissect/dissect/ReachedRanges" "com/example/dissect/dissect/ReachedRanges" "highs" "[I") : Jvm.Cond).before a0 Z = true := hw _ (List.mem_of_getElem? (i := 17) rfl)
theorem wd18 {a0 : Array Value} {Z : State} (hw : ∀ d ∈ tables_1, d.before a0 Z = true) : ((Jvm.Cond.arrayClass Jvm.ClassFile.FieldType.int) : Jvm.Cond).before a0 Z = true := hw _ (List.mem_of_getElem? (i := 18) rfl)
theorem wd19 {a0 : Array Value} {Z : State} (hw : ∀ d ∈ tables_1, d.before a0 Z = true) : ((Jvm.Cond.fieldLink "com/example/dissect/dissect/ReachedRanges" (22 : Nat) "com/example/dissect/dissect/ReachedRanges" "mergedLows" "[I") : Jvm.Cond).before a0 Z = true := hw _ (List.mem_of_getElem? (i := 19) rfl)
theorem wd20 {a0 : Array Value} {Z : State} (hw : ∀ d ∈ tables_1, d.before a0 Z = true) : ((Jvm.Cond.laysFinal "com/example/dissect/dissect/ReachedRanges" "com/example/dissect/dissect/ReachedRanges" "mergedLows" "[I") : Jvm.Cond).before a0 Z = true := hw _ (List.mem_of_getElem? (i := 20) rfl)
theorem wd21 {a0 : Array Value} {Z : State} (hw : ∀ d ∈ tables_1, d.before a0 Z = true) : ((Jvm.Cond.fieldLink "com/example/dissect/dissect/ReachedRanges" (25 : Nat) "com/example/dissect/dissect/ReachedRanges" "mergedHighs" "[I") : Jvm.Cond).before a0 Z = true := hw _ (List.mem_of_getElem? (i := 21) rfl)
theorem wd22 {a0 : Array Value} {Z : State} (hw : ∀ d ∈ tables_1, d.before a0 Z = true) : ((Jvm.Cond.laysFinal "com/example/dissect/dissect/ReachedRanges" "com/example/dissect/dissect/ReachedRanges" "mergedHighs" "[I") : Jvm.Cond).before a0 Z = true := hw _ (List.mem_of_getElem? (i := 22) rfl)
theorem wd23 {a0 : Array Value} {Z : State} (hw : ∀ d ∈ tables_1, d.before a0 Z = true) : ((Jvm.Cond.methodLink "com/example/dissect/dissect/ReachedRangesMayReachPinLaw" (11 : Nat) ({ cls := "com/example/dissect/dissect/ReachedRanges", name := "add", desc := "()V" } : Jvm.MethodName)) : Jvm.Cond).before a0 Z = true := hw _ (List.mem_of_getElem? (i := 23) rfl)
theorem wd24 {a0 : Array Value} {Z : State} (hw : ∀ d ∈ tables_1, d.before a0 Z = true) : ((Jvm.Cond.declares ({ cls := "com/example/dissect/dissect/ReachedRanges", name := "add", desc := "()V" } : Jvm.MethodName)) : Jvm.Cond).before a0 Z = true := hw _ (List.mem_of_getElem? (i := 24) rfl)
theorem wd25 {a0 : Array Value} {Z : State} (hw : ∀ d ∈ tables_1, d.before a0 Z = true) : ((Jvm.Cond.instanceMethod ({ cls := "com/example/dissect/dissect/ReachedRanges", name := "add", desc := "()V" } : Jvm.MethodName)) : Jvm.Cond).before a0 Z = true := hw _ (List.mem_of_getElem? (i := 25) rfl)
theorem wd26 {a0 : Array Value} {Z : State} (hw : ∀ d ∈ tables_1, d.before a0 Z = true) : ((Jvm.Cond.selects "com/example/dissect/dissect/ReachedRanges" ({ cls := "com/example/dissect/dissect/ReachedRanges", name := "add", desc := "()V" } : Jvm.MethodName) ({ cls := "com/example/dissect/dissect/ReachedRanges", name := "add", desc := "()V" } : Jvm.MethodName)) : Jvm.Cond).before a0 Z = true := hw _ (List.mem_of_getElem? (i := 26) rfl)
theorem wd27 {a0 : Array Value} {Z : State} (hw : ∀ d ∈ tables_1, d.before a0 Z = true) : ((Jvm.Cond.code ({ cls := "com/example/dissect/dissect/ReachedRanges", name := "add", desc := "()V" } : Jvm.MethodName) prog_101_method_2_code (1 : Nat) (Option.none : Option Jvm.ClassFile.FieldType)) : Jvm.Cond).before a0 Z = true := hw _ (List.mem_of_getElem? (i := 27) rfl)
theorem wd28 {a0 : Array Value} {Z : State} (hw : ∀ d ∈ tables_1, d.before a0 Z = true) : ((Jvm.Cond.fieldLink "com/example/dissect/dissect/ReachedRanges" (28 : Nat) "com/example/dissect/dissect/ReachedRanges" "members" "I") : Jvm.Cond).before a0 Z = true := hw _ (List.mem_of_getElem? (i := 28) rfl)
theorem wd29 {a0 : Array Value} {Z : State} (hw : ∀ d ∈ tables_1, d.before a0 Z = true) : ((Jvm.Cond.lays "com/example/dissect/dissect/ReachedRanges" "com/example/dissect/dissect/ReachedRanges" "members" "I") : Jvm.Cond).before a0 Z = true := hw _ (List.mem_of_getElem? (i := 29) rfl)
theorem wd30 {a0 : Array Value} {Z : State} (hw : ∀ d ∈ tables_1, d.before a0 Z = true) : ((Jvm.Cond.methodLink "com/example/dissect/dissect/ReachedRanges" (32 : Nat) ({ cls := "java/lang/Math", name := "max", desc := "(II)I" } : Jvm.MethodName)) : Jvm.Cond).before a0 Z = true := hw _ (List.mem_of_getElem? (i := 30) rfl)
theorem wd31 {a0 : Array Value} {Z : State} (hw : ∀ d ∈ tables_1, d.before a0 Z = true) : ((Jvm.Cond.static ({ cls := "java/lang/Math", name := "max", desc := "(II)I" } : Jvm.MethodName)) : Jvm.Cond).before a0 Z = true := hw _ (List.mem_of_getElem? (i := 31) rfl)
theorem wd32 {a0 : Array Value} {Z : State} (hw : ∀ d ∈ tables_1, d.before a0 Z = true) : ((Jvm.Cond.initialized "java/lang/Math") : Jvm.Cond).before a0 Z = true := hw _ (List.mem_of_getElem? (i := 32) rfl)
theorem wd33 {a0 : Array Value} {Z : State} (hw : ∀ d ∈ tables_1, d.before a0 Z = true) : ((Jvm.Cond.code ({ cls := "java/lang/Math", name := "max", desc := "(II)I" } : Jvm.MethodName) jdk_29_method_65_code (2 : Nat) (Option.some Jvm.ClassFile.FieldType.int)) : Jvm.Cond).before a0 Z = true := hw _ (List.mem_of_getElem? (i := 33) rfl)
theorem wd34 {a0 : Array Value} {Z : State} (hw : ∀ d ∈ tables_1, d.before a0 Z = true) : ((Jvm.Cond.methodLink "com/example/dissect/dissect/ReachedRanges" (38 : Nat) ({ cls := "java/util/Arrays", name := "copyOf", desc := "([II)[I" } : Jvm.MethodName)) : Jvm.Cond).before a0 Z = true := hw _ (List.mem_of_getElem? (i := 34) rfl)
theorem wd35 {a0 : Array Value} {Z : State} (hw : ∀ d ∈ tables_1, d.before a0 Z = true) : ((Jvm.Cond.static ({ cls := "java/util/Arrays", name := "copyOf", desc := "([II)[I" } : Jvm.MethodName)) : Jvm.Cond).before a0 Z = true := hw _ (List.mem_of_getElem? (i := 35) rfl)
theorem wd36 {a0 : Array Value} {Z : State} (hw : ∀ d ∈ tables_1, d.before a0 Z = true) : ((Jvm.Cond.initialized "java/util/Arrays") : Jvm.Cond).before a0 Z = true := hw _ (List.mem_of_getElem? (i := 36) rfl)
theorem wd37 {a0 : Array Value} {Z : State} (hw : ∀ d ∈ tables_1, d.before a0 Z = true) : ((Jvm.Cond.code ({ cls := "java/util/Arrays", name := "copyOf", desc := "([II)[I" } : Jvm.MethodName) jdk_65_method_123_code (3 : Nat) (Option.some (Jvm.ClassFile.FieldType.array Jvm.ClassFile.FieldType.int))) : Jvm.Cond).before a0 Z = true := hw _ (List.mem_of_getElem? (i := 37) rfl)
theorem wd38 {a0 : Array Value} {Z : State} (hw : ∀ d ∈ tables_1, d.before a0 Z = true) : ((Jvm.Cond.methodLink "java/util/Arrays" (304 : Nat) ({ cls := "java/lang/Math", name := "min", desc := "(II)I" } : Jvm.MethodName)) : Jvm.Cond).before a0 Z = true := hw _ (List.mem_of_getElem? (i := 38) rfl)
theorem wd39 {a0 : Array Value} {Z : State} (hw : ∀ d ∈ tables_1, d.before a0 Z = true) : ((Jvm.Cond.static ({ cls := "java/lang/Math", name := "min", desc := "(II)I" } : Jvm.MethodName)) : Jvm.Cond).before a0 Z = true := hw _ (List.mem_of_getElem? (i := 39) rfl)
theorem wd40 {a0 : Array Value} {Z : State} (hw : ∀ d ∈ tables_1, d.before a0 Z = true) : ((Jvm.Cond.code ({ cls := "java/lang/Math", name := "min", desc := "(II)I" } : Jvm.MethodName) jdk_29_method_69_code (2 : Nat) (Option.some Jvm.ClassFile.FieldType.int)) : Jvm.Cond).before a0 Z = true := hw _ (List.mem_of_getElem? (i := 40) rfl)
theorem wd41 {a0 : Array Value} {Z : State} (hw : ∀ d ∈ tables_1, d.before a0 Z = true) : ((Jvm.Cond.methodLink "java/util/Arrays" (150 : Nat) ({ cls := "java/lang/System", name := "arraycopy", desc := "(Ljava/lang/Object;ILjava/lang/Object;II)V" } : Jvm.MethodName)) : Jvm.Cond).before a0 Z = true := hw _ (List.mem_of_getElem? (i := 41) rfl)
theorem wd42 {a0 : Array Value} {Z : State} (hw : ∀ d ∈ tables_1, d.before a0 Z = true) : ((Jvm.Cond.static ({ cls := "java/lang/System", name := "arraycopy", desc := "(Ljava/lang/Object;ILjava/lang/Object;II)V" } : Jvm.MethodName)) : Jvm.Cond).before a0 Z = true := hw _ (List.mem_of_getElem? (i := 42) rfl)
theorem wd43 {a0 : Array Value} {Z : State} (hw : ∀ d ∈ tables_1, d.before a0 Z = true) : ((Jvm.Cond.initialized "java/lang/System") : Jvm.Cond).before a0 Z = true := hw _ (List.mem_of_getElem? (i := 43) rfl)
theorem wd44 {a0 : Array Value} {Z : State} (hw : ∀ d ∈ tables_1, d.before a0 Z = true) : ((Jvm.Cond.native ({ cls := "java/lang/System", name := "arraycopy", desc := "(Ljava/lang/Object;ILjava/lang/Object;II)V" } : Jvm.MethodName)) : Jvm.Cond).before a0 Z = true := hw _ (List.mem_of_getElem? (i := 44) rfl)
theorem wd45 {a0 : Array Value} {Z : State} (hw : ∀ d ∈ tables_1, d.before a0 Z = true) : ((Jvm.Cond.fieldLink "com/example/dissect/dissect/ReachedRanges" (44 : Nat) "com/example/dissect/dissect/ReachedRanges" "ranges" "I") : Jvm.Cond).before a0 Z = true := hw _ (List.mem_of_getElem? (i := 45) rfl)
theorem wd46 {a0 : Array Value} {Z : State} (hw : ∀ d ∈ tables_1, d.before a0 Z = true) : ((Jvm.Cond.lays "com/example/dissect/dissect/ReachedRanges" "com/example/dissect/dissect/ReachedRanges" "ranges" "I") : Jvm.Cond).before a0 Z = true := hw _ (List.mem_of_getElem? (i := 46) rfl)
theorem wd47 {a0 : Array Value} {Z : State} (hw : ∀ d ∈ tables_1, d.before a0 Z = true) : ((Jvm.Cond.methodLink "com/example/dissect/dissect/ReachedRanges" (47 : Nat) ({ cls := "com/example/dissect/dissect/ReachedRanges", name := "append", desc := "(II)V" } : Jvm.MethodName)) : Jvm.Cond).before a0 Z = true := hw _ (List.mem_of_getElem? (i := 47) rfl)
theorem wd48 {a0 : Array Value} {Z : State} (hw : ∀ d ∈ tables_1, d.before a0 Z = true) : ((Jvm.Cond.instanceMethod ({ cls := "com/example/dissect/dissect/ReachedRanges", name := "append", desc := "(II)V" } : Jvm.MethodName)) : Jvm.Cond).before a0 Z = true := hw _ (List.mem_of_getElem? (i := 48) rfl)
theorem wd49 {a0 : Array Value} {Z : State} (hw : ∀ d ∈ tables_1, d.before a0 Z = true) : ((Jvm.Cond.privateMethod ({ cls := "com/example/dissect/dissect/ReachedRanges", name := "append", desc := "(II)V" } : Jvm.MethodName)) : Jvm.Cond).before a0 Z = true := hw _ (List.mem_of_getElem? (i := 49) rfl)
theorem wd50 {a0 : Array Value} {Z : State} (hw : ∀ d ∈ tables_1, d.before a0 Z = true) : ((Jvm.Cond.code ({ cls := "com/example/dissect/dissect/ReachedRanges", name := "append", desc := "(II)V" } : Jvm.MethodName) prog_101_method_6_code (4 : Nat) (Option.none : Option Jvm.ClassFile.FieldType)) : Jvm.Cond).before a0 Z = true := hw _ (List.mem_of_getElem? (i := 50) rfl)
theorem wd51 {a0 : Array Value} {Z : State} (hw : ∀ d ∈ tables_1, d.before a0 Z = true) : ((Jvm.Cond.methodLink "com/example/dissect/dissect/ReachedRangesMayReachPinLaw" (18 : Nat) ({ cls := "com/example/dissect/dissect/ReachedRanges", name := "mayReach", desc := "(II)Z" } : Jvm.MethodName)) : Jvm.Cond).before a0 Z = true := hw _ (List.mem_of_getElem? (i := 51) rfl)
theorem wd52 {a0 : Array Value} {Z : State} (hw : ∀ d ∈ tables_1, d.before a0 Z = true) : ((Jvm.Cond.declares ({ cls := "com/example/dissect/dissect/ReachedRanges", name := "mayReach", desc := "(II)Z" } : Jvm.MethodName)) : Jvm.Cond).before a0 Z = true := hw _ (List.mem_of_getElem? (i := 52) rfl)
theorem wd53 {a0 : Array Value} {Z : State} (hw : ∀ d ∈ tables_1, d.before a0 Z = true) : ((Jvm.Cond.instanceMethod ({ cls := "com/example/dissect/dissect/ReachedRanges", name := "mayReach", desc := "(II)Z" } : Jvm.MethodName)) : Jvm.Cond).before a0 Z = true := hw _ (List.mem_of_getElem? (i := 53) rfl)
theorem wd54 {a0 : Array Value} {Z : State} (hw : ∀ d ∈ tables_1, d.before a0 Z = true) : ((Jvm.Cond.selects "com/example/dissect/dissect/ReachedRanges" ({ cls := "com/example/dissect/dissect/ReachedRanges", name := "mayReach", desc := "(II)Z" } : Jvm.MethodName) ({ cls := "com/example/dissect/dissect/ReachedRanges", name := "mayReach", desc := "(II)Z" } : Jvm.MethodName)) : Jvm.Cond).before a0 Z = true := hw _ (List.mem_of_getElem? (i := 54) rfl)
theorem wd55 {a0 : Array Value} {Z : State} (hw : ∀ d ∈ tables_1, d.before a0 Z = true) : ((Jvm.Cond.code ({ cls := "com/example/dissect/dissect/ReachedRanges", name := "mayReach", desc := "(II)Z" } : Jvm.MethodName) prog_101_method_4_code (6 : Nat) (Option.some Jvm.ClassFile.FieldType.boolean)) : Jvm.Cond).before a0 Z = true := hw _ (List.mem_of_getElem? (i := 55) rfl)
theorem wd56 {a0 : Array Value} {Z : State} (hw : ∀ d ∈ tables_1, d.before a0 Z = true) : ((Jvm.Cond.methodLink "com/example/dissect/dissect/ReachedRangesMayReachPinLaw" (14 : Nat) ({ cls := "com/example/dissect/dissect/ReachedRanges", name := "reach", desc := "(I)V" } : Jvm.MethodName)) : Jvm.Cond).before a0 Z = true := hw _ (List.mem_of_getElem? (i := 56) rfl)
theorem wd57 {a0 : Array Value} {Z : State} (hw : ∀ d ∈ tables_1, d.before a0 Z = true) : ((Jvm.Cond.declares ({ cls := "com/example/dissect/dissect/ReachedRanges", name := "reach", desc := "(I)V" } : Jvm.MethodName)) : Jvm.Cond).before a0 Z = true := hw _ (List.mem_of_getElem? (i := 57) rfl)
theorem wd58 {a0 : Array Value} {Z : State} (hw : ∀ d ∈ tables_1, d.before a0 Z = true) : ((Jvm.Cond.instanceMethod ({ cls := "com/example/dissect/dissect/ReachedRanges", name := "reach", desc := "(I)V" } : Jvm.MethodName)) : Jvm.Cond).before a0 Z = true := hw _ (List.mem_of_getElem? (i := 58) rfl)
theorem wd59 {a0 : Array Value} {Z : State} (hw : ∀ d ∈ tables_1, d.before a0 Z = true) : ((Jvm.Cond.selects "com/example/dissect/dissect/ReachedRanges" ({ cls := "com/example/dissect/dissect/ReachedRanges", name := "reach", desc := "(I)V" } : Jvm.MethodName) ({ cls := "com/example/dissect/dissect/ReachedRanges", name := "reach", desc := "(I)V" } : Jvm.MethodName)) : Jvm.Cond).before a0 Z = true := hw _ (List.mem_of_getElem? (i := 59) rfl)
theorem wd60 {a0 : Array Value} {Z : State} (hw : ∀ d ∈ tables_1, d.before a0 Z = true) : ((Jvm.Cond.code ({ cls := "com/example/dissect/dissect/ReachedRanges", name := "reach", desc := "(I)V" } : Jvm.MethodName) prog_101_method_3_code (10 : Nat) (Option.none : Option Jvm.ClassFile.FieldType)) : Jvm.Cond).before a0 Z = true := hw _ (List.mem_of_getElem? (i := 60) rfl)
abbrev ksRR : List Key := [("com/example/dissect/dissect/ReachedRanges", "firstRanges", "[I"), ("com/example/dissect/dissect/ReachedRanges", "members", "I"), ("com/example/dissect/dissect/ReachedRanges", "lows", "[I"), ("com/example/dissect/dissect/ReachedRanges", "highs", "[I"), ("com/example/dissect/dissect/ReachedRanges", "ranges", "I"), ("com/example/dissect/dissect/ReachedRanges", "mergedLows", "[I"), ("com/example/dissect/dissect/ReachedRanges", "mergedHighs", "[I")]
theorem ksRR_laidk {a0 : Array Value} {Z : State} (hw : ∀ d ∈ tables_1, d.before a0 Z = true) : ∀ (i : Nat) (k : Key), ksRR[i]? = some k → Laid Z a0 "com/example/dissect/dissect/ReachedRanges" k.1 k.2.1 k.2.2
  | 0, _, rfl => (Or.inl (wd13 hw))
  | 1, _, rfl => (Or.inl (wd29 hw))
  | 2, _, rfl => (Or.inl (wd15 hw))
  | 3, _, rfl => (Or.inl (wd17 hw))
  | 4, _, rfl => (Or.inl (wd46 hw))
  | 5, _, rfl => (Or.inr (wd20 hw))
  | 6, _, rfl => (Or.inr (wd22 hw))
  | i + 7, k, h => by simp at h
theorem ksRR_laid {a0 : Array Value} {Z : State} (hw : ∀ d ∈ tables_1, d.before a0 Z = true) : ∀ (i : Nat) (k : Key) (v : Value), ksRR[i]? = some k → ([.null, (.int (0 : Int32)), .null, .null, (.int (0 : Int32)), .null, .null] : List Value)[i]? = some v → Laid Z a0 "com/example/dissect/dissect/ReachedRanges" k.1 k.2.1 k.2.2 ∧ ∃ ty, parseFieldDescriptor k.2.2 = some ty ∧ v = defaultValue ty
  | 0, _, _, rfl, rfl => ⟨ksRR_laidk hw 0 _ rfl, (.array .int), by decide, rfl⟩
  | 1, _, _, rfl, rfl => ⟨ksRR_laidk hw 1 _ rfl, .int, by decide, rfl⟩
  | 2, _, _, rfl, rfl => ⟨ksRR_laidk hw 2 _ rfl, (.array .int), by decide, rfl⟩
  | 3, _, _, rfl, rfl => ⟨ksRR_laidk hw 3 _ rfl, (.array .int), by decide, rfl⟩
  | 4, _, _, rfl, rfl => ⟨ksRR_laidk hw 4 _ rfl, .int, by decide, rfl⟩
  | 5, _, _, rfl, rfl => ⟨ksRR_laidk hw 5 _ rfl, (.array .int), by decide, rfl⟩
  | 6, _, _, rfl, rfl => ⟨ksRR_laidk hw 6 _ rfl, (.array .int), by decide, rfl⟩
  | i + 7, k, v, h, _ => by simp at h
theorem ksRR_dist {a0 : Array Value} {Z : State} (hw : ∀ d ∈ tables_1, d.before a0 Z = true) (i j : Nat) (k k' : Key) (h1 : ksRR[i]? = some k) (h2 : ksRR[j]? = some k') (hne : i ≠ j) : kslot Z k ≠ kslot Z k' :=
  distK (C := "com/example/dissect/dissect/ReachedRanges") (ksRR_laidk hw) (by decide) (by decide) i j k k' h1 h2 hne
def mxI (x z : Int32) : Int32 := if x < z then z else x
def mnI (x z : Int32) : Int32 := if z < x then z else x
set_option maxRecDepth 65536 in
set_option maxHeartbeats 40000000 in
theorem m_max (l : Launch) (Z : State) (a0 : Array Value) (hw : ∀ d ∈ tables_1, d.before a0 Z = true) (hB : Heap) (H : List Rec) (x z : Int32) : Ctr l Z hB ({ cls := "java/lang/Math", name := "max", desc := "(II)I" } : Jvm.MethodName) jdk_29_method_65_code 2 (some .int) [] ({ frames := 0, cells := 0, slots := 0, locals := 0 } : Room) #[(.int x), (.int z)] H (fun v H' => v = some (.int (mxI x z)) ∧ H' = H) := by
  refine Wk.ctr pn_0 (Ls := #[.val (.int x), .val (.int z)]) (fun m => by first | rfl | (simp [entryFrame, mkF, argsToLocals, Value.category]; done)) ?_
  refine Wk.iloadN (pc' := 1) d3_0 rfl rfl ?_
  refine Wk.iloadN (pc' := 2) d3_1 rfl rfl ?_
  by_cases hc1 : x < z
  ·
    refine Wk.icY (pc' := 9) d3_2 (XT.ii_lt_t hc1) (by decide) (by decide) ?_
    refine Wk.iloadN (pc' := 10) d3_9 rfl rfl ?_
    exact Wk.iret (t := .int) d3_10 rfl (by simp) rfl (by simp <;> omega) (Nat.le_of_ble_eq_true rfl) ⟨congrArg (fun z => some (Value.int z)) (show z = mxI x z from by rw [mxI, if_pos hc1]), rfl⟩
  ·
    refine Wk.icN (pc' := 5) d3_2 (XT.ii_lt_f hc1) rfl ?_
    refine Wk.iloadN (pc' := 6) d3_5 rfl rfl ?_
    refine Wk.goTo (pc' := 10) d3_6 (by decide) (by decide) ?_
    exact Wk.iret (t := .int) d3_10 rfl (by simp) rfl (by simp <;> omega) (Nat.le_of_ble_eq_true rfl) ⟨congrArg (fun z => some (Value.int z)) (show x = mxI x z from by rw [mxI, if_neg hc1]), rfl⟩
set_option maxRecDepth 65536 in
set_option maxHeartbeats 40000000 in
theorem m_min (l : Launch) (Z : State) (a0 : Array Value) (hw : ∀ d ∈ tables_1, d.before a0 Z = true) (hB : Heap) (H : List Rec) (x z : Int32) : Ctr l Z hB ({ cls := "java/lang/Math", name := "min", desc := "(II)I" } : Jvm.MethodName) jdk_29_method_69_code 2 (some .int) [] ({ frames := 0, cells := 0, slots := 0, locals := 0 } : Room) #[(.int x), (.int z)] H (fun v H' => v = some (.int (mnI x z)) ∧ H' = H) := by
  refine Wk.ctr pn_1 (Ls := #[.val (.int x), .val (.int z)]) (fun m => by first | rfl | (simp [entryFrame, mkF, argsToLocals, Value.category]; done)) ?_
  refine Wk.iloadN (pc' := 1) d5_0 rfl rfl ?_
  refine Wk.iloadN (pc' := 2) d5_1 rfl rfl ?_
  by_cases hc1 : z < x
  ·
    refine Wk.icY (pc' := 9) d5_2 (XT.ii_gt_t hc1) (by decide) (by decide) ?_
    refine Wk.iloadN (pc' := 10) d5_9 rfl rfl ?_
    exact Wk.iret (t := .int) d5_10 rfl (by simp) rfl (by simp <;> omega) (Nat.le_of_ble_eq_true rfl) ⟨congrArg (fun z => some (Value.int z)) (show z = mnI x z from by rw [mnI, if_pos hc1]), rfl⟩
  ·
    refine Wk.icN (pc' := 5) d5_2 (XT.ii_gt_f hc1) rfl ?_
    refine Wk.iloadN (pc' := 6) d5_5 rfl rfl ?_
    refine Wk.goTo (pc' := 10) d5_6 (by decide) (by decide) ?_
    exact Wk.iret (t := .int) d5_10 rfl (by simp) rfl (by simp <;> omega) (Nat.le_of_ble_eq_true rfl) ⟨congrArg (fun z => some (Value.int z)) (show x = mnI x z from by rw [mnI, if_neg hc1]), rfl⟩
theorem arv0 {Z : State} {h : Heap} {no : Addr} {cl : Cell} (A : Arr Z h no cl .int) (hz : cl.slots.size = 0) : ∃ k, Arv Z h no k .int 0 [] (.int 0) :=
  ⟨cl.cls, cl, A, rfl, by rw [hz]; rfl, by decide, fun k hk => absurd hk (by omega), fun k hk => absurd hk (by omega)⟩
set_option maxRecDepth 65536 in
set_option maxHeartbeats 40000000 in
theorem m_copy0 (l : Launch) (Z : State) (a0 : Array Value) (hw : ∀ d ∈ tables_1, d.before a0 Z = true) (hB : Heap) (H : List Rec) (no : Addr) (cl : Cell) (sN : Sta Z hB "com/example/dissect/dissect/ReachedRanges" "NO_INTS" "[I" (.ref no)) (A : Arr Z hB no cl .int) (hz : cl.slots.size = 0) : Ctr l Z hB ({ cls := "java/util/Arrays", name := "copyOf", desc := "([II)[I" } : Jvm.MethodName) jdk_65_method_123_code 3 (some (.array .int)) [] ({ frames := 1, cells := 1, slots := 16, locals := 18 } : Room) #[(.ref no), (.int (16 : Int32))] H (fun v H' => v = some (rf hB H.length) ∧ H' = H ++ [ints [0, 0, 0, 0, 0, 0, 0, 0, 0, 0, 0, 0, 0, 0, 0, 0]]) := by
  refine Wk.ctr pn_2 (Ls := #[.val (.ref no), .val (.int (16 : Int32)), .unset]) (fun m => by first | rfl | (simp [entryFrame, mkF, argsToLocals, Value.category]; done)) ?_
  refine Wk.iloadN (pc' := 1) d4_0 rfl rfl ?_
  refine Wk.aloadN (pc' := 2) d4_1 rfl rfl rfl ?_
  refine Wk.arrLenOld (pc' := 3) (z := (0 : Int32)) d4_2 A (by rw [hz]; rfl) rfl ?_
  refine Wk.icY (pc' := 14) d4_3 (XT.ii_ne_t (by decide)) (by decide) (by decide) ?_
  refine Wk.iloadN (pc' := 15) d4_14 rfl rfl ?_
  refine Wk.newArr (pc' := 17) (i := H.length) (nn := 16) (H' := (H ++ [ints [0, 0, 0, 0, 0, 0, 0, 0, 0, 0, 0, 0, 0, 0, 0, 0]])) d4_15 (wd18 hw) (by decide) (by decide) (by omega) rfl ⟨(by intro C; simp [newarray.typeOf]), (by intro C; simp [newarray.typeOf])⟩ (by simp <;> omega) (Nat.le_of_ble_eq_true rfl) rfl (by simp) rfl ?_
  refine Wk.astoreN (pc' := 18) (Ls' := #[.val (.ref no), .val (.int (16 : Int32)), .val (rf hB H.length)]) d4_17 rfl rfl rfl ?_
  refine Wk.aloadN (pc' := 19) d4_18 rfl rfl rfl ?_
  refine Wk.iconst (pc' := 20) (0 : Int32) d4_19 (by decide) rfl ?_
  refine Wk.aloadN (pc' := 21) d4_20 rfl rfl rfl ?_
  refine Wk.iconst (pc' := 22) (0 : Int32) d4_21 (by decide) rfl ?_
  refine Wk.aloadN (pc' := 23) d4_22 rfl rfl rfl ?_
  refine Wk.arrLenOld (pc' := 24) (z := (0 : Int32)) d4_23 A (by rw [hz]; rfl) rfl ?_
  refine Wk.iloadN (pc' := 25) d4_24 rfl rfl ?_
  refine Wk.callS (pc' := 28) (argsL := [(.int (0 : Int32)), (.int (16 : Int32))]) (st := [(.int (0 : Int32)), (rf hB H.length), (.int (0 : Int32)), (.ref no)]) d4_25 (wd38 hw) (wd39 hw) (wd32 hw) (wd40 hw) (by decide) (lenOf pd_0 rfl) (m_min l Z a0 hw hB (H ++ [ints [0, 0, 0, 0, 0, 0, 0, 0, 0, 0, 0, 0, 0, 0, 0, 0]]) 0 16) rfl (Nat.le_of_ble_eq_true rfl) (Nat.le_of_ble_eq_true rfl) (by simp <;> omega) (Nat.le_of_ble_eq_true rfl) rfl rfl ?_
  rintro _ _ ⟨rfl, hH⟩; obtain rfl := hH.symm
  show WP l Z hB _ _ _ _ _ _ _ _ (H ++ [ints [0, 0, 0, 0, 0, 0, 0, 0, 0, 0, 0, 0, 0, 0, 0, 0]]) _ _ [(.int (0 : Int32)), (.int (0 : Int32)), (rf hB H.length), (.int (0 : Int32)), (.ref no)]
  refine Wk.arraycopy (pc' := 31) (i := H.length) (vs := []) (us := []) (z := 0) (dv := .int 0) (spn := 0) (dpn := 0) (n := 0) (H' := (H ++ [ints [0, 0, 0, 0, 0, 0, 0, 0, 0, 0, 0, 0, 0, 0, 0, 0]])) d4_28 (wd41 hw) (wd44 hw) (wd42 hw) (wd43 hw) (fun _ P => arv0 (A.ext P.toExt) hz) (gaR rfl) (Or.inl ⟨rfl, rfl⟩) (by decide) (by decide) (by decide) (by decide) (by decide) (by decide) (by decide) (by decide) (by decide) rfl rfl (by decide) (Nat.le_of_ble_eq_true rfl) (by rw [Wk.saR]; rfl) rfl ?_
  refine Wk.aloadN (pc' := 32) d4_31 rfl rfl rfl ?_
  exact Wk.aret (t := (.array .int)) d4_32 rfl rfl rfl (by simp <;> omega) (Nat.le_of_ble_eq_true rfl) ⟨rfl, rfl⟩
set_option maxRecDepth 65536 in
set_option maxHeartbeats 40000000 in
theorem m_init (l : Launch) (Z : State) (a0 : Array Value) (hw : ∀ d ∈ tables_1, d.before a0 Z = true) (hB : Heap) (no : Addr) (cl : Cell) (sN : Sta Z hB "com/example/dissect/dissect/ReachedRanges" "NO_INTS" "[I" (.ref no)) (A : Arr Z hB no cl .int) (hz : cl.slots.size = 0) : Ctr l Z hB ({ cls := "com/example/dissect/dissect/ReachedRanges", name := "<init>", desc := "()V" } : Jvm.MethodName) prog_101_method_1_code 1 none [] ({ frames := 1, cells := 2, slots := 16, locals := 12 } : Room) #[(rf hB 0)] [obj "com/example/dissect/dissect/ReachedRanges" ksRR [.null, (.int (0 : Int32)), .null, .null, (.int (0 : Int32)), .null, .null]] (fun v H' => v = none ∧ H' = [obj "com/example/dissect/dissect/ReachedRanges" ksRR [(.ref no), (.int (0 : Int32)), (.ref no), (.ref no), (.int (0 : Int32)), (rf hB 1), (rf hB 2)], ints [0, 0, 0, 0, 0, 0, 0, 0], ints [0, 0, 0, 0, 0, 0, 0, 0]]) := by
  refine Wk.ctr pn_3 (Ls := #[.val (rf hB 0)]) (fun m => by first | rfl | (simp [entryFrame, mkF, argsToLocals, Value.category]; done)) ?_
  refine Wk.aloadN (pc' := 1) d0_0 rfl rfl rfl ?_
  refine Wk.initObj (pc' := 4) d0_1 (wd7 hw) (wd8 hw) (wd9 hw) rfl (Nat.le_of_ble_eq_true rfl) (Nat.le_of_ble_eq_true rfl) rfl ?_
  refine Wk.aloadN (pc' := 5) d0_4 rfl rfl rfl ?_
  refine Wk.getSt (pc' := 8) d0_5 (wd10 hw) sN rfl ?_
  refine Wk.putF0 (pc' := 11) (i := 0) (j := 0) (H' := [obj "com/example/dissect/dissect/ReachedRanges" ksRR [(.ref no), (.int (0 : Int32)), .null, .null, (.int (0 : Int32)), .null, .null]]) (ty := (.array .int)) d0_8 (wd12 hw) rfl rfl (Nat.le_of_ble_eq_true rfl) (Or.inl (wd13 hw)) (wd2 hw) (by decide) rfl rfl rfl rfl ?_
  refine Wk.aloadN (pc' := 12) d0_11 rfl rfl rfl ?_
  refine Wk.getSt (pc' := 15) d0_12 (wd10 hw) sN rfl ?_
  refine Wk.putF0 (pc' := 18) (i := 0) (j := 2) (H' := [obj "com/example/dissect/dissect/ReachedRanges" ksRR [(.ref no), (.int (0 : Int32)), (.ref no), .null, (.int (0 : Int32)), .null, .null]]) (ty := (.array .int)) d0_15 (wd14 hw) rfl rfl (Nat.le_of_ble_eq_true rfl) (Or.inl (wd15 hw)) (wd2 hw) (by decide) rfl rfl rfl rfl ?_
  refine Wk.aloadN (pc' := 19) d0_18 rfl rfl rfl ?_
  refine Wk.getSt (pc' := 22) d0_19 (wd10 hw) sN rfl ?_
  refine Wk.putF0 (pc' := 25) (i := 0) (j := 3) (H' := [obj "com/example/dissect/dissect/ReachedRanges" ksRR [(.ref no), (.int (0 : Int32)), (.ref no), (.ref no), (.int (0 : Int32)), .null, .null]]) (ty := (.array .int)) d0_22 (wd16 hw) rfl rfl (Nat.le_of_ble_eq_true rfl) (Or.inl (wd17 hw)) (wd2 hw) (by decide) rfl rfl rfl rfl ?_
  refine Wk.aloadN (pc' := 26) d0_25 rfl rfl rfl ?_
  refine Wk.bipush (pc' := 28) (8 : Int32) d0_26 (by decide) rfl ?_
  refine Wk.newArr (pc' := 30) (i := 1) (nn := 8) (H' := [obj "com/example/dissect/dissect/ReachedRanges" ksRR [(.ref no), (.int (0 : Int32)), (.ref no), (.ref no), (.int (0 : Int32)), .null, .null], ints [0, 0, 0, 0, 0, 0, 0, 0]]) d0_28 (wd18 hw) (by decide) (by decide) (by omega) rfl ⟨(by intro C; simp [newarray.typeOf]), (by intro C; simp [newarray.typeOf])⟩ (Nat.le_of_ble_eq_true rfl) (Nat.le_of_ble_eq_true rfl) rfl rfl rfl ?_
  refine Wk.putF0 (pc' := 33) (i := 0) (j := 5) (H' := [obj "com/example/dissect/dissect/ReachedRanges" ksRR [(.ref no), (.int (0 : Int32)), (.ref no), (.ref no), (.int (0 : Int32)), (rf hB 1), .null], ints [0, 0, 0, 0, 0, 0, 0, 0]]) (ty := (.array .int)) d0_30 (wd19 hw) rfl rfl (Nat.le_of_ble_eq_true rfl) (Or.inr ⟨(wd20 hw), rfl, rfl⟩) (wd2 hw) (by decide) rfl rfl rfl rfl ?_
  refine Wk.aloadN (pc' := 34) d0_33 rfl rfl rfl ?_
  refine Wk.bipush (pc' := 36) (8 : Int32) d0_34 (by decide) rfl ?_
  refine Wk.newArr (pc' := 38) (i := 2) (nn := 8) (H' := [obj "com/example/dissect/dissect/ReachedRanges" ksRR [(.ref no), (.int (0 : Int32)), (.ref no), (.ref no), (.int (0 : Int32)), (rf hB 1), .null], ints [0, 0, 0, 0, 0, 0, 0, 0], ints [0, 0, 0, 0, 0, 0, 0, 0]]) d0_36 (wd18 hw) (by decide) (by decide) (by omega) rfl ⟨(by intro C; simp [newarray.typeOf]), (by intro C; simp [newarray.typeOf])⟩ (Nat.le_of_ble_eq_true rfl) (Nat.le_of_ble_eq_true rfl) rfl rfl rfl ?_
  refine Wk.putF0 (pc' := 41) (i := 0) (j := 6) (H' := [obj "com/example/dissect/dissect/ReachedRanges" ksRR [(.ref no), (.int (0 : Int32)), (.ref no), (.ref no), (.int (0 : Int32)), (rf hB 1), (rf hB 2)], ints [0, 0, 0, 0, 0, 0, 0, 0], ints [0, 0, 0, 0, 0, 0, 0, 0]]) (ty := (.array .int)) d0_38 (wd21 hw) rfl rfl (Nat.le_of_ble_eq_true rfl) (Or.inr ⟨(wd22 hw), rfl, rfl⟩) (wd2 hw) (by decide) rfl rfl rfl rfl ?_
  exact Wk.vret d0_41 rfl (Nat.le_of_ble_eq_true rfl) (Nat.le_of_ble_eq_true rfl) ⟨rfl, rfl⟩
set_option maxRecDepth 65536 in
set_option maxHeartbeats 40000000 in
theorem m_app0 (l : Launch) (Z : State) (a0 : Array Value) (hw : ∀ d ∈ tables_1, d.before a0 Z = true) (hB : Heap) (no : Addr) (cl : Cell) (sN : Sta Z hB "com/example/dissect/dissect/ReachedRanges" "NO_INTS" "[I" (.ref no)) (A : Arr Z hB no cl .int) (hz : cl.slots.size = 0) : Ctr l Z hB ({ cls := "com/example/dissect/dissect/ReachedRanges", name := "append", desc := "(II)V" } : Jvm.MethodName) prog_101_method_6_code 4 none [] ({ frames := 2, cells := 2, slots := 32, locals := 33 } : Room) #[(rf hB 0), (.int (0 : Int32)), (.int (0 : Int32))] [obj "com/example/dissect/dissect/ReachedRanges" ksRR [(rf hB 3), (.int (0 : Int32)), (.ref no), (.ref no), (.int (0 : Int32)), (rf hB 1), (rf hB 2)], ints [0, 0, 0, 0, 0, 0, 0, 0], ints [0, 0, 0, 0, 0, 0, 0, 0], ints [0, 0, 0, 0, 0, 0, 0, 0, 0, 0, 0, 0, 0, 0, 0, 0]] (fun v H' => v = none ∧ H' = [obj "com/example/dissect/dissect/ReachedRanges" ksRR [(rf hB 3), (.int (0 : Int32)), (rf hB 4), (rf hB 5), (.int (1 : Int32)), (rf hB 1), (rf hB 2)], ints [0, 0, 0, 0, 0, 0, 0, 0], ints [0, 0, 0, 0, 0, 0, 0, 0], ints [0, 0, 0, 0, 0, 0, 0, 0, 0, 0, 0, 0, 0, 0, 0, 0], ints [0, 0, 0, 0, 0, 0, 0, 0, 0, 0, 0, 0, 0, 0, 0, 0], ints [0, 0, 0, 0, 0, 0, 0, 0, 0, 0, 0, 0, 0, 0, 0, 0]]) := by
  refine Wk.ctr pn_4 (Ls := #[.val (rf hB 0), .val (.int (0 : Int32)), .val (.int (0 : Int32)), .unset]) (fun m => by first | rfl | (simp [entryFrame, mkF, argsToLocals, Value.category]; done)) ?_
  refine Wk.aloadN (pc' := 1) d6_0 rfl rfl rfl ?_
  refine Wk.getF0 (pc' := 4) (i := 0) (j := 4) d6_1 (wd45 hw) rfl rfl rfl rfl ?_
  refine Wk.aloadN (pc' := 5) d6_4 rfl rfl rfl ?_
  refine Wk.getF0 (pc' := 8) (i := 0) (j := 2) d6_5 (wd14 hw) rfl rfl rfl rfl ?_
  refine Wk.arrLenOld (pc' := 9) (z := (0 : Int32)) d6_8 A (by rw [hz]; rfl) rfl ?_
  refine Wk.icN (pc' := 12) d6_9 (XT.ii_ne_f rfl) rfl ?_
  refine Wk.bipush (pc' := 14) (16 : Int32) d6_12 (by decide) rfl ?_
  refine Wk.iconst (pc' := 15) (2 : Int32) d6_14 (by decide) rfl ?_
  refine Wk.aloadN (pc' := 16) d6_15 rfl rfl rfl ?_
  refine Wk.getF0 (pc' := 19) (i := 0) (j := 4) d6_16 (wd45 hw) rfl rfl rfl rfl ?_
  refine Wk.imul (pc' := 20) d6_19 rfl ?_
  refine Wk.callS (pc' := 23) (argsL := [(.int (16 : Int32)), (.int (0 : Int32))]) (st := []) d6_20 (wd30 hw) (wd31 hw) (wd32 hw) (wd33 hw) (by decide) (lenOf pd_0 rfl) (m_max l Z a0 hw hB [obj "com/example/dissect/dissect/ReachedRanges" ksRR [(rf hB 3), (.int (0 : Int32)), (.ref no), (.ref no), (.int (0 : Int32)), (rf hB 1), (rf hB 2)], ints [0, 0, 0, 0, 0, 0, 0, 0], ints [0, 0, 0, 0, 0, 0, 0, 0], ints [0, 0, 0, 0, 0, 0, 0, 0, 0, 0, 0, 0, 0, 0, 0, 0]] 16 0) rfl (Nat.le_of_ble_eq_true rfl) (Nat.le_of_ble_eq_true rfl) (Nat.le_of_ble_eq_true rfl) (Nat.le_of_ble_eq_true rfl) rfl rfl ?_
  rintro _ _ ⟨rfl, hH⟩; obtain rfl := hH.symm
  show WP l Z hB _ _ _ _ _ _ _ _ [obj "com/example/dissect/dissect/ReachedRanges" ksRR [(rf hB 3), (.int (0 : Int32)), (.ref no), (.ref no), (.int (0 : Int32)), (rf hB 1), (rf hB 2)], ints [0, 0, 0, 0, 0, 0, 0, 0], ints [0, 0, 0, 0, 0, 0, 0, 0], ints [0, 0, 0, 0, 0, 0, 0, 0, 0, 0, 0, 0, 0, 0, 0, 0]] _ _ [(.int (16 : Int32))]
  refine Wk.istoreN (pc' := 24) (Ls' := #[.val (rf hB 0), .val (.int (0 : Int32)), .val (.int (0 : Int32)), .val (.int (16 : Int32))]) d6_23 rfl rfl ?_
  refine Wk.aloadN (pc' := 25) d6_24 rfl rfl rfl ?_
  refine Wk.aloadN (pc' := 26) d6_25 rfl rfl rfl ?_
  refine Wk.getF0 (pc' := 29) (i := 0) (j := 2) d6_26 (wd14 hw) rfl rfl rfl rfl ?_
  refine Wk.iloadN (pc' := 30) d6_29 rfl rfl ?_
  refine Wk.callS (pc' := 33) (argsL := [(.ref no), (.int (16 : Int32))]) (st := [(rf hB 0)]) d6_30 (wd34 hw) (wd35 hw) (wd36 hw) (wd37 hw) (by decide) (lenOf pd_1 rfl) (m_copy0 l Z a0 hw hB [obj "com/example/dissect/dissect/ReachedRanges" ksRR [(rf hB 3), (.int (0 : Int32)), (.ref no), (.ref no), (.int (0 : Int32)), (rf hB 1), (rf hB 2)], ints [0, 0, 0, 0, 0, 0, 0, 0], ints [0, 0, 0, 0, 0, 0, 0, 0], ints [0, 0, 0, 0, 0, 0, 0, 0, 0, 0, 0, 0, 0, 0, 0, 0]] no cl sN A hz) rfl (Nat.le_of_ble_eq_true rfl) (Nat.le_of_ble_eq_true rfl) (Nat.le_of_ble_eq_true rfl) (Nat.le_of_ble_eq_true rfl) rfl rfl ?_
  rintro _ _ ⟨rfl, hH⟩; obtain rfl := hH.symm
  show WP l Z hB _ _ _ _ _ _ _ _ [obj "com/example/dissect/dissect/ReachedRanges" ksRR [(rf hB 3), (.int (0 : Int32)), (.ref no), (.ref no), (.int (0 : Int32)), (rf hB 1), (rf hB 2)], ints [0, 0, 0, 0, 0, 0, 0, 0], ints [0, 0, 0, 0, 0, 0, 0, 0], ints [0, 0, 0, 0, 0, 0, 0, 0, 0, 0, 0, 0, 0, 0, 0, 0], ints [0, 0, 0, 0, 0, 0, 0, 0, 0, 0, 0, 0, 0, 0, 0, 0]] _ _ [(rf hB 4), (rf hB 0)]
  refine Wk.putF0 (pc' := 36) (i := 0) (j := 2) (H' := [obj "com/example/dissect/dissect/ReachedRanges" ksRR [(rf hB 3), (.int (0 : Int32)), (rf hB 4), (.ref no), (.int (0 : Int32)), (rf hB 1), (rf hB 2)], ints [0, 0, 0, 0, 0, 0, 0, 0], ints [0, 0, 0, 0, 0, 0, 0, 0], ints [0, 0, 0, 0, 0, 0, 0, 0, 0, 0, 0, 0, 0, 0, 0, 0], ints [0, 0, 0, 0, 0, 0, 0, 0, 0, 0, 0, 0, 0, 0, 0, 0]]) (ty := (.array .int)) d6_33 (wd14 hw) rfl rfl (Nat.le_of_ble_eq_true rfl) (Or.inl (wd15 hw)) (wd2 hw) (by decide) rfl rfl rfl rfl ?_
  refine Wk.aloadN (pc' := 37) d6_36 rfl rfl rfl ?_
  refine Wk.aloadN (pc' := 38) d6_37 rfl rfl rfl ?_
  refine Wk.getF0 (pc' := 41) (i := 0) (j := 3) d6_38 (wd16 hw) rfl rfl rfl rfl ?_
  refine Wk.iloadN (pc' := 42) d6_41 rfl rfl ?_
  refine Wk.callS (pc' := 45) (argsL := [(.ref no), (.int (16 : Int32))]) (st := [(rf hB 0)]) d6_42 (wd34 hw) (wd35 hw) (wd36 hw) (wd37 hw) (by decide) (lenOf pd_1 rfl) (m_copy0 l Z a0 hw hB [obj "com/example/dissect/dissect/ReachedRanges" ksRR [(rf hB 3), (.int (0 : Int32)), (rf hB 4), (.ref no), (.int (0 : Int32)), (rf hB 1), (rf hB 2)], ints [0, 0, 0, 0, 0, 0, 0, 0], ints [0, 0, 0, 0, 0, 0, 0, 0], ints [0, 0, 0, 0, 0, 0, 0, 0, 0, 0, 0, 0, 0, 0, 0, 0], ints [0, 0, 0, 0, 0, 0, 0, 0, 0, 0, 0, 0, 0, 0, 0, 0]] no cl sN A hz) rfl (Nat.le_of_ble_eq_true rfl) (Nat.le_of_ble_eq_true rfl) (Nat.le_of_ble_eq_true rfl) (Nat.le_of_ble_eq_true rfl) rfl rfl ?_
  rintro _ _ ⟨rfl, hH⟩; obtain rfl := hH.symm
  show WP l Z hB _ _ _ _ _ _ _ _ [obj "com/example/dissect/dissect/ReachedRanges" ksRR [(rf hB 3), (.int (0 : Int32)), (rf hB 4), (.ref no), (.int (0 : Int32)), (rf hB 1), (rf hB 2)], ints [0, 0, 0, 0, 0, 0, 0, 0], ints [0, 0, 0, 0, 0, 0, 0, 0], ints [0, 0, 0, 0, 0, 0, 0, 0, 0, 0, 0, 0, 0, 0, 0, 0], ints [0, 0, 0, 0, 0, 0, 0, 0, 0, 0, 0, 0, 0, 0, 0, 0], ints [0, 0, 0, 0, 0, 0, 0, 0, 0, 0, 0, 0, 0, 0, 0, 0]] _ _ [(rf hB 5), (rf hB 0)]
  refine Wk.putF0 (pc' := 48) (i := 0) (j := 3) (H' := [obj "com/example/dissect/dissect/ReachedRanges" ksRR [(rf hB 3), (.int (0 : Int32)), (rf hB 4), (rf hB 5), (.int (0 : Int32)), (rf hB 1), (rf hB 2)], ints [0, 0, 0, 0, 0, 0, 0, 0], ints [0, 0, 0, 0, 0, 0, 0, 0], ints [0, 0, 0, 0, 0, 0, 0, 0, 0, 0, 0, 0, 0, 0, 0, 0], ints [0, 0, 0, 0, 0, 0, 0, 0, 0, 0, 0, 0, 0, 0, 0, 0], ints [0, 0, 0, 0, 0, 0, 0, 0, 0, 0, 0, 0, 0, 0, 0, 0]]) (ty := (.array .int)) d6_45 (wd16 hw) rfl rfl (Nat.le_of_ble_eq_true rfl) (Or.inl (wd17 hw)) (wd2 hw) (by decide) rfl rfl rfl rfl ?_
  refine Wk.aloadN (pc' := 49) d6_48 rfl rfl rfl ?_
  refine Wk.getF0 (pc' := 52) (i := 0) (j := 2) d6_49 (wd14 hw) rfl rfl rfl rfl ?_
  refine Wk.aloadN (pc' := 53) d6_52 rfl rfl rfl ?_
  refine Wk.getF0 (pc' := 56) (i := 0) (j := 4) d6_53 (wd45 hw) rfl rfl rfl rfl ?_
  refine Wk.iloadN (pc' := 57) d6_56 rfl rfl ?_
  refine Wk.iastoreG (pc' := 58) (i := 4) (H' := [obj "com/example/dissect/dissect/ReachedRanges" ksRR [(rf hB 3), (.int (0 : Int32)), (rf hB 4), (rf hB 5), (.int (0 : Int32)), (rf hB 1), (rf hB 2)], ints [0, 0, 0, 0, 0, 0, 0, 0], ints [0, 0, 0, 0, 0, 0, 0, 0], ints [0, 0, 0, 0, 0, 0, 0, 0, 0, 0, 0, 0, 0, 0, 0, 0], ints [0, 0, 0, 0, 0, 0, 0, 0, 0, 0, 0, 0, 0, 0, 0, 0], ints [0, 0, 0, 0, 0, 0, 0, 0, 0, 0, 0, 0, 0, 0, 0, 0]]) d6_57 rfl (by decide) rfl rfl ?_
  refine Wk.aloadN (pc' := 59) d6_58 rfl rfl rfl ?_
  refine Wk.getF0 (pc' := 62) (i := 0) (j := 3) d6_59 (wd16 hw) rfl rfl rfl rfl ?_
  refine Wk.aloadN (pc' := 63) d6_62 rfl rfl rfl ?_
  refine Wk.getF0 (pc' := 66) (i := 0) (j := 4) d6_63 (wd45 hw) rfl rfl rfl rfl ?_
  refine Wk.iloadN (pc' := 67) d6_66 rfl rfl ?_
  refine Wk.iastoreG (pc' := 68) (i := 5) (H' := [obj "com/example/dissect/dissect/ReachedRanges" ksRR [(rf hB 3), (.int (0 : Int32)), (rf hB 4), (rf hB 5), (.int (0 : Int32)), (rf hB 1), (rf hB 2)], ints [0, 0, 0, 0, 0, 0, 0, 0], ints [0, 0, 0, 0, 0, 0, 0, 0], ints [0, 0, 0, 0, 0, 0, 0, 0, 0, 0, 0, 0, 0, 0, 0, 0], ints [0, 0, 0, 0, 0, 0, 0, 0, 0, 0, 0, 0, 0, 0, 0, 0], ints [0, 0, 0, 0, 0, 0, 0, 0, 0, 0, 0, 0, 0, 0, 0, 0]]) d6_67 rfl (by decide) rfl rfl ?_
  refine Wk.aloadN (pc' := 69) d6_68 rfl rfl rfl ?_
  refine Wk.dup (pc' := 70) d6_69 rfl rfl ?_
  refine Wk.getF0 (pc' := 73) (i := 0) (j := 4) d6_70 (wd45 hw) rfl rfl rfl rfl ?_
  refine Wk.iconst (pc' := 74) (1 : Int32) d6_73 (by decide) rfl ?_
  refine Wk.iadd (pc' := 75) d6_74 rfl ?_
  refine Wk.putF0 (pc' := 78) (i := 0) (j := 4) (H' := [obj "com/example/dissect/dissect/ReachedRanges" ksRR [(rf hB 3), (.int (0 : Int32)), (rf hB 4), (rf hB 5), (.int (1 : Int32)), (rf hB 1), (rf hB 2)], ints [0, 0, 0, 0, 0, 0, 0, 0], ints [0, 0, 0, 0, 0, 0, 0, 0], ints [0, 0, 0, 0, 0, 0, 0, 0, 0, 0, 0, 0, 0, 0, 0, 0], ints [0, 0, 0, 0, 0, 0, 0, 0, 0, 0, 0, 0, 0, 0, 0, 0], ints [0, 0, 0, 0, 0, 0, 0, 0, 0, 0, 0, 0, 0, 0, 0, 0]]) (ty := .int) d6_75 (wd45 hw) rfl rfl (Nat.le_of_ble_eq_true rfl) (Or.inl (wd46 hw)) (wd2 hw) (by decide) rfl rfl rfl rfl ?_
  exact Wk.vret d6_78 rfl (Nat.le_of_ble_eq_true rfl) (Nat.le_of_ble_eq_true rfl) ⟨rfl, rfl⟩
set_option maxRecDepth 65536 in
set_option maxHeartbeats 40000000 in
theorem m_add0 (l : Launch) (Z : State) (a0 : Array Value) (hw : ∀ d ∈ tables_1, d.before a0 Z = true) (hB : Heap) (no : Addr) (cl : Cell) (sN : Sta Z hB "com/example/dissect/dissect/ReachedRanges" "NO_INTS" "[I" (.ref no)) (A : Arr Z hB no cl .int) (hz : cl.slots.size = 0) : Ctr l Z hB ({ cls := "com/example/dissect/dissect/ReachedRanges", name := "add", desc := "()V" } : Jvm.MethodName) prog_101_method_2_code 1 none [] ({ frames := 3, cells := 3, slots := 48, locals := 48 } : Room) #[(rf hB 0)] [obj "com/example/dissect/dissect/ReachedRanges" ksRR [(.ref no), (.int (0 : Int32)), (.ref no), (.ref no), (.int (0 : Int32)), (rf hB 1), (rf hB 2)], ints [0, 0, 0, 0, 0, 0, 0, 0], ints [0, 0, 0, 0, 0, 0, 0, 0]] (fun v H' => v = none ∧ H' = [obj "com/example/dissect/dissect/ReachedRanges" ksRR [(rf hB 3), (.int (1 : Int32)), (rf hB 4), (rf hB 5), (.int (1 : Int32)), (rf hB 1), (rf hB 2)], ints [0, 0, 0, 0, 0, 0, 0, 0], ints [0, 0, 0, 0, 0, 0, 0, 0], ints [0, 0, 0, 0, 0, 0, 0, 0, 0, 0, 0, 0, 0, 0, 0, 0], ints [0, 0, 0, 0, 0, 0, 0, 0, 0, 0, 0, 0, 0, 0, 0, 0], ints [0, 0, 0, 0, 0, 0, 0, 0, 0, 0, 0, 0, 0, 0, 0, 0]]) := by
  refine Wk.ctr pn_5 (Ls := #[.val (rf hB 0)]) (fun m => by first | rfl | (simp [entryFrame, mkF, argsToLocals, Value.category]; done)) ?_
  refine Wk.aloadN (pc' := 1) d2_0 rfl rfl rfl ?_
  refine Wk.getF0 (pc' := 4) (i := 0) (j := 1) d2_1 (wd28 hw) rfl rfl rfl rfl ?_
  refine Wk.aloadN (pc' := 5) d2_4 rfl rfl rfl ?_
  refine Wk.getF0 (pc' := 8) (i := 0) (j := 0) d2_5 (wd12 hw) rfl rfl rfl rfl ?_
  refine Wk.arrLenOld (pc' := 9) (z := (0 : Int32)) d2_8 A (by rw [hz]; rfl) rfl ?_
  refine Wk.icN (pc' := 12) d2_9 (XT.ii_ne_f rfl) rfl ?_
  refine Wk.aloadN (pc' := 13) d2_12 rfl rfl rfl ?_
  refine Wk.aloadN (pc' := 14) d2_13 rfl rfl rfl ?_
  refine Wk.getF0 (pc' := 17) (i := 0) (j := 0) d2_14 (wd12 hw) rfl rfl rfl rfl ?_
  refine Wk.bipush (pc' := 19) (16 : Int32) d2_17 (by decide) rfl ?_
  refine Wk.iconst (pc' := 20) (2 : Int32) d2_19 (by decide) rfl ?_
  refine Wk.aloadN (pc' := 21) d2_20 rfl rfl rfl ?_
  refine Wk.getF0 (pc' := 24) (i := 0) (j := 1) d2_21 (wd28 hw) rfl rfl rfl rfl ?_
  refine Wk.imul (pc' := 25) d2_24 rfl ?_
  refine Wk.callS (pc' := 28) (argsL := [(.int (16 : Int32)), (.int (0 : Int32))]) (st := [(.ref no), (rf hB 0)]) d2_25 (wd30 hw) (wd31 hw) (wd32 hw) (wd33 hw) (by decide) (lenOf pd_0 rfl) (m_max l Z a0 hw hB [obj "com/example/dissect/dissect/ReachedRanges" ksRR [(.ref no), (.int (0 : Int32)), (.ref no), (.ref no), (.int (0 : Int32)), (rf hB 1), (rf hB 2)], ints [0, 0, 0, 0, 0, 0, 0, 0], ints [0, 0, 0, 0, 0, 0, 0, 0]] 16 0) rfl (Nat.le_of_ble_eq_true rfl) (Nat.le_of_ble_eq_true rfl) (Nat.le_of_ble_eq_true rfl) (Nat.le_of_ble_eq_true rfl) rfl rfl ?_
  rintro _ _ ⟨rfl, hH⟩; obtain rfl := hH.symm
  show WP l Z hB _ _ _ _ _ _ _ _ [obj "com/example/dissect/dissect/ReachedRanges" ksRR [(.ref no), (.int (0 : Int32)), (.ref no), (.ref no), (.int (0 : Int32)), (rf hB 1), (rf hB 2)], ints [0, 0, 0, 0, 0, 0, 0, 0], ints [0, 0, 0, 0, 0, 0, 0, 0]] _ _ [(.int (16 : Int32)), (.ref no), (rf hB 0)]
  refine Wk.callS (pc' := 31) (argsL := [(.ref no), (.int (16 : Int32))]) (st := [(rf hB 0)]) d2_28 (wd34 hw) (wd35 hw) (wd36 hw) (wd37 hw) (by decide) (lenOf pd_1 rfl) (m_copy0 l Z a0 hw hB [obj "com/example/dissect/dissect/ReachedRanges" ksRR [(.ref no), (.int (0 : Int32)), (.ref no), (.ref no), (.int (0 : Int32)), (rf hB 1), (rf hB 2)], ints [0, 0, 0, 0, 0, 0, 0, 0], ints [0, 0, 0, 0, 0, 0, 0, 0]] no cl sN A hz) rfl (Nat.le_of_ble_eq_true rfl) (Nat.le_of_ble_eq_true rfl) (Nat.le_of_ble_eq_true rfl) (Nat.le_of_ble_eq_true rfl) rfl rfl ?_
  rintro _ _ ⟨rfl, hH⟩; obtain rfl := hH.symm
  show WP l Z hB _ _ _ _ _ _ _ _ [obj "com/example/dissect/dissect/ReachedRanges" ksRR [(.ref no), (.int (0 : Int32)), (.ref no), (.ref no), (.int (0 : Int32)), (rf hB 1), (rf hB 2)], ints [0, 0, 0, 0, 0, 0, 0, 0], ints [0, 0, 0, 0, 0, 0, 0, 0], ints [0, 0, 0, 0, 0, 0, 0, 0, 0, 0, 0, 0, 0, 0, 0, 0]] _ _ [(rf hB 3), (rf hB 0)]
  refine Wk.putF0 (pc' := 34) (i := 0) (j := 0) (H' := [obj "com/example/dissect/dissect/ReachedRanges" ksRR [(rf hB 3), (.int (0 : Int32)), (.ref no), (.ref no), (.int (0 : Int32)), (rf hB 1), (rf hB 2)], ints [0, 0, 0, 0, 0, 0, 0, 0], ints [0, 0, 0, 0, 0, 0, 0, 0], ints [0, 0, 0, 0, 0, 0, 0, 0, 0, 0, 0, 0, 0, 0, 0, 0]]) (ty := (.array .int)) d2_31 (wd12 hw) rfl rfl (Nat.le_of_ble_eq_true rfl) (Or.inl (wd13 hw)) (wd2 hw) (by decide) rfl rfl rfl rfl ?_
  refine Wk.aloadN (pc' := 35) d2_34 rfl rfl rfl ?_
  refine Wk.getF0 (pc' := 38) (i := 0) (j := 0) d2_35 (wd12 hw) rfl rfl rfl rfl ?_
  refine Wk.aloadN (pc' := 39) d2_38 rfl rfl rfl ?_
  refine Wk.getF0 (pc' := 42) (i := 0) (j := 1) d2_39 (wd28 hw) rfl rfl rfl rfl ?_
  refine Wk.aloadN (pc' := 43) d2_42 rfl rfl rfl ?_
  refine Wk.getF0 (pc' := 46) (i := 0) (j := 4) d2_43 (wd45 hw) rfl rfl rfl rfl ?_
  refine Wk.iastoreG (pc' := 47) (i := 3) (H' := [obj "com/example/dissect/dissect/ReachedRanges" ksRR [(rf hB 3), (.int (0 : Int32)), (.ref no), (.ref no), (.int (0 : Int32)), (rf hB 1), (rf hB 2)], ints [0, 0, 0, 0, 0, 0, 0, 0], ints [0, 0, 0, 0, 0, 0, 0, 0], ints [0, 0, 0, 0, 0, 0, 0, 0, 0, 0, 0, 0, 0, 0, 0, 0]]) d2_46 rfl (by decide) rfl rfl ?_
  refine Wk.aloadN (pc' := 48) d2_47 rfl rfl rfl ?_
  refine Wk.aloadN (pc' := 49) d2_48 rfl rfl rfl ?_
  refine Wk.getF0 (pc' := 52) (i := 0) (j := 1) d2_49 (wd28 hw) rfl rfl rfl rfl ?_
  refine Wk.aloadN (pc' := 53) d2_52 rfl rfl rfl ?_
  refine Wk.getF0 (pc' := 56) (i := 0) (j := 1) d2_53 (wd28 hw) rfl rfl rfl rfl ?_
  refine Wk.callP (pc' := 59) (argsL := [(.int (0 : Int32)), (.int (0 : Int32))]) (st := []) d2_56 (wd47 hw) (wd48 hw) (Jvm.Kit.selects_private (by decide) (wd2 hw) (wd49 hw) (wd48 hw)) (wd49 hw) (wd3 hw) (wd50 hw) (by decide) (lenOf pd_2 rfl) (fun _ P => P.exa rfl) (m_app0 l Z a0 hw hB no cl sN A hz) rfl (Nat.le_of_ble_eq_true rfl) (Nat.le_of_ble_eq_true rfl) (Nat.le_of_ble_eq_true rfl) (Nat.le_of_ble_eq_true rfl) rfl rfl ?_
  rintro _ _ ⟨rfl, hH⟩; obtain rfl := hH.symm
  show WP l Z hB _ _ _ _ _ _ _ _ [obj "com/example/dissect/dissect/ReachedRanges" ksRR [(rf hB 3), (.int (0 : Int32)), (rf hB 4), (rf hB 5), (.int (1 : Int32)), (rf hB 1), (rf hB 2)], ints [0, 0, 0, 0, 0, 0, 0, 0], ints [0, 0, 0, 0, 0, 0, 0, 0], ints [0, 0, 0, 0, 0, 0, 0, 0, 0, 0, 0, 0, 0, 0, 0, 0], ints [0, 0, 0, 0, 0, 0, 0, 0, 0, 0, 0, 0, 0, 0, 0, 0], ints [0, 0, 0, 0, 0, 0, 0, 0, 0, 0, 0, 0, 0, 0, 0, 0]] _ _ []
  refine Wk.aloadN (pc' := 60) d2_59 rfl rfl rfl ?_
  refine Wk.dup (pc' := 61) d2_60 rfl rfl ?_
  refine Wk.getF0 (pc' := 64) (i := 0) (j := 1) d2_61 (wd28 hw) rfl rfl rfl rfl ?_
  refine Wk.iconst (pc' := 65) (1 : Int32) d2_64 (by decide) rfl ?_
  refine Wk.iadd (pc' := 66) d2_65 rfl ?_
  refine Wk.putF0 (pc' := 69) (i := 0) (j := 1) (H' := [obj "com/example/dissect/dissect/ReachedRanges" ksRR [(rf hB 3), (.int (1 : Int32)), (rf hB 4), (rf hB 5), (.int (1 : Int32)), (rf hB 1), (rf hB 2)], ints [0, 0, 0, 0, 0, 0, 0, 0], ints [0, 0, 0, 0, 0, 0, 0, 0], ints [0, 0, 0, 0, 0, 0, 0, 0, 0, 0, 0, 0, 0, 0, 0, 0], ints [0, 0, 0, 0, 0, 0, 0, 0, 0, 0, 0, 0, 0, 0, 0, 0], ints [0, 0, 0, 0, 0, 0, 0, 0, 0, 0, 0, 0, 0, 0, 0, 0]]) (ty := .int) d2_66 (wd28 hw) rfl rfl (Nat.le_of_ble_eq_true rfl) (Or.inl (wd29 hw)) (wd2 hw) (by decide) rfl rfl rfl rfl ?_
  exact Wk.vret d2_69 rfl (Nat.le_of_ble_eq_true rfl) (Nat.le_of_ble_eq_true rfl) ⟨rfl, rfl⟩
def Fm_app (mem : Int32) (rg : Int32) (mL : List Int32) (mH : List Int32) (fr : List Int32) (lo : List Int32) (hi : List Int32) (x : Int32) (z : Int32) : Option (List Int32 × List Int32 × Int32) :=
    if rg = (lo.length.toInt32) then (none) else ((Wk.sI lo rg x).bind fun l1 =>
    (Wk.sI hi rg z).bind fun l2 =>
    some (l1, l2, (rg + (1 : Int32))))
set_option maxRecDepth 65536 in
set_option maxHeartbeats 40000000 in
theorem m_app (l : Launch) (Z : State) (a0 : Array Value) (hw : ∀ d ∈ tables_1, d.before a0 Z = true) (hB : Heap)  (mem : Int32) (rg : Int32) (mL : List Int32) (mH : List Int32) (fr : List Int32) (lo : List Int32) (hi : List Int32) (x : Int32) (z : Int32) (out : List Int32 × List Int32 × Int32) (hM : Fm_app mem rg mL mH fr lo hi x z = some out) : Ctr l Z hB ({ cls := "com/example/dissect/dissect/ReachedRanges", name := "append", desc := "(II)V" } : Jvm.MethodName) prog_101_method_6_code 4 none [] ({ frames := 0, cells := 0, slots := 0, locals := 0 } : Room) #[(rf hB 0), (.int x), (.int z)] [obj "com/example/dissect/dissect/ReachedRanges" ksRR [(rf hB 3), (.int mem), (rf hB 4), (rf hB 5), (.int rg), (rf hB 1), (rf hB 2)], ints mL, ints mH, ints fr, ints lo, ints hi] (fun v H' => v = none ∧ H' = [obj "com/example/dissect/dissect/ReachedRanges" ksRR [(rf hB 3), (.int mem), (rf hB 4), (rf hB 5), (.int out.2.2), (rf hB 1), (rf hB 2)], ints mL, ints mH, ints fr, ints out.1, ints out.2.1]) := by
  refine Wk.ctr pn_4 (Ls := #[.val (rf hB 0), .val (.int x), .val (.int z), .unset]) (fun m => by first | rfl | (simp [entryFrame, mkF, argsToLocals, Value.category]; done)) ?_
  simp only [Fm_app] at hM
  refine Wk.aloadN (pc' := 1) d6_0 rfl rfl rfl ?_
  refine Wk.getF0 (pc' := 4) (i := 0) (j := 4) d6_1 (wd45 hw) rfl rfl rfl rfl ?_
  refine Wk.aloadN (pc' := 5) d6_4 rfl rfl rfl ?_
  refine Wk.getF0 (pc' := 8) (i := 0) (j := 2) d6_5 (wd14 hw) rfl rfl rfl rfl ?_
  refine Wk.arrLen (pc' := 9) (i := 4) (z := (lo.length.toInt32)) d6_8 rfl (by rw [List.length_map]) rfl ?_
  by_cases hc1 : rg = (lo.length.toInt32)
  ·
    rw [if_pos hc1] at hM
    cases hM
  ·
    rw [if_neg hc1] at hM
    refine Wk.icY (pc' := 48) d6_9 (XT.ii_ne_t hc1) (by decide) (by decide) ?_
    refine Wk.aloadN (pc' := 49) d6_48 rfl rfl rfl ?_
    refine Wk.getF0 (pc' := 52) (i := 0) (j := 2) d6_49 (wd14 hw) rfl rfl rfl rfl ?_
    refine Wk.aloadN (pc' := 53) d6_52 rfl rfl rfl ?_
    refine Wk.getF0 (pc' := 56) (i := 0) (j := 4) d6_53 (wd45 hw) rfl rfl rfl rfl ?_
    refine Wk.iloadN (pc' := 57) d6_56 rfl rfl ?_
    obtain ⟨l1, el1, hM⟩ := Option.bind_eq_some_iff.mp hM
    refine Wk.iastoreG (pc' := 58) (i := 4) (H' := [obj "com/example/dissect/dissect/ReachedRanges" ksRR [(rf hB 3), (.int mem), (rf hB 4), (rf hB 5), (.int rg), (rf hB 1), (rf hB 2)], ints mL, ints mH, ints fr, ints l1, ints hi]) d6_57 rfl el1 rfl rfl ?_
    refine Wk.aloadN (pc' := 59) d6_58 rfl rfl rfl ?_
    refine Wk.getF0 (pc' := 62) (i := 0) (j := 3) d6_59 (wd16 hw) rfl rfl rfl rfl ?_
    refine Wk.aloadN (pc' := 63) d6_62 rfl rfl rfl ?_
    refine Wk.getF0 (pc' := 66) (i := 0) (j := 4) d6_63 (wd45 hw) rfl rfl rfl rfl ?_
    refine Wk.iloadN (pc' := 67) d6_66 rfl rfl ?_
    obtain ⟨l2, el2, hM⟩ := Option.bind_eq_some_iff.mp hM
    refine Wk.iastoreG (pc' := 68) (i := 5) (H' := [obj "com/example/dissect/dissect/ReachedRanges" ksRR [(rf hB 3), (.int mem), (rf hB 4), (rf hB 5), (.int rg), (rf hB 1), (rf hB 2)], ints mL, ints mH, ints fr, ints l1, ints l2]) d6_67 rfl el2 rfl rfl ?_
    refine Wk.aloadN (pc' := 69) d6_68 rfl rfl rfl ?_
    refine Wk.dup (pc' := 70) d6_69 rfl rfl ?_
    refine Wk.getF0 (pc' := 73) (i := 0) (j := 4) d6_70 (wd45 hw) rfl rfl rfl rfl ?_
    refine Wk.iconst (pc' := 74) (1 : Int32) d6_73 (by decide) rfl ?_
    refine Wk.iadd (pc' := 75) d6_74 rfl ?_
    refine Wk.putF0 (pc' := 78) (i := 0) (j := 4) (H' := [obj "com/example/dissect/dissect/ReachedRanges" ksRR [(rf hB 3), (.int mem), (rf hB 4), (rf hB 5), (.int (rg + (1 : Int32))), (rf hB 1), (rf hB 2)], ints mL, ints mH, ints fr, ints l1, ints l2]) (ty := .int) d6_75 (wd45 hw) rfl rfl (Nat.le_of_ble_eq_true rfl) (Or.inl (wd46 hw)) (wd2 hw) (by decide) rfl rfl rfl rfl ?_
    obtain rfl := Option.some.inj hM
    exact Wk.vret d6_78 rfl (Nat.le_of_ble_eq_true rfl) (Nat.le_of_ble_eq_true rfl) ⟨rfl, rfl⟩
def Fm_add (mem : Int32) (rg : Int32) (mL : List Int32) (mH : List Int32) (fr : List Int32) (lo : List Int32) (hi : List Int32) : Option (List Int32 × List Int32 × List Int32 × Int32 × Int32) :=
    if mem = (fr.length.toInt32) then (none) else ((Wk.sI fr mem rg).bind fun l1 =>
    (Fm_app (mem) (rg) (mL) (mH) (l1) (lo) (hi) mem mem).bind fun q2 =>
    some (l1, q2.1, q2.2.1, q2.2.2, (mem + (1 : Int32))))
set_option maxRecDepth 65536 in
set_option maxHeartbeats 40000000 in
theorem m_add (l : Launch) (Z : State) (a0 : Array Value) (hw : ∀ d ∈ tables_1, d.before a0 Z = true) (hB : Heap)  (mem : Int32) (rg : Int32) (mL : List Int32) (mH : List Int32) (fr : List Int32) (lo : List Int32) (hi : List Int32) (out : List Int32 × List Int32 × List Int32 × Int32 × Int32) (hM : Fm_add mem rg mL mH fr lo hi = some out) : Ctr l Z hB ({ cls := "com/example/dissect/dissect/ReachedRanges", name := "add", desc := "()V" } : Jvm.MethodName) prog_101_method_2_code 1 none [] ({ frames := 1, cells := 0, slots := 0, locals := 15 } : Room) #[(rf hB 0)] [obj "com/example/dissect/dissect/ReachedRanges" ksRR [(rf hB 3), (.int mem), (rf hB 4), (rf hB 5), (.int rg), (rf hB 1), (rf hB 2)], ints mL, ints mH, ints fr, ints lo, ints hi] (fun v H' => v = none ∧ H' = [obj "com/example/dissect/dissect/ReachedRanges" ksRR [(rf hB 3), (.int out.2.2.2.2), (rf hB 4), (rf hB 5), (.int out.2.2.2.1), (rf hB 1), (rf hB 2)], ints mL, ints mH, ints out.1, ints out.2.1, ints out.2.2.1]) := by
  refine Wk.ctr pn_5 (Ls := #[.val (rf hB 0)]) (fun m => by first | rfl | (simp [entryFrame, mkF, argsToLocals, Value.category]; done)) ?_
  simp only [Fm_add] at hM
  refine Wk.aloadN (pc' := 1) d2_0 rfl rfl rfl ?_
  refine Wk.getF0 (pc' := 4) (i := 0) (j := 1) d2_1 (wd28 hw) rfl rfl rfl rfl ?_
  refine Wk.aloadN (pc' := 5) d2_4 rfl rfl rfl ?_
  refine Wk.getF0 (pc' := 8) (i := 0) (j := 0) d2_5 (wd12 hw) rfl rfl rfl rfl ?_
  refine Wk.arrLen (pc' := 9) (i := 3) (z := (fr.length.toInt32)) d2_8 rfl (by rw [List.length_map]) rfl ?_
  by_cases hc1 : mem = (fr.length.toInt32)
  ·
    rw [if_pos hc1] at hM
    cases hM
  ·
    rw [if_neg hc1] at hM
    refine Wk.icY (pc' := 34) d2_9 (XT.ii_ne_t hc1) (by decide) (by decide) ?_
    refine Wk.aloadN (pc' := 35) d2_34 rfl rfl rfl ?_
    refine Wk.getF0 (pc' := 38) (i := 0) (j := 0) d2_35 (wd12 hw) rfl rfl rfl rfl ?_
    refine Wk.aloadN (pc' := 39) d2_38 rfl rfl rfl ?_
    refine Wk.getF0 (pc' := 42) (i := 0) (j := 1) d2_39 (wd28 hw) rfl rfl rfl rfl ?_
    refine Wk.aloadN (pc' := 43) d2_42 rfl rfl rfl ?_
    refine Wk.getF0 (pc' := 46) (i := 0) (j := 4) d2_43 (wd45 hw) rfl rfl rfl rfl ?_
    obtain ⟨l1, el1, hM⟩ := Option.bind_eq_some_iff.mp hM
    refine Wk.iastoreG (pc' := 47) (i := 3) (H' := [obj "com/example/dissect/dissect/ReachedRanges" ksRR [(rf hB 3), (.int mem), (rf hB 4), (rf hB 5), (.int rg), (rf hB 1), (rf hB 2)], ints mL, ints mH, ints l1, ints lo, ints hi]) d2_46 rfl el1 rfl rfl ?_
    refine Wk.aloadN (pc' := 48) d2_47 rfl rfl rfl ?_
    refine Wk.aloadN (pc' := 49) d2_48 rfl rfl rfl ?_
    refine Wk.getF0 (pc' := 52) (i := 0) (j := 1) d2_49 (wd28 hw) rfl rfl rfl rfl ?_
    refine Wk.aloadN (pc' := 53) d2_52 rfl rfl rfl ?_
    refine Wk.getF0 (pc' := 56) (i := 0) (j := 1) d2_53 (wd28 hw) rfl rfl rfl rfl ?_
    obtain ⟨q2, eq2, hM⟩ := Option.bind_eq_some_iff.mp hM
    refine Wk.callP (pc' := 59) (argsL := [(.int mem), (.int mem)]) (st := []) d2_56 (wd47 hw) (wd48 hw) (Jvm.Kit.selects_private (by decide) (wd2 hw) (wd49 hw) (wd48 hw)) (wd49 hw) (wd3 hw) (wd50 hw) (by decide) (lenOf pd_2 rfl) (fun _ P => P.exa rfl) (m_app l Z a0 hw hB (mem) (rg) (mL) (mH) (l1) (lo) (hi) mem mem q2 eq2) rfl (Nat.le_of_ble_eq_true rfl) (Nat.le_of_ble_eq_true rfl) (Nat.le_of_ble_eq_true rfl) (Nat.le_of_ble_eq_true rfl) rfl rfl ?_
    rintro _ _ ⟨rfl, hH⟩; obtain rfl := hH.symm
    show WP l Z hB _ _ _ _ _ _ _ _ [obj "com/example/dissect/dissect/ReachedRanges" ksRR [(rf hB 3), (.int mem), (rf hB 4), (rf hB 5), (.int q2.2.2), (rf hB 1), (rf hB 2)], ints mL, ints mH, ints l1, ints q2.1, ints q2.2.1] _ _ []
    refine Wk.aloadN (pc' := 60) d2_59 rfl rfl rfl ?_
    refine Wk.dup (pc' := 61) d2_60 rfl rfl ?_
    refine Wk.getF0 (pc' := 64) (i := 0) (j := 1) d2_61 (wd28 hw) rfl rfl rfl rfl ?_
    refine Wk.iconst (pc' := 65) (1 : Int32) d2_64 (by decide) rfl ?_
    refine Wk.iadd (pc' := 66) d2_65 rfl ?_
    refine Wk.putF0 (pc' := 69) (i := 0) (j := 1) (H' := [obj "com/example/dissect/dissect/ReachedRanges" ksRR [(rf hB 3), (.int (mem + (1 : Int32))), (rf hB 4), (rf hB 5), (.int q2.2.2), (rf hB 1), (rf hB 2)], ints mL, ints mH, ints l1, ints q2.1, ints q2.2.1]) (ty := .int) d2_66 (wd28 hw) rfl rfl (Nat.le_of_ble_eq_true rfl) (Or.inl (wd29 hw)) (wd2 hw) (by decide) rfl rfl rfl rfl ?_
    obtain rfl := Option.some.inj hM
    exact Wk.vret d2_69 rfl (Nat.le_of_ble_eq_true rfl) (Nat.le_of_ble_eq_true rfl) ⟨rfl, rfl⟩
def Fm_l1 (me : Int32) (nw : Int32) (nf : Int32) (en : Int32) (mem : Int32) (rg : Int32) (fr : List Int32) (lo : List Int32) (hi : List Int32) : Nat → Int32 → Int32 → Int32 → List Int32 → List Int32 → Option (Int32 × Int32 × Int32 × List Int32 × List Int32)
  | 0, _, _, _, _, _ => none
  | n + 1, mg, own, oth, mL, mH =>
    if own < rg then (if oth = en then (if (0 : Int32) < mg then ((Wk.gI lo own).bind fun v1 =>
    (Wk.gI mH (mg - (1 : Int32))).bind fun v2 =>
    if (v2 + (1 : Int32)) < v1 then ((Wk.sI mL mg v1).bind fun l3 =>
    (Wk.gI hi own).bind fun v4 =>
    (Wk.sI mH mg v4).bind fun l5 =>
    Fm_l1 me nw nf en mem rg fr lo hi n ((mg + (1 : Int32))) ((own + (1 : Int32))) (oth) (l3) (l5)) else ((Wk.gI hi own).bind fun v6 =>
    (Wk.sI mH (mg - (1 : Int32)) (mxI v2 v6)).bind fun l7 =>
    Fm_l1 me nw nf en mem rg fr lo hi n (mg) ((own + (1 : Int32))) (oth) (mL) (l7))) else ((Wk.gI lo own).bind fun v8 =>
    (Wk.sI mL mg v8).bind fun l9 =>
    (Wk.gI hi own).bind fun v10 =>
    (Wk.sI mH mg v10).bind fun l11 =>
    Fm_l1 me nw nf en mem rg fr lo hi n ((mg + (1 : Int32))) ((own + (1 : Int32))) (oth) (l9) (l11))) else ((Wk.gI lo own).bind fun v12 =>
    (Wk.gI lo oth).bind fun v13 =>
    if v13 < v12 then (if (0 : Int32) < mg then ((Wk.gI mH (mg - (1 : Int32))).bind fun v14 =>
    if (v14 + (1 : Int32)) < v13 then ((Wk.sI mL mg v13).bind fun l15 =>
    (Wk.gI hi oth).bind fun v16 =>
    (Wk.sI mH mg v16).bind fun l17 =>
    Fm_l1 me nw nf en mem rg fr lo hi n ((mg + (1 : Int32))) (own) ((oth + (1 : Int32))) (l15) (l17)) else ((Wk.gI hi oth).bind fun v18 =>
    (Wk.sI mH (mg - (1 : Int32)) (mxI v14 v18)).bind fun l19 =>
    Fm_l1 me nw nf en mem rg fr lo hi n (mg) (own) ((oth + (1 : Int32))) (mL) (l19))) else ((Wk.sI mL mg v13).bind fun l20 =>
    (Wk.gI hi oth).bind fun v21 =>
    (Wk.sI mH mg v21).bind fun l22 =>
    Fm_l1 me nw nf en mem rg fr lo hi n ((mg + (1 : Int32))) (own) ((oth + (1 : Int32))) (l20) (l22))) else (if (0 : Int32) < mg then ((Wk.gI mH (mg - (1 : Int32))).bind fun v23 =>
    if (v23 + (1 : Int32)) < v12 then ((Wk.sI mL mg v12).bind fun l24 =>
    (Wk.gI hi own).bind fun v25 =>
    (Wk.sI mH mg v25).bind fun l26 =>
    Fm_l1 me nw nf en mem rg fr lo hi n ((mg + (1 : Int32))) ((own + (1 : Int32))) (oth) (l24) (l26)) else ((Wk.gI hi own).bind fun v27 =>
    (Wk.sI mH (mg - (1 : Int32)) (mxI v23 v27)).bind fun l28 =>
    Fm_l1 me nw nf en mem rg fr lo hi n (mg) ((own + (1 : Int32))) (oth) (mL) (l28))) else ((Wk.sI mL mg v12).bind fun l29 =>
    (Wk.gI hi own).bind fun v30 =>
    (Wk.sI mH mg v30).bind fun l31 =>
    Fm_l1 me nw nf en mem rg fr lo hi n ((mg + (1 : Int32))) ((own + (1 : Int32))) (oth) (l29) (l31))))) else (if oth < en then (if oth = en then (if (0 : Int32) < mg then ((Wk.gI lo own).bind fun v32 =>
    (Wk.gI mH (mg - (1 : Int32))).bind fun v33 =>
    if (v33 + (1 : Int32)) < v32 then ((Wk.sI mL mg v32).bind fun l34 =>
    (Wk.gI hi own).bind fun v35 =>
    (Wk.sI mH mg v35).bind fun l36 =>
    Fm_l1 me nw nf en mem rg fr lo hi n ((mg + (1 : Int32))) ((own + (1 : Int32))) (oth) (l34) (l36)) else ((Wk.gI hi own).bind fun v37 =>
    (Wk.sI mH (mg - (1 : Int32)) (mxI v33 v37)).bind fun l38 =>
    Fm_l1 me nw nf en mem rg fr lo hi n (mg) ((own + (1 : Int32))) (oth) (mL) (l38))) else ((Wk.gI lo own).bind fun v39 =>
    (Wk.sI mL mg v39).bind fun l40 =>
    (Wk.gI hi own).bind fun v41 =>
    (Wk.sI mH mg v41).bind fun l42 =>
    Fm_l1 me nw nf en mem rg fr lo hi n ((mg + (1 : Int32))) ((own + (1 : Int32))) (oth) (l40) (l42))) else (if (0 : Int32) < mg then ((Wk.gI lo oth).bind fun v43 =>
    (Wk.gI mH (mg - (1 : Int32))).bind fun v44 =>
    if (v44 + (1 : Int32)) < v43 then ((Wk.sI mL mg v43).bind fun l45 =>
    (Wk.gI hi oth).bind fun v46 =>
    (Wk.sI mH mg v46).bind fun l47 =>
    Fm_l1 me nw nf en mem rg fr lo hi n ((mg + (1 : Int32))) (own) ((oth + (1 : Int32))) (l45) (l47)) else ((Wk.gI hi oth).bind fun v48 =>
    (Wk.sI mH (mg - (1 : Int32)) (mxI v44 v48)).bind fun l49 =>
    Fm_l1 me nw nf en mem rg fr lo hi n (mg) (own) ((oth + (1 : Int32))) (mL) (l49))) else ((Wk.gI lo oth).bind fun v50 =>
    (Wk.sI mL mg v50).bind fun l51 =>
    (Wk.gI hi oth).bind fun v52 =>
    (Wk.sI mH mg v52).bind fun l53 =>
    Fm_l1 me nw nf en mem rg fr lo hi n ((mg + (1 : Int32))) (own) ((oth + (1 : Int32))) (l51) (l53)))) else (some (mg, own, oth, mL, mH)))
set_option maxRecDepth 65536 in
set_option maxHeartbeats 40000000 in
theorem m_l1 (l : Launch) (Z : State) (a0 : Array Value) (hw : ∀ d ∈ tables_1, d.before a0 Z = true) (hB : Heap) (me : Int32) (nw : Int32) (nf : Int32) (en : Int32) (mem : Int32) (rg : Int32) (fr : List Int32) (lo : List Int32) (hi : List Int32) (n1 sl : Nat) (Q : Option Value → List Rec → Prop) (hsl : sl ≤ 0) (hcl : 6 ≤ n1) : ∀ (n : Nat) (mg : Int32) (own : Int32) (oth : Int32) (mL : List Int32) (mH : List Int32) (s8 : Slot) (hs8 : s8 = .unset ∨ ∃ w, s8 = .val w ∧ w.category = 1) (s9 : Slot) (hs9 : s9 = .unset ∨ ∃ w, s9 = .val w ∧ w.category = 1) (out : Int32 × Int32 × Int32 × List Int32 × List Int32), Fm_l1 me nw nf en mem rg fr lo hi n mg own oth mL mH = some out → (∀ (s8 : Slot) (hs8 : s8 = .unset ∨ ∃ w, s8 = .val w ∧ w.category = 1) (s9 : Slot) (hs9 : s9 = .unset ∨ ∃ w, s9 = .val w ∧ w.category = 1), WP l Z hB ({ cls := "com/example/dissect/dissect/ReachedRanges", name := "reach", desc := "(I)V" } : Jvm.MethodName) prog_101_method_3_code 10 none ({ frames := 1, cells := 0, slots := 0, locals := 40 } : Room) n1 Q sl [obj "com/example/dissect/dissect/ReachedRanges" ksRR [(rf hB 3), (.int mem), (rf hB 4), (rf hB 5), (.int rg), (rf hB 1), (rf hB 2)], ints out.2.2.2.1, ints out.2.2.2.2, ints fr, ints lo, ints hi] 205 #[.val (rf hB 0), .val (.int me), .val (.int nw), .val (.int nf), .val (.int en), .val (.int out.1), .val (.int out.2.1), .val (.int out.2.2.1), s8, s9] []) → WP l Z hB ({ cls := "com/example/dissect/dissect/ReachedRanges", name := "reach", desc := "(I)V" } : Jvm.MethodName) prog_101_method_3_code 10 none ({ frames := 1, cells := 0, slots := 0, locals := 40 } : Room) n1 Q sl [obj "com/example/dissect/dissect/ReachedRanges" ksRR [(rf hB 3), (.int mem), (rf hB 4), (rf hB 5), (.int rg), (rf hB 1), (rf hB 2)], ints mL, ints mH, ints fr, ints lo, ints hi] 38 #[.val (rf hB 0), .val (.int me), .val (.int nw), .val (.int nf), .val (.int en), .val (.int mg), .val (.int own), .val (.int oth), s8, s9] [] := by
  intro n
  induction n with
  | zero => intro _ _ _ _ _ _ _ _ _ out hM; cases hM
  | succ n ih =>
    intro mg own oth mL mH s8 hs8 s9 hs9 out hM hk
    simp only [Fm_l1] at hM
    refine Wk.iload (pc' := 40) d8_38 rfl rfl ?_
    refine Wk.aloadN (pc' := 41) d8_40 rfl rfl rfl ?_
    refine Wk.getF0 (pc' := 44) (i := 0) (j := 4) d8_41 (wd45 hw) rfl rfl rfl rfl ?_
    by_cases hc1 : own < rg
    ·
      rw [if_pos hc1] at hM
      refine Wk.icY (pc' := 54) d8_44 (XT.ii_lt_t hc1) (by decide) (by decide) ?_
      refine Wk.iload (pc' := 56) d8_54 rfl rfl ?_
      refine Wk.iload (pc' := 58) d8_56 rfl rfl ?_
      by_cases hc2 : oth = en
      ·
        rw [if_pos hc2] at hM
        refine Wk.icY (pc' := 87) d8_58 (XT.ii_eq_t hc2) (by decide) (by decide) ?_
        refine Wk.iconst (pc' := 88) (1 : Int32) d8_87 (by decide) rfl ?_
        refine Wk.goTo (pc' := 92) d8_88 (by decide) (by decide) ?_
        refine Wk.istore (pc' := 94) (Ls' := #[.val (rf hB 0), .val (.int me), .val (.int nw), .val (.int nf), .val (.int en), .val (.int mg), .val (.int own), .val (.int oth), .val (.int (1 : Int32)), s9]) d8_92 (XS.store1 rfl hs8 rfl) rfl ?_
        refine Wk.iload (pc' := 96) d8_94 rfl rfl ?_
        refine Wk.ifN (pc' := 99) d8_96 (XT.i0_eq_f (by decide)) rfl ?_
        refine Wk.iload (pc' := 101) d8_99 rfl rfl ?_
        refine Wk.iinc (pc' := 104) (Ls' := #[.val (rf hB 0), .val (.int me), .val (.int nw), .val (.int nf), .val (.int en), .val (.int mg), .val (.int (own + (1 : Int32))), .val (.int oth), .val (.int (1 : Int32)), s9]) (own + (1 : Int32)) d8_101 rfl (by rfl) rfl rfl ?_
        refine Wk.goTo (pc' := 112) d8_104 (by decide) (by decide) ?_
        refine Wk.istore (pc' := 114) (Ls' := #[.val (rf hB 0), .val (.int me), .val (.int nw), .val (.int nf), .val (.int en), .val (.int mg), .val (.int (own + (1 : Int32))), .val (.int oth), .val (.int (1 : Int32)), .val (.int own)]) d8_112 (XS.store1 rfl hs9 rfl) rfl ?_
        refine Wk.iload (pc' := 116) d8_114 rfl rfl ?_
        by_cases hc3 : (0 : Int32) < mg
        ·
          rw [if_pos hc3] at hM
          refine Wk.ifN (pc' := 119) d8_116 (XT.i0_le_f hc3) rfl ?_
          refine Wk.aloadN (pc' := 120) d8_119 rfl rfl rfl ?_
          refine Wk.getF0 (pc' := 123) (i := 0) (j := 2) d8_120 (wd14 hw) rfl rfl rfl rfl ?_
          refine Wk.iload (pc' := 125) d8_123 rfl rfl ?_
          obtain ⟨v1, ev1, hM⟩ := Option.bind_eq_some_iff.mp hM
          refine Wk.ialoadG (pc' := 126) (i := 4) d8_125 rfl ev1 rfl ?_
          refine Wk.aloadN (pc' := 127) d8_126 rfl rfl rfl ?_
          refine Wk.getF0 (pc' := 130) (i := 0) (j := 6) d8_127 (wd21 hw) rfl rfl rfl rfl ?_
          refine Wk.iload (pc' := 132) d8_130 rfl rfl ?_
          refine Wk.iconst (pc' := 133) (1 : Int32) d8_132 (by decide) rfl ?_
          refine Wk.isub (pc' := 134) d8_133 rfl ?_
          obtain ⟨v2, ev2, hM⟩ := Option.bind_eq_some_iff.mp hM
          refine Wk.ialoadG (pc' := 135) (i := 2) d8_134 rfl ev2 rfl ?_
          refine Wk.iconst (pc' := 136) (1 : Int32) d8_135 (by decide) rfl ?_
          refine Wk.iadd (pc' := 137) d8_136 rfl ?_
          by_cases hc4 : (v2 + (1 : Int32)) < v1
          ·
            rw [if_pos hc4] at hM
            refine Wk.icY (pc' := 171) d8_137 (XT.ii_gt_t hc4) (by decide) (by decide) ?_
            refine Wk.aloadN (pc' := 172) d8_171 rfl rfl rfl ?_
            refine Wk.getF0 (pc' := 175) (i := 0) (j := 5) d8_172 (wd19 hw) rfl rfl rfl rfl ?_
            refine Wk.iload (pc' := 177) d8_175 rfl rfl ?_
            refine Wk.aloadN (pc' := 178) d8_177 rfl rfl rfl ?_
            refine Wk.getF0 (pc' := 181) (i := 0) (j := 2) d8_178 (wd14 hw) rfl rfl rfl rfl ?_
            refine Wk.iload (pc' := 183) d8_181 rfl rfl ?_
            refine Wk.ialoadG (pc' := 184) (i := 4) d8_183 rfl ev1 rfl ?_
            obtain ⟨l3, el3, hM⟩ := Option.bind_eq_some_iff.mp hM
            refine Wk.iastoreG (pc' := 185) (i := 1) (H' := [obj "com/example/dissect/dissect/ReachedRanges" ksRR [(rf hB 3), (.int mem), (rf hB 4), (rf hB 5), (.int rg), (rf hB 1), (rf hB 2)], ints l3, ints mH, ints fr, ints lo, ints hi]) d8_184 rfl el3 rfl rfl ?_
            refine Wk.aloadN (pc' := 186) d8_185 rfl rfl rfl ?_
            refine Wk.getF0 (pc' := 189) (i := 0) (j := 6) d8_186 (wd21 hw) rfl rfl rfl rfl ?_
            refine Wk.iload (pc' := 191) d8_189 rfl rfl ?_
            refine Wk.aloadN (pc' := 192) d8_191 rfl rfl rfl ?_
            refine Wk.getF0 (pc' := 195) (i := 0) (j := 3) d8_192 (wd16 hw) rfl rfl rfl rfl ?_
            refine Wk.iload (pc' := 197) d8_195 rfl rfl ?_
            obtain ⟨v4, ev4, hM⟩ := Option.bind_eq_some_iff.mp hM
            refine Wk.ialoadG (pc' := 198) (i := 5) d8_197 rfl ev4 rfl ?_
            obtain ⟨l5, el5, hM⟩ := Option.bind_eq_some_iff.mp hM
            refine Wk.iastoreG (pc' := 199) (i := 2) (H' := [obj "com/example/dissect/dissect/ReachedRanges" ksRR [(rf hB 3), (.int mem), (rf hB 4), (rf hB 5), (.int rg), (rf hB 1), (rf hB 2)], ints l3, ints l5, ints fr, ints lo, ints hi]) d8_198 rfl el5 rfl rfl ?_
            refine Wk.iinc (pc' := 202) (Ls' := #[.val (rf hB 0), .val (.int me), .val (.int nw), .val (.int nf), .val (.int en), .val (.int (mg + (1 : Int32))), .val (.int (own + (1 : Int32))), .val (.int oth), .val (.int (1 : Int32)), .val (.int own)]) (mg + (1 : Int32)) d8_199 rfl (by rfl) rfl rfl ?_
            refine Wk.goTo (pc' := 38) d8_202 (by decide) (by decide) ?_
            exact ih ((mg + (1 : Int32))) ((own + (1 : Int32))) (oth) (l3) (l5) (.val (.int (1 : Int32))) (Or.inr ⟨_, rfl, rfl⟩) (.val (.int own)) (Or.inr ⟨_, rfl, rfl⟩) out hM hk
          ·
            rw [if_neg hc4] at hM
            refine Wk.icN (pc' := 140) d8_137 (XT.ii_gt_f hc4) rfl ?_
            refine Wk.aloadN (pc' := 141) d8_140 rfl rfl rfl ?_
            refine Wk.getF0 (pc' := 144) (i := 0) (j := 6) d8_141 (wd21 hw) rfl rfl rfl rfl ?_
            refine Wk.iload (pc' := 146) d8_144 rfl rfl ?_
            refine Wk.iconst (pc' := 147) (1 : Int32) d8_146 (by decide) rfl ?_
            refine Wk.isub (pc' := 148) d8_147 rfl ?_
            refine Wk.aloadN (pc' := 149) d8_148 rfl rfl rfl ?_
            refine Wk.getF0 (pc' := 152) (i := 0) (j := 6) d8_149 (wd21 hw) rfl rfl rfl rfl ?_
            refine Wk.iload (pc' := 154) d8_152 rfl rfl ?_
            refine Wk.iconst (pc' := 155) (1 : Int32) d8_154 (by decide) rfl ?_
            refine Wk.isub (pc' := 156) d8_155 rfl ?_
            refine Wk.ialoadG (pc' := 157) (i := 2) d8_156 rfl ev2 rfl ?_
            refine Wk.aloadN (pc' := 158) d8_157 rfl rfl rfl ?_
            refine Wk.getF0 (pc' := 161) (i := 0) (j := 3) d8_158 (wd16 hw) rfl rfl rfl rfl ?_
            refine Wk.iload (pc' := 163) d8_161 rfl rfl ?_
            obtain ⟨v6, ev6, hM⟩ := Option.bind_eq_some_iff.mp hM
            refine Wk.ialoadG (pc' := 164) (i := 5) d8_163 rfl ev6 rfl ?_
            refine Wk.callS (pc' := 167) (argsL := [(.int v2), (.int v6)]) (st := [(.int (mg - (1 : Int32))), (rf hB 2)]) d8_164 (wd30 hw) (wd31 hw) (wd32 hw) (wd33 hw) (by decide) (lenOf pd_0 rfl) (m_max l Z a0 hw hB [obj "com/example/dissect/dissect/ReachedRanges" ksRR [(rf hB 3), (.int mem), (rf hB 4), (rf hB 5), (.int rg), (rf hB 1), (rf hB 2)], ints mL, ints mH, ints fr, ints lo, ints hi] v2 v6) rfl (Nat.le_of_ble_eq_true rfl) (Nat.le_of_ble_eq_true rfl) hcl (by first | exact hsl | omega) rfl rfl ?_
            rintro _ _ ⟨rfl, hH⟩; obtain rfl := hH.symm
            show WP l Z hB _ _ _ _ _ _ _ _ [obj "com/example/dissect/dissect/ReachedRanges" ksRR [(rf hB 3), (.int mem), (rf hB 4), (rf hB 5), (.int rg), (rf hB 1), (rf hB 2)], ints mL, ints mH, ints fr, ints lo, ints hi] _ _ [(.int (mxI v2 v6)), (.int (mg - (1 : Int32))), (rf hB 2)]
            obtain ⟨l7, el7, hM⟩ := Option.bind_eq_some_iff.mp hM
            refine Wk.iastoreG (pc' := 168) (i := 2) (H' := [obj "com/example/dissect/dissect/ReachedRanges" ksRR [(rf hB 3), (.int mem), (rf hB 4), (rf hB 5), (.int rg), (rf hB 1), (rf hB 2)], ints mL, ints l7, ints fr, ints lo, ints hi]) d8_167 rfl el7 rfl rfl ?_
            refine Wk.goTo (pc' := 202) d8_168 (by decide) (by decide) ?_
            refine Wk.goTo (pc' := 38) d8_202 (by decide) (by decide) ?_
            exact ih (mg) ((own + (1 : Int32))) (oth) (mL) (l7) (.val (.int (1 : Int32))) (Or.inr ⟨_, rfl, rfl⟩) (.val (.int own)) (Or.inr ⟨_, rfl, rfl⟩) out hM hk
        ·
          rw [if_neg hc3] at hM
          refine Wk.ifY (pc' := 171) d8_116 (XT.i0_le_t hc3) (by decide) (by decide) ?_
          refine Wk.aloadN (pc' := 172) d8_171 rfl rfl rfl ?_
          refine Wk.getF0 (pc' := 175) (i := 0) (j := 5) d8_172 (wd19 hw) rfl rfl rfl rfl ?_
          refine Wk.iload (pc' := 177) d8_175 rfl rfl ?_
          refine Wk.aloadN (pc' := 178) d8_177 rfl rfl rfl ?_
          refine Wk.getF0 (pc' := 181) (i := 0) (j := 2) d8_178 (wd14 hw) rfl rfl rfl rfl ?_
          refine Wk.iload (pc' := 183) d8_181 rfl rfl ?_
          obtain ⟨v8, ev8, hM⟩ := Option.bind_eq_some_iff.mp hM
          refine Wk.ialoadG (pc' := 184) (i := 4) d8_183 rfl ev8 rfl ?_
          obtain ⟨l9, el9, hM⟩ := Option.bind_eq_some_iff.mp hM
          refine Wk.iastoreG (pc' := 185) (i := 1) (H' := [obj "com/example/dissect/dissect/ReachedRanges" ksRR [(rf hB 3), (.int mem), (rf hB 4), (rf hB 5), (.int rg), (rf hB 1), (rf hB 2)], ints l9, ints mH, ints fr, ints lo, ints hi]) d8_184 rfl el9 rfl rfl ?_
          refine Wk.aloadN (pc' := 186) d8_185 rfl rfl rfl ?_
          refine Wk.getF0 (pc' := 189) (i := 0) (j := 6) d8_186 (wd21 hw) rfl rfl rfl rfl ?_
          refine Wk.iload (pc' := 191) d8_189 rfl rfl ?_
          refine Wk.aloadN (pc' := 192) d8_191 rfl rfl rfl ?_
          refine Wk.getF0 (pc' := 195) (i := 0) (j := 3) d8_192 (wd16 hw) rfl rfl rfl rfl ?_
          refine Wk.iload (pc' := 197) d8_195 rfl rfl ?_
          obtain ⟨v10, ev10, hM⟩ := Option.bind_eq_some_iff.mp hM
          refine Wk.ialoadG (pc' := 198) (i := 5) d8_197 rfl ev10 rfl ?_
          obtain ⟨l11, el11, hM⟩ := Option.bind_eq_some_iff.mp hM
          refine Wk.iastoreG (pc' := 199) (i := 2) (H' := [obj "com/example/dissect/dissect/ReachedRanges" ksRR [(rf hB 3), (.int mem), (rf hB 4), (rf hB 5), (.int rg), (rf hB 1), (rf hB 2)], ints l9, ints l11, ints fr, ints lo, ints hi]) d8_198 rfl el11 rfl rfl ?_
          refine Wk.iinc (pc' := 202) (Ls' := #[.val (rf hB 0), .val (.int me), .val (.int nw), .val (.int nf), .val (.int en), .val (.int (mg + (1 : Int32))), .val (.int (own + (1 : Int32))), .val (.int oth), .val (.int (1 : Int32)), .val (.int own)]) (mg + (1 : Int32)) d8_199 rfl (by rfl) rfl rfl ?_
          refine Wk.goTo (pc' := 38) d8_202 (by decide) (by decide) ?_
          exact ih ((mg + (1 : Int32))) ((own + (1 : Int32))) (oth) (l9) (l11) (.val (.int (1 : Int32))) (Or.inr ⟨_, rfl, rfl⟩) (.val (.int own)) (Or.inr ⟨_, rfl, rfl⟩) out hM hk
      ·
        rw [if_neg hc2] at hM
        refine Wk.icN (pc' := 61) d8_58 (XT.ii_eq_f hc2) rfl ?_
        refine Wk.iload (pc' := 63) d8_61 rfl rfl ?_
        refine Wk.aloadN (pc' := 64) d8_63 rfl rfl rfl ?_
        refine Wk.getF0 (pc' := 67) (i := 0) (j := 4) d8_64 (wd45 hw) rfl rfl rfl rfl ?_
        refine Wk.icN (pc' := 70) d8_67 (XT.ii_ge_f hc1) rfl ?_
        refine Wk.aloadN (pc' := 71) d8_70 rfl rfl rfl ?_
        refine Wk.getF0 (pc' := 74) (i := 0) (j := 2) d8_71 (wd14 hw) rfl rfl rfl rfl ?_
        refine Wk.iload (pc' := 76) d8_74 rfl rfl ?_
        obtain ⟨v12, ev12, hM⟩ := Option.bind_eq_some_iff.mp hM
        refine Wk.ialoadG (pc' := 77) (i := 4) d8_76 rfl ev12 rfl ?_
        refine Wk.aloadN (pc' := 78) d8_77 rfl rfl rfl ?_
        refine Wk.getF0 (pc' := 81) (i := 0) (j := 2) d8_78 (wd14 hw) rfl rfl rfl rfl ?_
        refine Wk.iload (pc' := 83) d8_81 rfl rfl ?_
        obtain ⟨v13, ev13, hM⟩ := Option.bind_eq_some_iff.mp hM
        refine Wk.ialoadG (pc' := 84) (i := 4) d8_83 rfl ev13 rfl ?_
        by_cases hc5 : v13 < v12
        ·
          rw [if_pos hc5] at hM
          refine Wk.icY (pc' := 91) d8_84 (XT.ii_gt_t hc5) (by decide) (by decide) ?_
          refine Wk.iconst (pc' := 92) (0 : Int32) d8_91 (by decide) rfl ?_
          refine Wk.istore (pc' := 94) (Ls' := #[.val (rf hB 0), .val (.int me), .val (.int nw), .val (.int nf), .val (.int en), .val (.int mg), .val (.int own), .val (.int oth), .val (.int (0 : Int32)), s9]) d8_92 (XS.store1 rfl hs8 rfl) rfl ?_
          refine Wk.iload (pc' := 96) d8_94 rfl rfl ?_
          refine Wk.ifY (pc' := 107) d8_96 (XT.i0_eq_t rfl) (by decide) (by decide) ?_
          refine Wk.iload (pc' := 109) d8_107 rfl rfl ?_
          refine Wk.iinc (pc' := 112) (Ls' := #[.val (rf hB 0), .val (.int me), .val (.int nw), .val (.int nf), .val (.int en), .val (.int mg), .val (.int own), .val (.int (oth + (1 : Int32))), .val (.int (0 : Int32)), s9]) (oth + (1 : Int32)) d8_109 rfl (by rfl) rfl rfl ?_
          refine Wk.istore (pc' := 114) (Ls' := #[.val (rf hB 0), .val (.int me), .val (.int nw), .val (.int nf), .val (.int en), .val (.int mg), .val (.int own), .val (.int (oth + (1 : Int32))), .val (.int (0 : Int32)), .val (.int oth)]) d8_112 (XS.store1 rfl hs9 rfl) rfl ?_
          refine Wk.iload (pc' := 116) d8_114 rfl rfl ?_
          by_cases hc6 : (0 : Int32) < mg
          ·
            rw [if_pos hc6] at hM
            refine Wk.ifN (pc' := 119) d8_116 (XT.i0_le_f hc6) rfl ?_
            refine Wk.aloadN (pc' := 120) d8_119 rfl rfl rfl ?_
            refine Wk.getF0 (pc' := 123) (i := 0) (j := 2) d8_120 (wd14 hw) rfl rfl rfl rfl ?_
            refine Wk.iload (pc' := 125) d8_123 rfl rfl ?_
            refine Wk.ialoadG (pc' := 126) (i := 4) d8_125 rfl ev13 rfl ?_
            refine Wk.aloadN (pc' := 127) d8_126 rfl rfl rfl ?_
            refine Wk.getF0 (pc' := 130) (i := 0) (j := 6) d8_127 (wd21 hw) rfl rfl rfl rfl ?_
            refine Wk.iload (pc' := 132) d8_130 rfl rfl ?_
            refine Wk.iconst (pc' := 133) (1 : Int32) d8_132 (by decide) rfl ?_
            refine Wk.isub (pc' := 134) d8_133 rfl ?_
            obtain ⟨v14, ev14, hM⟩ := Option.bind_eq_some_iff.mp hM
            refine Wk.ialoadG (pc' := 135) (i := 2) d8_134 rfl ev14 rfl ?_
            refine Wk.iconst (pc' := 136) (1 : Int32) d8_135 (by decide) rfl ?_
            refine Wk.iadd (pc' := 137) d8_136 rfl ?_
            by_cases hc7 : (v14 + (1 : Int32)) < v13
            ·
              rw [if_pos hc7] at hM
              refine Wk.icY (pc' := 171) d8_137 (XT.ii_gt_t hc7) (by decide) (by decide) ?_
              refine Wk.aloadN (pc' := 172) d8_171 rfl rfl rfl ?_
              refine Wk.getF0 (pc' := 175) (i := 0) (j := 5) d8_172 (wd19 hw) rfl rfl rfl rfl ?_
              refine Wk.iload (pc' := 177) d8_175 rfl rfl ?_
              refine Wk.aloadN (pc' := 178) d8_177 rfl rfl rfl ?_
              refine Wk.getF0 (pc' := 181) (i := 0) (j := 2) d8_178 (wd14 hw) rfl rfl rfl rfl ?_
              refine Wk.iload (pc' := 183) d8_181 rfl rfl ?_
              refine Wk.ialoadG (pc' := 184) (i := 4) d8_183 rfl ev13 rfl ?_
              obtain ⟨l15, el15, hM⟩ := Option.bind_eq_some_iff.mp hM
              refine Wk.iastoreG (pc' := 185) (i := 1) (H' := [obj "com/example/dissect/dissect/ReachedRanges" ksRR [(rf hB 3), (.int mem), (rf hB 4), (rf hB 5), (.int rg), (rf hB 1), (rf hB 2)], ints l15, ints mH, ints fr, ints lo, ints hi]) d8_184 rfl el15 rfl rfl ?_
              refine Wk.aloadN (pc' := 186) d8_185 rfl rfl rfl ?_
              refine Wk.getF0 (pc' := 189) (i := 0) (j := 6) d8_186 (wd21 hw) rfl rfl rfl rfl ?_
              refine Wk.iload (pc' := 191) d8_189 rfl rfl ?_
              refine Wk.aloadN (pc' := 192) d8_191 rfl rfl rfl ?_
              refine Wk.getF0 (pc' := 195) (i := 0) (j := 3) d8_192 (wd16 hw) rfl rfl rfl rfl ?_
              refine Wk.iload (pc' := 197) d8_195 rfl rfl ?_
              obtain ⟨v16, ev16, hM⟩ := Option.bind_eq_some_iff.mp hM
              refine Wk.ialoadG (pc' := 198) (i := 5) d8_197 rfl ev16 rfl ?_
              obtain ⟨l17, el17, hM⟩ := Option.bind_eq_some_iff.mp hM
              refine Wk.iastoreG (pc' := 199) (i := 2) (H' := [obj "com/example/dissect/dissect/ReachedRanges" ksRR [(rf hB 3), (.int mem), (rf hB 4), (rf hB 5), (.int rg), (rf hB 1), (rf hB 2)], ints l15, ints l17, ints fr, ints lo, ints hi]) d8_198 rfl el17 rfl rfl ?_
              refine Wk.iinc (pc' := 202) (Ls' := #[.val (rf hB 0), .val (.int me), .val (.int nw), .val (.int nf), .val (.int en), .val (.int (mg + (1 : Int32))), .val (.int own), .val (.int (oth + (1 : Int32))), .val (.int (0 : Int32)), .val (.int oth)]) (mg + (1 : Int32)) d8_199 rfl (by rfl) rfl rfl ?_
              refine Wk.goTo (pc' := 38) d8_202 (by decide) (by decide) ?_
              exact ih ((mg + (1 : Int32))) (own) ((oth + (1 : Int32))) (l15) (l17) (.val (.int (0 : Int32))) (Or.inr ⟨_, rfl, rfl⟩) (.val (.int oth)) (Or.inr ⟨_, rfl, rfl⟩) out hM hk
            ·
              rw [if_neg hc7] at hM
              refine Wk.icN (pc' := 140) d8_137 (XT.ii_gt_f hc7) rfl ?_
              refine Wk.aloadN (pc' := 141) d8_140 rfl rfl rfl ?_
              refine Wk.getF0 (pc' := 144) (i := 0) (j := 6) d8_141 (wd21 hw) rfl rfl rfl rfl ?_
              refine Wk.iload (pc' := 146) d8_144 rfl rfl ?_
              refine Wk.iconst (pc' := 147) (1 : Int32) d8_146 (by decide) rfl ?_
              refine Wk.isub (pc' := 148) d8_147 rfl ?_
              refine Wk.aloadN (pc' := 149) d8_148 rfl rfl rfl ?_
              refine Wk.getF0 (pc' := 152) (i := 0) (j := 6) d8_149 (wd21 hw) rfl rfl rfl rfl ?_
              refine Wk.iload (pc' := 154) d8_152 rfl rfl ?_
              refine Wk.iconst (pc' := 155) (1 : Int32) d8_154 (by decide) rfl ?_
              refine Wk.isub (pc' := 156) d8_155 rfl ?_
              refine Wk.ialoadG (pc' := 157) (i := 2) d8_156 rfl ev14 rfl ?_
              refine Wk.aloadN (pc' := 158) d8_157 rfl rfl rfl ?_
              refine Wk.getF0 (pc' := 161) (i := 0) (j := 3) d8_158 (wd16 hw) rfl rfl rfl rfl ?_
              refine Wk.iload (pc' := 163) d8_161 rfl rfl ?_
              obtain ⟨v18, ev18, hM⟩ := Option.bind_eq_some_iff.mp hM
              refine Wk.ialoadG (pc' := 164) (i := 5) d8_163 rfl ev18 rfl ?_
              refine Wk.callS (pc' := 167) (argsL := [(.int v14), (.int v18)]) (st := [(.int (mg - (1 : Int32))), (rf hB 2)]) d8_164 (wd30 hw) (wd31 hw) (wd32 hw) (wd33 hw) (by decide) (lenOf pd_0 rfl) (m_max l Z a0 hw hB [obj "com/example/dissect/dissect/ReachedRanges" ksRR [(rf hB 3), (.int mem), (rf hB 4), (rf hB 5), (.int rg), (rf hB 1), (rf hB 2)], ints mL, ints mH, ints fr, ints lo, ints hi] v14 v18) rfl (Nat.le_of_ble_eq_true rfl) (Nat.le_of_ble_eq_true rfl) hcl (by first | exact hsl | omega) rfl rfl ?_
              rintro _ _ ⟨rfl, hH⟩; obtain rfl := hH.symm
              show WP l Z hB _ _ _ _ _ _ _ _ [obj "com/example/dissect/dissect/ReachedRanges" ksRR [(rf hB 3), (.int mem), (rf hB 4), (rf hB 5), (.int rg), (rf hB 1), (rf hB 2)], ints mL, ints mH, ints fr, ints lo, ints hi] _ _ [(.int (mxI v14 v18)), (.int (mg - (1 : Int32))), (rf hB 2)]
              obtain ⟨l19, el19, hM⟩ := Option.bind_eq_some_iff.mp hM
              refine Wk.iastoreG (pc' := 168) (i := 2) (H' := [obj "com/example/dissect/dissect/ReachedRanges" ksRR [(rf hB 3), (.int mem), (rf hB 4), (rf hB 5), (.int rg), (rf hB 1), (rf hB 2)], ints mL, ints l19, ints fr, ints lo, ints hi]) d8_167 rfl el19 rfl rfl ?_
              refine Wk.goTo (pc' := 202) d8_168 (by decide) (by decide) ?_
              refine Wk.goTo (pc' := 38) d8_202 (by decide) (by decide) ?_
              exact ih (mg) (own) ((oth + (1 : Int32))) (mL) (l19) (.val (.int (0 : Int32))) (Or.inr ⟨_, rfl, rfl⟩) (.val (.int oth)) (Or.inr ⟨_, rfl, rfl⟩) out hM hk
          ·
            rw [if_neg hc6] at hM
            refine Wk.ifY (pc' := 171) d8_116 (XT.i0_le_t hc6) (by decide) (by decide) ?_
            refine Wk.aloadN (pc' := 172) d8_171 rfl rfl rfl ?_
            refine Wk.getF0 (pc' := 175) (i := 0) (j := 5) d8_172 (wd19 hw) rfl rfl rfl rfl ?_
            refine Wk.iload (pc' := 177) d8_175 rfl rfl ?_
            refine Wk.aloadN (pc' := 178) d8_177 rfl rfl rfl ?_
            refine Wk.getF0 (pc' := 181) (i := 0) (j := 2) d8_178 (wd14 hw) rfl rfl rfl rfl ?_
            refine Wk.iload (pc' := 183) d8_181 rfl rfl ?_
            refine Wk.ialoadG (pc' := 184) (i := 4) d8_183 rfl ev13 rfl ?_
            obtain ⟨l20, el20, hM⟩ := Option.bind_eq_some_iff.mp hM
            refine Wk.iastoreG (pc' := 185) (i := 1) (H' := [obj "com/example/dissect/dissect/ReachedRanges" ksRR [(rf hB 3), (.int mem), (rf hB 4), (rf hB 5), (.int rg), (rf hB 1), (rf hB 2)], ints l20, ints mH, ints fr, ints lo, ints hi]) d8_184 rfl el20 rfl rfl ?_
            refine Wk.aloadN (pc' := 186) d8_185 rfl rfl rfl ?_
            refine Wk.getF0 (pc' := 189) (i := 0) (j := 6) d8_186 (wd21 hw) rfl rfl rfl rfl ?_
            refine Wk.iload (pc' := 191) d8_189 rfl rfl ?_
            refine Wk.aloadN (pc' := 192) d8_191 rfl rfl rfl ?_
            refine Wk.getF0 (pc' := 195) (i := 0) (j := 3) d8_192 (wd16 hw) rfl rfl rfl rfl ?_
            refine Wk.iload (pc' := 197) d8_195 rfl rfl ?_
            obtain ⟨v21, ev21, hM⟩ := Option.bind_eq_some_iff.mp hM
            refine Wk.ialoadG (pc' := 198) (i := 5) d8_197 rfl ev21 rfl ?_
            obtain ⟨l22, el22, hM⟩ := Option.bind_eq_some_iff.mp hM
            refine Wk.iastoreG (pc' := 199) (i := 2) (H' := [obj "com/example/dissect/dissect/ReachedRanges" ksRR [(rf hB 3), (.int mem), (rf hB 4), (rf hB 5), (.int rg), (rf hB 1), (rf hB 2)], ints l20, ints l22, ints fr, ints lo, ints hi]) d8_198 rfl el22 rfl rfl ?_
            refine Wk.iinc (pc' := 202) (Ls' := #[.val (rf hB 0), .val (.int me), .val (.int nw), .val (.int nf), .val (.int en), .val (.int (mg + (1 : Int32))), .val (.int own), .val (.int (oth + (1 : Int32))), .val (.int (0 : Int32)), .val (.int oth)]) (mg + (1 : Int32)) d8_199 rfl (by rfl) rfl rfl ?_
            refine Wk.goTo (pc' := 38) d8_202 (by decide) (by decide) ?_
            exact ih ((mg + (1 : Int32))) (own) ((oth + (1 : Int32))) (l20) (l22) (.val (.int (0 : Int32))) (Or.inr ⟨_, rfl, rfl⟩) (.val (.int oth)) (Or.inr ⟨_, rfl, rfl⟩) out hM hk
        ·
          rw [if_neg hc5] at hM
          refine Wk.icN (pc' := 87) d8_84 (XT.ii_gt_f hc5) rfl ?_
          refine Wk.iconst (pc' := 88) (1 : Int32) d8_87 (by decide) rfl ?_
          refine Wk.goTo (pc' := 92) d8_88 (by decide) (by decide) ?_
          refine Wk.istore (pc' := 94) (Ls' := #[.val (rf hB 0), .val (.int me), .val (.int nw), .val (.int nf), .val (.int en), .val (.int mg), .val (.int own), .val (.int oth), .val (.int (1 : Int32)), s9]) d8_92 (XS.store1 rfl hs8 rfl) rfl ?_
          refine Wk.iload (pc' := 96) d8_94 rfl rfl ?_
          refine Wk.ifN (pc' := 99) d8_96 (XT.i0_eq_f (by decide)) rfl ?_
          refine Wk.iload (pc' := 101) d8_99 rfl rfl ?_
          refine Wk.iinc (pc' := 104) (Ls' := #[.val (rf hB 0), .val (.int me), .val (.int nw), .val (.int nf), .val (.int en), .val (.int mg), .val (.int (own + (1 : Int32))), .val (.int oth), .val (.int (1 : Int32)), s9]) (own + (1 : Int32)) d8_101 rfl (by rfl) rfl rfl ?_
          refine Wk.goTo (pc' := 112) d8_104 (by decide) (by decide) ?_
          refine Wk.istore (pc' := 114) (Ls' := #[.val (rf hB 0), .val (.int me), .val (.int nw), .val (.int nf), .val (.int en), .val (.int mg), .val (.int (own + (1 : Int32))), .val (.int oth), .val (.int (1 : Int32)), .val (.int own)]) d8_112 (XS.store1 rfl hs9 rfl) rfl ?_
          refine Wk.iload (pc' := 116) d8_114 rfl rfl ?_
          by_cases hc8 : (0 : Int32) < mg
          ·
            rw [if_pos hc8] at hM
            refine Wk.ifN (pc' := 119) d8_116 (XT.i0_le_f hc8) rfl ?_
            refine Wk.aloadN (pc' := 120) d8_119 rfl rfl rfl ?_
            refine Wk.getF0 (pc' := 123) (i := 0) (j := 2) d8_120 (wd14 hw) rfl rfl rfl rfl ?_
            refine Wk.iload (pc' := 125) d8_123 rfl rfl ?_
            refine Wk.ialoadG (pc' := 126) (i := 4) d8_125 rfl ev12 rfl ?_
            refine Wk.aloadN (pc' := 127) d8_126 rfl rfl rfl ?_
            refine Wk.getF0 (pc' := 130) (i := 0) (j := 6) d8_127 (wd21 hw) rfl rfl rfl rfl ?_
            refine Wk.iload (pc' := 132) d8_130 rfl rfl ?_
            refine Wk.iconst (pc' := 133) (1 : Int32) d8_132 (by decide) rfl ?_
            refine Wk.isub (pc' := 134) d8_133 rfl ?_
            obtain ⟨v23, ev23, hM⟩ := Option.bind_eq_some_iff.mp hM
            refine Wk.ialoadG (pc' := 135) (i := 2) d8_134 rfl ev23 rfl ?_
            refine Wk.iconst (pc' := 136) (1 : Int32) d8_135 (by decide) rfl ?_
            refine Wk.iadd (pc' := 137) d8_136 rfl ?_
            by_cases hc9 : (v23 + (1 : Int32)) < v12
            ·
              rw [if_pos hc9] at hM
              refine Wk.icY (pc' := 171) d8_137 (XT.ii_gt_t hc9) (by decide) (by decide) ?_
              refine Wk.aloadN (pc' := 172) d8_171 rfl rfl rfl ?_
              refine Wk.getF0 (pc' := 175) (i := 0) (j := 5) d8_172 (wd19 hw) rfl rfl rfl rfl ?_
              refine Wk.iload (pc' := 177) d8_175 rfl rfl ?_
              refine Wk.aloadN (pc' := 178) d8_177 rfl rfl rfl ?_
              refine Wk.getF0 (pc' := 181) (i := 0) (j := 2) d8_178 (wd14 hw) rfl rfl rfl rfl ?_
              refine Wk.iload (pc' := 183) d8_181 rfl rfl ?_
              refine Wk.ialoadG (pc' := 184) (i := 4) d8_183 rfl ev12 rfl ?_
              obtain ⟨l24, el24, hM⟩ := Option.bind_eq_some_iff.mp hM
              refine Wk.iastoreG (pc' := 185) (i := 1) (H' := [obj "com/example/dissect/dissect/ReachedRanges" ksRR [(rf hB 3), (.int mem), (rf hB 4), (rf hB 5), (.int rg), (rf hB 1), (rf hB 2)], ints l24, ints mH, ints fr, ints lo, ints hi]) d8_184 rfl el24 rfl rfl ?_
              refine Wk.aloadN (pc' := 186) d8_185 rfl rfl rfl ?_
              refine Wk.getF0 (pc' := 189) (i := 0) (j := 6) d8_186 (wd21 hw) rfl rfl rfl rfl ?_
              refine Wk.iload (pc' := 191) d8_189 rfl rfl ?_
              refine Wk.aloadN (pc' := 192) d8_191 rfl rfl rfl ?_
              refine Wk.getF0 (pc' := 195) (i := 0) (j := 3) d8_192 (wd16 hw) rfl rfl rfl rfl ?_
              refine Wk.iload (pc' := 197) d8_195 rfl rfl ?_
              obtain ⟨v25, ev25, hM⟩ := Option.bind_eq_some_iff.mp hM
              refine Wk.ialoadG (pc' := 198) (i := 5) d8_197 rfl ev25 rfl ?_
              obtain ⟨l26, el26, hM⟩ := Option.bind_eq_some_iff.mp hM
              refine Wk.iastoreG (pc' := 199) (i := 2) (H' := [obj "com/example/dissect/dissect/ReachedRanges" ksRR [(rf hB 3), (.int mem), (rf hB 4), (rf hB 5), (.int rg), (rf hB 1), (rf hB 2)], ints l24, ints l26, ints fr, ints lo, ints hi]) d8_198 rfl el26 rfl rfl ?_
              refine Wk.iinc (pc' := 202) (Ls' := #[.val (rf hB 0), .val (.int me), .val (.int nw), .val (.int nf), .val (.int en), .val (.int (mg + (1 : Int32))), .val (.int (own + (1 : Int32))), .val (.int oth), .val (.int (1 : Int32)), .val (.int own)]) (mg + (1 : Int32)) d8_199 rfl (by rfl) rfl rfl ?_
              refine Wk.goTo (pc' := 38) d8_202 (by decide) (by decide) ?_
              exact ih ((mg + (1 : Int32))) ((own + (1 : Int32))) (oth) (l24) (l26) (.val (.int (1 : Int32))) (Or.inr ⟨_, rfl, rfl⟩) (.val (.int own)) (Or.inr ⟨_, rfl, rfl⟩) out hM hk
            ·
              rw [if_neg hc9] at hM
              refine Wk.icN (pc' := 140) d8_137 (XT.ii_gt_f hc9) rfl ?_
              refine Wk.aloadN (pc' := 141) d8_140 rfl rfl rfl ?_
              refine Wk.getF0 (pc' := 144) (i := 0) (j := 6) d8_141 (wd21 hw) rfl rfl rfl rfl ?_
              refine Wk.iload (pc' := 146) d8_144 rfl rfl ?_
              refine Wk.iconst (pc' := 147) (1 : Int32) d8_146 (by decide) rfl ?_
              refine Wk.isub (pc' := 148) d8_147 rfl ?_
              refine Wk.aloadN (pc' := 149) d8_148 rfl rfl rfl ?_
              refine Wk.getF0 (pc' := 152) (i := 0) (j := 6) d8_149 (wd21 hw) rfl rfl rfl rfl ?_
              refine Wk.iload (pc' := 154) d8_152 rfl rfl ?_
              refine Wk.iconst (pc' := 155) (1 : Int32) d8_154 (by decide) rfl ?_
              refine Wk.isub (pc' := 156) d8_155 rfl ?_
              refine Wk.ialoadG (pc' := 157) (i := 2) d8_156 rfl ev23 rfl ?_
              refine Wk.aloadN (pc' := 158) d8_157 rfl rfl rfl ?_
              refine Wk.getF0 (pc' := 161) (i := 0) (j := 3) d8_158 (wd16 hw) rfl rfl rfl rfl ?_
              refine Wk.iload (pc' := 163) d8_161 rfl rfl ?_
              obtain ⟨v27, ev27, hM⟩ := Option.bind_eq_some_iff.mp hM
              refine Wk.ialoadG (pc' := 164) (i := 5) d8_163 rfl ev27 rfl ?_
              refine Wk.callS (pc' := 167) (argsL := [(.int v23), (.int v27)]) (st := [(.int (mg - (1 : Int32))), (rf hB 2)]) d8_164 (wd30 hw) (wd31 hw) (wd32 hw) (wd33 hw) (by decide) (lenOf pd_0 rfl) (m_max l Z a0 hw hB [obj "com/example/dissect/dissect/ReachedRanges" ksRR [(rf hB 3), (.int mem), (rf hB 4), (rf hB 5), (.int rg), (rf hB 1), (rf hB 2)], ints mL, ints mH, ints fr, ints lo, ints hi] v23 v27) rfl (Nat.le_of_ble_eq_true rfl) (Nat.le_of_ble_eq_true rfl) hcl (by first | exact hsl | omega) rfl rfl ?_
              rintro _ _ ⟨rfl, hH⟩; obtain rfl := hH.symm
              show WP l Z hB _ _ _ _ _ _ _ _ [obj "com/example/dissect/dissect/ReachedRanges" ksRR [(rf hB 3), (.int mem), (rf hB 4), (rf hB 5), (.int rg), (rf hB 1), (rf hB 2)], ints mL, ints mH, ints fr, ints lo, ints hi] _ _ [(.int (mxI v23 v27)), (.int (mg - (1 : Int32))), (rf hB 2)]
              obtain ⟨l28, el28, hM⟩ := Option.bind_eq_some_iff.mp hM
              refine Wk.iastoreG (pc' := 168) (i := 2) (H' := [obj "com/example/dissect/dissect/ReachedRanges" ksRR [(rf hB 3), (.int mem), (rf hB 4), (rf hB 5), (.int rg), (rf hB 1), (rf hB 2)], ints mL, ints l28, ints fr, ints lo, ints hi]) d8_167 rfl el28 rfl rfl ?_
              refine Wk.goTo (pc' := 202) d8_168 (by decide) (by decide) ?_
              refine Wk.goTo (pc' := 38) d8_202 (by decide) (by decide) ?_
              exact ih (mg) ((own + (1 : Int32))) (oth) (mL) (l28) (.val (.int (1 : Int32))) (Or.inr ⟨_, rfl, rfl⟩) (.val (.int own)) (Or.inr ⟨_, rfl, rfl⟩) out hM hk
          ·
            rw [if_neg hc8] at hM
            refine Wk.ifY (pc' := 171) d8_116 (XT.i0_le_t hc8) (by decide) (by decide) ?_
            refine Wk.aloadN (pc' := 172) d8_171 rfl rfl rfl ?_
            refine Wk.getF0 (pc' := 175) (i := 0) (j := 5) d8_172 (wd19 hw) rfl rfl rfl rfl ?_
            refine Wk.iload (pc' := 177) d8_175 rfl rfl ?_
            refine Wk.aloadN (pc' := 178) d8_177 rfl rfl rfl ?_
            refine Wk.getF0 (pc' := 181) (i := 0) (j := 2) d8_178 (wd14 hw) rfl rfl rfl rfl ?_
            refine Wk.iload (pc' := 183) d8_181 rfl rfl ?_
            refine Wk.ialoadG (pc' := 184) (i := 4) d8_183 rfl ev12 rfl ?_
            obtain ⟨l29, el29, hM⟩ := Option.bind_eq_some_iff.mp hM
            refine Wk.iastoreG (pc' := 185) (i := 1) (H' := [obj "com/example/dissect/dissect/ReachedRanges" ksRR [(rf hB 3), (.int mem), (rf hB 4), (rf hB 5), (.int rg), (rf hB 1), (rf hB 2)], ints l29, ints mH, ints fr, ints lo, ints hi]) d8_184 rfl el29 rfl rfl ?_
            refine Wk.aloadN (pc' := 186) d8_185 rfl rfl rfl ?_
            refine Wk.getF0 (pc' := 189) (i := 0) (j := 6) d8_186 (wd21 hw) rfl rfl rfl rfl ?_
            refine Wk.iload (pc' := 191) d8_189 rfl rfl ?_
            refine Wk.aloadN (pc' := 192) d8_191 rfl rfl rfl ?_
            refine Wk.getF0 (pc' := 195) (i := 0) (j := 3) d8_192 (wd16 hw) rfl rfl rfl rfl ?_
            refine Wk.iload (pc' := 197) d8_195 rfl rfl ?_
            obtain ⟨v30, ev30, hM⟩ := Option.bind_eq_some_iff.mp hM
            refine Wk.ialoadG (pc' := 198) (i := 5) d8_197 rfl ev30 rfl ?_
            obtain ⟨l31, el31, hM⟩ := Option.bind_eq_some_iff.mp hM
            refine Wk.iastoreG (pc' := 199) (i := 2) (H' := [obj "com/example/dissect/dissect/ReachedRanges" ksRR [(rf hB 3), (.int mem), (rf hB 4), (rf hB 5), (.int rg), (rf hB 1), (rf hB 2)], ints l29, ints l31, ints fr, ints lo, ints hi]) d8_198 rfl el31 rfl rfl ?_
            refine Wk.iinc (pc' := 202) (Ls' := #[.val (rf hB 0), .val (.int me), .val (.int nw), .val (.int nf), .val (.int en), .val (.int (mg + (1 : Int32))), .val (.int (own + (1 : Int32))), .val (.int oth), .val (.int (1 : Int32)), .val (.int own)]) (mg + (1 : Int32)) d8_199 rfl (by rfl) rfl rfl ?_
            refine Wk.goTo (pc' := 38) d8_202 (by decide) (by decide) ?_
            exact ih ((mg + (1 : Int32))) ((own + (1 : Int32))) (oth) (l29) (l31) (.val (.int (1 : Int32))) (Or.inr ⟨_, rfl, rfl⟩) (.val (.int own)) (Or.inr ⟨_, rfl, rfl⟩) out hM hk
    ·
      rw [if_neg hc1] at hM
      refine Wk.icN (pc' := 47) d8_44 (XT.ii_lt_f hc1) rfl ?_
      refine Wk.iload (pc' := 49) d8_47 rfl rfl ?_
      refine Wk.iload (pc' := 51) d8_49 rfl rfl ?_
      by_cases hc10 : oth < en
      ·
        rw [if_pos hc10] at hM
        refine Wk.icN (pc' := 54) d8_51 (XT.ii_ge_f hc10) rfl ?_
        refine Wk.iload (pc' := 56) d8_54 rfl rfl ?_
        refine Wk.iload (pc' := 58) d8_56 rfl rfl ?_
        by_cases hc11 : oth = en
        ·
          rw [if_pos hc11] at hM
          refine Wk.icY (pc' := 87) d8_58 (XT.ii_eq_t hc11) (by decide) (by decide) ?_
          refine Wk.iconst (pc' := 88) (1 : Int32) d8_87 (by decide) rfl ?_
          refine Wk.goTo (pc' := 92) d8_88 (by decide) (by decide) ?_
          refine Wk.istore (pc' := 94) (Ls' := #[.val (rf hB 0), .val (.int me), .val (.int nw), .val (.int nf), .val (.int en), .val (.int mg), .val (.int own), .val (.int oth), .val (.int (1 : Int32)), s9]) d8_92 (XS.store1 rfl hs8 rfl) rfl ?_
          refine Wk.iload (pc' := 96) d8_94 rfl rfl ?_
          refine Wk.ifN (pc' := 99) d8_96 (XT.i0_eq_f (by decide)) rfl ?_
          refine Wk.iload (pc' := 101) d8_99 rfl rfl ?_
          refine Wk.iinc (pc' := 104) (Ls' := #[.val (rf hB 0), .val (.int me), .val (.int nw), .val (.int nf), .val (.int en), .val (.int mg), .val (.int (own + (1 : Int32))), .val (.int oth), .val (.int (1 : Int32)), s9]) (own + (1 : Int32)) d8_101 rfl (by rfl) rfl rfl ?_
          refine Wk.goTo (pc' := 112) d8_104 (by decide) (by decide) ?_
          refine Wk.istore (pc' := 114) (Ls' := #[.val (rf hB 0), .val (.int me), .val (.int nw), .val (.int nf), .val (.int en), .val (.int mg), .val (.int (own + (1 : Int32))), .val (.int oth), .val (.int (1 : Int32)), .val (.int own)]) d8_112 (XS.store1 rfl hs9 rfl) rfl ?_
          refine Wk.iload (pc' := 116) d8_114 rfl rfl ?_
          by_cases hc12 : (0 : Int32) < mg
          ·
            rw [if_pos hc12] at hM
            refine Wk.ifN (pc' := 119) d8_116 (XT.i0_le_f hc12) rfl ?_
            refine Wk.aloadN (pc' := 120) d8_119 rfl rfl rfl ?_
            refine Wk.getF0 (pc' := 123) (i := 0) (j := 2) d8_120 (wd14 hw) rfl rfl rfl rfl ?_
            refine Wk.iload (pc' := 125) d8_123 rfl rfl ?_
            obtain ⟨v32, ev32, hM⟩ := Option.bind_eq_some_iff.mp hM
            refine Wk.ialoadG (pc' := 126) (i := 4) d8_125 rfl ev32 rfl ?_
            refine Wk.aloadN (pc' := 127) d8_126 rfl rfl rfl ?_
            refine Wk.getF0 (pc' := 130) (i := 0) (j := 6) d8_127 (wd21 hw) rfl rfl rfl rfl ?_
            refine Wk.iload (pc' := 132) d8_130 rfl rfl ?_
            refine Wk.iconst (pc' := 133) (1 : Int32) d8_132 (by decide) rfl ?_
            refine Wk.isub (pc' := 134) d8_133 rfl ?_
            obtain ⟨v33, ev33, hM⟩ := Option.bind_eq_some_iff.mp hM
            refine Wk.ialoadG (pc' := 135) (i := 2) d8_134 rfl ev33 rfl ?_
            refine Wk.iconst (pc' := 136) (1 : Int32) d8_135 (by decide) rfl ?_
            refine Wk.iadd (pc' := 137) d8_136 rfl ?_
            by_cases hc13 : (v33 + (1 : Int32)) < v32
            ·
              rw [if_pos hc13] at hM
              refine Wk.icY (pc' := 171) d8_137 (XT.ii_gt_t hc13) (by decide) (by decide) ?_
              refine Wk.aloadN (pc' := 172) d8_171 rfl rfl rfl ?_
              refine Wk.getF0 (pc' := 175) (i := 0) (j := 5) d8_172 (wd19 hw) rfl rfl rfl rfl ?_
              refine Wk.iload (pc' := 177) d8_175 rfl rfl ?_
              refine Wk.aloadN (pc' := 178) d8_177 rfl rfl rfl ?_
              refine Wk.getF0 (pc' := 181) (i := 0) (j := 2) d8_178 (wd14 hw) rfl rfl rfl rfl ?_
              refine Wk.iload (pc' := 183) d8_181 rfl rfl ?_
              refine Wk.ialoadG (pc' := 184) (i := 4) d8_183 rfl ev32 rfl ?_
              obtain ⟨l34, el34, hM⟩ := Option.bind_eq_some_iff.mp hM
              refine Wk.iastoreG (pc' := 185) (i := 1) (H' := [obj "com/example/dissect/dissect/ReachedRanges" ksRR [(rf hB 3), (.int mem), (rf hB 4), (rf hB 5), (.int rg), (rf hB 1), (rf hB 2)], ints l34, ints mH, ints fr, ints lo, ints hi]) d8_184 rfl el34 rfl rfl ?_
              refine Wk.aloadN (pc' := 186) d8_185 rfl rfl rfl ?_
              refine Wk.getF0 (pc' := 189) (i := 0) (j := 6) d8_186 (wd21 hw) rfl rfl rfl rfl ?_
              refine Wk.iload (pc' := 191) d8_189 rfl rfl ?_
              refine Wk.aloadN (pc' := 192) d8_191 rfl rfl rfl ?_
              refine Wk.getF0 (pc' := 195) (i := 0) (j := 3) d8_192 (wd16 hw) rfl rfl rfl rfl ?_
              refine Wk.iload (pc' := 197) d8_195 rfl rfl ?_
              obtain ⟨v35, ev35, hM⟩ := Option.bind_eq_some_iff.mp hM
              refine Wk.ialoadG (pc' := 198) (i := 5) d8_197 rfl ev35 rfl ?_
              obtain ⟨l36, el36, hM⟩ := Option.bind_eq_some_iff.mp hM
              refine Wk.iastoreG (pc' := 199) (i := 2) (H' := [obj "com/example/dissect/dissect/ReachedRanges" ksRR [(rf hB 3), (.int mem), (rf hB 4), (rf hB 5), (.int rg), (rf hB 1), (rf hB 2)], ints l34, ints l36, ints fr, ints lo, ints hi]) d8_198 rfl el36 rfl rfl ?_
              refine Wk.iinc (pc' := 202) (Ls' := #[.val (rf hB 0), .val (.int me), .val (.int nw), .val (.int nf), .val (.int en), .val (.int (mg + (1 : Int32))), .val (.int (own + (1 : Int32))), .val (.int oth), .val (.int (1 : Int32)), .val (.int own)]) (mg + (1 : Int32)) d8_199 rfl (by rfl) rfl rfl ?_
              refine Wk.goTo (pc' := 38) d8_202 (by decide) (by decide) ?_
              exact ih ((mg + (1 : Int32))) ((own + (1 : Int32))) (oth) (l34) (l36) (.val (.int (1 : Int32))) (Or.inr ⟨_, rfl, rfl⟩) (.val (.int own)) (Or.inr ⟨_, rfl, rfl⟩) out hM hk
            ·
              rw [if_neg hc13] at hM
              refine Wk.icN (pc' := 140) d8_137 (XT.ii_gt_f hc13) rfl ?_
              refine Wk.aloadN (pc' := 141) d8_140 rfl rfl rfl ?_
              refine Wk.getF0 (pc' := 144) (i := 0) (j := 6) d8_141 (wd21 hw) rfl rfl rfl rfl ?_
              refine Wk.iload (pc' := 146) d8_144 rfl rfl ?_
              refine Wk.iconst (pc' := 147) (1 : Int32) d8_146 (by decide) rfl ?_
              refine Wk.isub (pc' := 148) d8_147 rfl ?_
              refine Wk.aloadN (pc' := 149) d8_148 rfl rfl rfl ?_
              refine Wk.getF0 (pc' := 152) (i := 0) (j := 6) d8_149 (wd21 hw) rfl rfl rfl rfl ?_
              refine Wk.iload (pc' := 154) d8_152 rfl rfl ?_
              refine Wk.iconst (pc' := 155) (1 : Int32) d8_154 (by decide) rfl ?_
              refine Wk.isub (pc' := 156) d8_155 rfl ?_
              refine Wk.ialoadG (pc' := 157) (i := 2) d8_156 rfl ev33 rfl ?_
              refine Wk.aloadN (pc' := 158) d8_157 rfl rfl rfl ?_
              refine Wk.getF0 (pc' := 161) (i := 0) (j := 3) d8_158 (wd16 hw) rfl rfl rfl rfl ?_
              refine Wk.iload (pc' := 163) d8_161 rfl rfl ?_
              obtain ⟨v37, ev37, hM⟩ := Option.bind_eq_some_iff.mp hM
              refine Wk.ialoadG (pc' := 164) (i := 5) d8_163 rfl ev37 rfl ?_
              refine Wk.callS (pc' := 167) (argsL := [(.int v33), (.int v37)]) (st := [(.int (mg - (1 : Int32))), (rf hB 2)]) d8_164 (wd30 hw) (wd31 hw) (wd32 hw) (wd33 hw) (by decide) (lenOf pd_0 rfl) (m_max l Z a0 hw hB [obj "com/example/dissect/dissect/ReachedRanges" ksRR [(rf hB 3), (.int mem), (rf hB 4), (rf hB 5), (.int rg), (rf hB 1), (rf hB 2)], ints mL, ints mH, ints fr, ints lo, ints hi] v33 v37) rfl (Nat.le_of_ble_eq_true rfl) (Nat.le_of_ble_eq_true rfl) hcl (by first | exact hsl | omega) rfl rfl ?_
              rintro _ _ ⟨rfl, hH⟩; obtain rfl := hH.symm
              show WP l Z hB _ _ _ _ _ _ _ _ [obj "com/example/dissect/dissect/ReachedRanges" ksRR [(rf hB 3), (.int mem), (rf hB 4), (rf hB 5), (.int rg), (rf hB 1), (rf hB 2)], ints mL, ints mH, ints fr, ints lo, ints hi] _ _ [(.int (mxI v33 v37)), (.int (mg - (1 : Int32))), (rf hB 2)]
              obtain ⟨l38, el38, hM⟩ := Option.bind_eq_some_iff.mp hM
              refine Wk.iastoreG (pc' := 168) (i := 2) (H' := [obj "com/example/dissect/dissect/ReachedRanges" ksRR [(rf hB 3), (.int mem), (rf hB 4), (rf hB 5), (.int rg), (rf hB 1), (rf hB 2)], ints mL, ints l38, ints fr, ints lo, ints hi]) d8_167 rfl el38 rfl rfl ?_
              refine Wk.goTo (pc' := 202) d8_168 (by decide) (by decide) ?_
              refine Wk.goTo (pc' := 38) d8_202 (by decide) (by decide) ?_
              exact ih (mg) ((own + (1 : Int32))) (oth) (mL) (l38) (.val (.int (1 : Int32))) (Or.inr ⟨_, rfl, rfl⟩) (.val (.int own)) (Or.inr ⟨_, rfl, rfl⟩) out hM hk
          ·
            rw [if_neg hc12] at hM
            refine Wk.ifY (pc' := 171) d8_116 (XT.i0_le_t hc12) (by decide) (by decide) ?_
            refine Wk.aloadN (pc' := 172) d8_171 rfl rfl rfl ?_
            refine Wk.getF0 (pc' := 175) (i := 0) (j := 5) d8_172 (wd19 hw) rfl rfl rfl rfl ?_
            refine Wk.iload (pc' := 177) d8_175 rfl rfl ?_
            refine Wk.aloadN (pc' := 178) d8_177 rfl rfl rfl ?_
            refine Wk.getF0 (pc' := 181) (i := 0) (j := 2) d8_178 (wd14 hw) rfl rfl rfl rfl ?_
            refine Wk.iload (pc' := 183) d8_181 rfl rfl ?_
            obtain ⟨v39, ev39, hM⟩ := Option.bind_eq_some_iff.mp hM
            refine Wk.ialoadG (pc' := 184) (i := 4) d8_183 rfl ev39 rfl ?_
            obtain ⟨l40, el40, hM⟩ := Option.bind_eq_some_iff.mp hM
            refine Wk.iastoreG (pc' := 185) (i := 1) (H' := [obj "com/example/dissect/dissect/ReachedRanges" ksRR [(rf hB 3), (.int mem), (rf hB 4), (rf hB 5), (.int rg), (rf hB 1), (rf hB 2)], ints l40, ints mH, ints fr, ints lo, ints hi]) d8_184 rfl el40 rfl rfl ?_
            refine Wk.aloadN (pc' := 186) d8_185 rfl rfl rfl ?_
            refine Wk.getF0 (pc' := 189) (i := 0) (j := 6) d8_186 (wd21 hw) rfl rfl rfl rfl ?_
            refine Wk.iload (pc' := 191) d8_189 rfl rfl ?_
            refine Wk.aloadN (pc' := 192) d8_191 rfl rfl rfl ?_
            refine Wk.getF0 (pc' := 195) (i := 0) (j := 3) d8_192 (wd16 hw) rfl rfl rfl rfl ?_
            refine Wk.iload (pc' := 197) d8_195 rfl rfl ?_
            obtain ⟨v41, ev41, hM⟩ := Option.bind_eq_some_iff.mp hM
            refine Wk.ialoadG (pc' := 198) (i := 5) d8_197 rfl ev41 rfl ?_
            obtain ⟨l42, el42, hM⟩ := Option.bind_eq_some_iff.mp hM
            refine Wk.iastoreG (pc' := 199) (i := 2) (H' := [obj "com/example/dissect/dissect/ReachedRanges" ksRR [(rf hB 3), (.int mem), (rf hB 4), (rf hB 5), (.int rg), (rf hB 1), (rf hB 2)], ints l40, ints l42, ints fr, ints lo, ints hi]) d8_198 rfl el42 rfl rfl ?_
            refine Wk.iinc (pc' := 202) (Ls' := #[.val (rf hB 0), .val (.int me), .val (.int nw), .val (.int nf), .val (.int en), .val (.int (mg + (1 : Int32))), .val (.int (own + (1 : Int32))), .val (.int oth), .val (.int (1 : Int32)), .val (.int own)]) (mg + (1 : Int32)) d8_199 rfl (by rfl) rfl rfl ?_
            refine Wk.goTo (pc' := 38) d8_202 (by decide) (by decide) ?_
            exact ih ((mg + (1 : Int32))) ((own + (1 : Int32))) (oth) (l40) (l42) (.val (.int (1 : Int32))) (Or.inr ⟨_, rfl, rfl⟩) (.val (.int own)) (Or.inr ⟨_, rfl, rfl⟩) out hM hk
        ·
          rw [if_neg hc11] at hM
          refine Wk.icN (pc' := 61) d8_58 (XT.ii_eq_f hc11) rfl ?_
          refine Wk.iload (pc' := 63) d8_61 rfl rfl ?_
          refine Wk.aloadN (pc' := 64) d8_63 rfl rfl rfl ?_
          refine Wk.getF0 (pc' := 67) (i := 0) (j := 4) d8_64 (wd45 hw) rfl rfl rfl rfl ?_
          refine Wk.icY (pc' := 91) d8_67 (XT.ii_ge_t hc1) (by decide) (by decide) ?_
          refine Wk.iconst (pc' := 92) (0 : Int32) d8_91 (by decide) rfl ?_
          refine Wk.istore (pc' := 94) (Ls' := #[.val (rf hB 0), .val (.int me), .val (.int nw), .val (.int nf), .val (.int en), .val (.int mg), .val (.int own), .val (.int oth), .val (.int (0 : Int32)), s9]) d8_92 (XS.store1 rfl hs8 rfl) rfl ?_
          refine Wk.iload (pc' := 96) d8_94 rfl rfl ?_
          refine Wk.ifY (pc' := 107) d8_96 (XT.i0_eq_t rfl) (by decide) (by decide) ?_
          refine Wk.iload (pc' := 109) d8_107 rfl rfl ?_
          refine Wk.iinc (pc' := 112) (Ls' := #[.val (rf hB 0), .val (.int me), .val (.int nw), .val (.int nf), .val (.int en), .val (.int mg), .val (.int own), .val (.int (oth + (1 : Int32))), .val (.int (0 : Int32)), s9]) (oth + (1 : Int32)) d8_109 rfl (by rfl) rfl rfl ?_
          refine Wk.istore (pc' := 114) (Ls' := #[.val (rf hB 0), .val (.int me), .val (.int nw), .val (.int nf), .val (.int en), .val (.int mg), .val (.int own), .val (.int (oth + (1 : Int32))), .val (.int (0 : Int32)), .val (.int oth)]) d8_112 (XS.store1 rfl hs9 rfl) rfl ?_
          refine Wk.iload (pc' := 116) d8_114 rfl rfl ?_
          by_cases hc14 : (0 : Int32) < mg
          ·
            rw [if_pos hc14] at hM
            refine Wk.ifN (pc' := 119) d8_116 (XT.i0_le_f hc14) rfl ?_
            refine Wk.aloadN (pc' := 120) d8_119 rfl rfl rfl ?_
            refine Wk.getF0 (pc' := 123) (i := 0) (j := 2) d8_120 (wd14 hw) rfl rfl rfl rfl ?_
            refine Wk.iload (pc' := 125) d8_123 rfl rfl ?_
            obtain ⟨v43, ev43, hM⟩ := Option.bind_eq_some_iff.mp hM
            refine Wk.ialoadG (pc' := 126) (i := 4) d8_125 rfl ev43 rfl ?_
            refine Wk.aloadN (pc' := 127) d8_126 rfl rfl rfl ?_
            refine Wk.getF0 (pc' := 130) (i := 0) (j := 6) d8_127 (wd21 hw) rfl rfl rfl rfl ?_
            refine Wk.iload (pc' := 132) d8_130 rfl rfl ?_
            refine Wk.iconst (pc' := 133) (1 : Int32) d8_132 (by decide) rfl ?_
            refine Wk.isub (pc' := 134) d8_133 rfl ?_
            obtain ⟨v44, ev44, hM⟩ := Option.bind_eq_some_iff.mp hM
            refine Wk.ialoadG (pc' := 135) (i := 2) d8_134 rfl ev44 rfl ?_
            refine Wk.iconst (pc' := 136) (1 : Int32) d8_135 (by decide) rfl ?_
            refine Wk.iadd (pc' := 137) d8_136 rfl ?_
            by_cases hc15 : (v44 + (1 : Int32)) < v43
            ·
              rw [if_pos hc15] at hM
              refine Wk.icY (pc' := 171) d8_137 (XT.ii_gt_t hc15) (by decide) (by decide) ?_
              refine Wk.aloadN (pc' := 172) d8_171 rfl rfl rfl ?_
              refine Wk.getF0 (pc' := 175) (i := 0) (j := 5) d8_172 (wd19 hw) rfl rfl rfl rfl ?_
              refine Wk.iload (pc' := 177) d8_175 rfl rfl ?_
              refine Wk.aloadN (pc' := 178) d8_177 rfl rfl rfl ?_
              refine Wk.getF0 (pc' := 181) (i := 0) (j := 2) d8_178 (wd14 hw) rfl rfl rfl rfl ?_
              refine Wk.iload (pc' := 183) d8_181 rfl rfl ?_
              refine Wk.ialoadG (pc' := 184) (i := 4) d8_183 rfl ev43 rfl ?_
              obtain ⟨l45, el45, hM⟩ := Option.bind_eq_some_iff.mp hM
              refine Wk.iastoreG (pc' := 185) (i := 1) (H' := [obj "com/example/dissect/dissect/ReachedRanges" ksRR [(rf hB 3), (.int mem), (rf hB 4), (rf hB 5), (.int rg), (rf hB 1), (rf hB 2)], ints l45, ints mH, ints fr, ints lo, ints hi]) d8_184 rfl el45 rfl rfl ?_
              refine Wk.aloadN (pc' := 186) d8_185 rfl rfl rfl ?_
              refine Wk.getF0 (pc' := 189) (i := 0) (j := 6) d8_186 (wd21 hw) rfl rfl rfl rfl ?_
              refine Wk.iload (pc' := 191) d8_189 rfl rfl ?_
              refine Wk.aloadN (pc' := 192) d8_191 rfl rfl rfl ?_
              refine Wk.getF0 (pc' := 195) (i := 0) (j := 3) d8_192 (wd16 hw) rfl rfl rfl rfl ?_
              refine Wk.iload (pc' := 197) d8_195 rfl rfl ?_
              obtain ⟨v46, ev46, hM⟩ := Option.bind_eq_some_iff.mp hM
              refine Wk.ialoadG (pc' := 198) (i := 5) d8_197 rfl ev46 rfl ?_
              obtain ⟨l47, el47, hM⟩ := Option.bind_eq_some_iff.mp hM
              refine Wk.iastoreG (pc' := 199) (i := 2) (H' := [obj "com/example/dissect/dissect/ReachedRanges" ksRR [(rf hB 3), (.int mem), (rf hB 4), (rf hB 5), (.int rg), (rf hB 1), (rf hB 2)], ints l45, ints l47, ints fr, ints lo, ints hi]) d8_198 rfl el47 rfl rfl ?_
              refine Wk.iinc (pc' := 202) (Ls' := #[.val (rf hB 0), .val (.int me), .val (.int nw), .val (.int nf), .val (.int en), .val (.int (mg + (1 : Int32))), .val (.int own), .val (.int (oth + (1 : Int32))), .val (.int (0 : Int32)), .val (.int oth)]) (mg + (1 : Int32)) d8_199 rfl (by rfl) rfl rfl ?_
              refine Wk.goTo (pc' := 38) d8_202 (by decide) (by decide) ?_
              exact ih ((mg + (1 : Int32))) (own) ((oth + (1 : Int32))) (l45) (l47) (.val (.int (0 : Int32))) (Or.inr ⟨_, rfl, rfl⟩) (.val (.int oth)) (Or.inr ⟨_, rfl, rfl⟩) out hM hk
            ·
              rw [if_neg hc15] at hM
              refine Wk.icN (pc' := 140) d8_137 (XT.ii_gt_f hc15) rfl ?_
              refine Wk.aloadN (pc' := 141) d8_140 rfl rfl rfl ?_
              refine Wk.getF0 (pc' := 144) (i := 0) (j := 6) d8_141 (wd21 hw) rfl rfl rfl rfl ?_
              refine Wk.iload (pc' := 146) d8_144 rfl rfl ?_
              refine Wk.iconst (pc' := 147) (1 : Int32) d8_146 (by decide) rfl ?_
              refine Wk.isub (pc' := 148) d8_147 rfl ?_
              refine Wk.aloadN (pc' := 149) d8_148 rfl rfl rfl ?_
              refine Wk.getF0 (pc' := 152) (i := 0) (j := 6) d8_149 (wd21 hw) rfl rfl rfl rfl ?_
              refine Wk.iload (pc' := 154) d8_152 rfl rfl ?_
              refine Wk.iconst (pc' := 155) (1 : Int32) d8_154 (by decide) rfl ?_
              refine Wk.isub (pc' := 156) d8_155 rfl ?_
              refine Wk.ialoadG (pc' := 157) (i := 2) d8_156 rfl ev44 rfl ?_
              refine Wk.aloadN (pc' := 158) d8_157 rfl rfl rfl ?_
              refine Wk.getF0 (pc' := 161) (i := 0) (j := 3) d8_158 (wd16 hw) rfl rfl rfl rfl ?_
              refine Wk.iload (pc' := 163) d8_161 rfl rfl ?_
              obtain ⟨v48, ev48, hM⟩ := Option.bind_eq_some_iff.mp hM
              refine Wk.ialoadG (pc' := 164) (i := 5) d8_163 rfl ev48 rfl ?_
              refine Wk.callS (pc' := 167) (argsL := [(.int v44), (.int v48)]) (st := [(.int (mg - (1 : Int32))), (rf hB 2)]) d8_164 (wd30 hw) (wd31 hw) (wd32 hw) (wd33 hw) (by decide) (lenOf pd_0 rfl) (m_max l Z a0 hw hB [obj "com/example/dissect/dissect/ReachedRanges" ksRR [(rf hB 3), (.int mem), (rf hB 4), (rf hB 5), (.int rg), (rf hB 1), (rf hB 2)], ints mL, ints mH, ints fr, ints lo, ints hi] v44 v48) rfl (Nat.le_of_ble_eq_true rfl) (Nat.le_of_ble_eq_true rfl) hcl (by first | exact hsl | omega) rfl rfl ?_
              rintro _ _ ⟨rfl, hH⟩; obtain rfl := hH.symm
              show WP l Z hB _ _ _ _ _ _ _ _ [obj "com/example/dissect/dissect/ReachedRanges" ksRR [(rf hB 3), (.int mem), (rf hB 4), (rf hB 5), (.int rg), (rf hB 1), (rf hB 2)], ints mL, ints mH, ints fr, ints lo, ints hi] _ _ [(.int (mxI v44 v48)), (.int (mg - (1 : Int32))), (rf hB 2)]
              obtain ⟨l49, el49, hM⟩ := Option.bind_eq_some_iff.mp hM
              refine Wk.iastoreG (pc' := 168) (i := 2) (H' := [obj "com/example/dissect/dissect/ReachedRanges" ksRR [(rf hB 3), (.int mem), (rf hB 4), (rf hB 5), (.int rg), (rf hB 1), (rf hB 2)], ints mL, ints l49, ints fr, ints lo, ints hi]) d8_167 rfl el49 rfl rfl ?_
              refine Wk.goTo (pc' := 202) d8_168 (by decide) (by decide) ?_
              refine Wk.goTo (pc' := 38) d8_202 (by decide) (by decide) ?_
              exact ih (mg) (own) ((oth + (1 : Int32))) (mL) (l49) (.val (.int (0 : Int32))) (Or.inr ⟨_, rfl, rfl⟩) (.val (.int oth)) (Or.inr ⟨_, rfl, rfl⟩) out hM hk
          ·
            rw [if_neg hc14] at hM
            refine Wk.ifY (pc' := 171) d8_116 (XT.i0_le_t hc14) (by decide) (by decide) ?_
            refine Wk.aloadN (pc' := 172) d8_171 rfl rfl rfl ?_
            refine Wk.getF0 (pc' := 175) (i := 0) (j := 5) d8_172 (wd19 hw) rfl rfl rfl rfl ?_
            refine Wk.iload (pc' := 177) d8_175 rfl rfl ?_
            refine Wk.aloadN (pc' := 178) d8_177 rfl rfl rfl ?_
            refine Wk.getF0 (pc' := 181) (i := 0) (j := 2) d8_178 (wd14 hw) rfl rfl rfl rfl ?_
            refine Wk.iload (pc' := 183) d8_181 rfl rfl ?_
            obtain ⟨v50, ev50, hM⟩ := Option.bind_eq_some_iff.mp hM
            refine Wk.ialoadG (pc' := 184) (i := 4) d8_183 rfl ev50 rfl ?_
            obtain ⟨l51, el51, hM⟩ := Option.bind_eq_some_iff.mp hM
            refine Wk.iastoreG (pc' := 185) (i := 1) (H' := [obj "com/example/dissect/dissect/ReachedRanges" ksRR [(rf hB 3), (.int mem), (rf hB 4), (rf hB 5), (.int rg), (rf hB 1), (rf hB 2)], ints l51, ints mH, ints fr, ints lo, ints hi]) d8_184 rfl el51 rfl rfl ?_
            refine Wk.aloadN (pc' := 186) d8_185 rfl rfl rfl ?_
            refine Wk.getF0 (pc' := 189) (i := 0) (j := 6) d8_186 (wd21 hw) rfl rfl rfl rfl ?_
            refine Wk.iload (pc' := 191) d8_189 rfl rfl ?_
            refine Wk.aloadN (pc' := 192) d8_191 rfl rfl rfl ?_
            refine Wk.getF0 (pc' := 195) (i := 0) (j := 3) d8_192 (wd16 hw) rfl rfl rfl rfl ?_
            refine Wk.iload (pc' := 197) d8_195 rfl rfl ?_
            obtain ⟨v52, ev52, hM⟩ := Option.bind_eq_some_iff.mp hM
            refine Wk.ialoadG (pc' := 198) (i := 5) d8_197 rfl ev52 rfl ?_
            obtain ⟨l53, el53, hM⟩ := Option.bind_eq_some_iff.mp hM
            refine Wk.iastoreG (pc' := 199) (i := 2) (H' := [obj "com/example/dissect/dissect/ReachedRanges" ksRR [(rf hB 3), (.int mem), (rf hB 4), (rf hB 5), (.int rg), (rf hB 1), (rf hB 2)], ints l51, ints l53, ints fr, ints lo, ints hi]) d8_198 rfl el53 rfl rfl ?_
            refine Wk.iinc (pc' := 202) (Ls' := #[.val (rf hB 0), .val (.int me), .val (.int nw), .val (.int nf), .val (.int en), .val (.int (mg + (1 : Int32))), .val (.int own), .val (.int (oth + (1 : Int32))), .val (.int (0 : Int32)), .val (.int oth)]) (mg + (1 : Int32)) d8_199 rfl (by rfl) rfl rfl ?_
            refine Wk.goTo (pc' := 38) d8_202 (by decide) (by decide) ?_
            exact ih ((mg + (1 : Int32))) (own) ((oth + (1 : Int32))) (l51) (l53) (.val (.int (0 : Int32))) (Or.inr ⟨_, rfl, rfl⟩) (.val (.int oth)) (Or.inr ⟨_, rfl, rfl⟩) out hM hk
      ·
        rw [if_neg hc10] at hM
        refine Wk.icY (pc' := 205) d8_51 (XT.ii_ge_t hc10) (by decide) (by decide) ?_
        obtain rfl := Option.some.inj hM
        exact hk (s8) hs8 (s9) hs9
def Fm_l2 (me : Int32) (nw : Int32) (nf : Int32) (en : Int32) (mg : Int32) (own : Int32) (oth : Int32) (mem : Int32) (fr : List Int32) (mL : List Int32) (mH : List Int32) : Nat → Int32 → Int32 → List Int32 → List Int32 → Option (Int32 × Int32 × List Int32 × List Int32)
  | 0, _, _, _, _ => none
  | n + 1, i, rg, lo, hi =>
    if i < mg then ((Wk.gI mL i).bind fun v1 =>
    (Wk.gI mH i).bind fun v2 =>
    (Fm_app (mem) (rg) (mL) (mH) (fr) (lo) (hi) v1 v2).bind fun q3 =>
    Fm_l2 me nw nf en mg own oth mem fr mL mH n ((i + (1 : Int32))) (q3.2.2) (q3.1) (q3.2.1)) else (some (i, rg, lo, hi))
set_option maxRecDepth 65536 in
set_option maxHeartbeats 40000000 in
theorem m_l2 (l : Launch) (Z : State) (a0 : Array Value) (hw : ∀ d ∈ tables_1, d.before a0 Z = true) (hB : Heap) (me : Int32) (nw : Int32) (nf : Int32) (en : Int32) (mg : Int32) (own : Int32) (oth : Int32) (mem : Int32) (fr : List Int32) (mL : List Int32) (mH : List Int32) (n1 sl : Nat) (Q : Option Value → List Rec → Prop) (hsl : sl ≤ 0) (hcl : 6 ≤ n1) : ∀ (n : Nat) (i : Int32) (rg : Int32) (lo : List Int32) (hi : List Int32) (s9 : Slot) (hs9 : s9 = .unset ∨ ∃ w, s9 = .val w ∧ w.category = 1) (out : Int32 × Int32 × List Int32 × List Int32), Fm_l2 me nw nf en mg own oth mem fr mL mH n i rg lo hi = some out → (∀ (s9 : Slot) (hs9 : s9 = .unset ∨ ∃ w, s9 = .val w ∧ w.category = 1), WP l Z hB ({ cls := "com/example/dissect/dissect/ReachedRanges", name := "reach", desc := "(I)V" } : Jvm.MethodName) prog_101_method_3_code 10 none ({ frames := 1, cells := 0, slots := 0, locals := 40 } : Room) n1 Q sl [obj "com/example/dissect/dissect/ReachedRanges" ksRR [(rf hB 3), (.int mem), (rf hB 4), (rf hB 5), (.int out.2.1), (rf hB 1), (rf hB 2)], ints mL, ints mH, ints fr, ints out.2.2.1, ints out.2.2.2] 261 #[.val (rf hB 0), .val (.int me), .val (.int nw), .val (.int nf), .val (.int en), .val (.int mg), .val (.int own), .val (.int oth), .val (.int out.1), s9] []) → WP l Z hB ({ cls := "com/example/dissect/dissect/ReachedRanges", name := "reach", desc := "(I)V" } : Jvm.MethodName) prog_101_method_3_code 10 none ({ frames := 1, cells := 0, slots := 0, locals := 40 } : Room) n1 Q sl [obj "com/example/dissect/dissect/ReachedRanges" ksRR [(rf hB 3), (.int mem), (rf hB 4), (rf hB 5), (.int rg), (rf hB 1), (rf hB 2)], ints mL, ints mH, ints fr, ints lo, ints hi] 230 #[.val (rf hB 0), .val (.int me), .val (.int nw), .val (.int nf), .val (.int en), .val (.int mg), .val (.int own), .val (.int oth), .val (.int i), s9] [] := by
  intro n
  induction n with
  | zero => intro _ _ _ _ _ _ out hM; cases hM
  | succ n ih =>
    intro i rg lo hi s9 hs9 out hM hk
    simp only [Fm_l2] at hM
    refine Wk.iload (pc' := 232) d8_230 rfl rfl ?_
    refine Wk.iload (pc' := 234) d8_232 rfl rfl ?_
    by_cases hc1 : i < mg
    ·
      rw [if_pos hc1] at hM
      refine Wk.icN (pc' := 237) d8_234 (XT.ii_ge_f hc1) rfl ?_
      refine Wk.aloadN (pc' := 238) d8_237 rfl rfl rfl ?_
      refine Wk.aloadN (pc' := 239) d8_238 rfl rfl rfl ?_
      refine Wk.getF0 (pc' := 242) (i := 0) (j := 5) d8_239 (wd19 hw) rfl rfl rfl rfl ?_
      refine Wk.iload (pc' := 244) d8_242 rfl rfl ?_
      obtain ⟨v1, ev1, hM⟩ := Option.bind_eq_some_iff.mp hM
      refine Wk.ialoadG (pc' := 245) (i := 1) d8_244 rfl ev1 rfl ?_
      refine Wk.aloadN (pc' := 246) d8_245 rfl rfl rfl ?_
      refine Wk.getF0 (pc' := 249) (i := 0) (j := 6) d8_246 (wd21 hw) rfl rfl rfl rfl ?_
      refine Wk.iload (pc' := 251) d8_249 rfl rfl ?_
      obtain ⟨v2, ev2, hM⟩ := Option.bind_eq_some_iff.mp hM
      refine Wk.ialoadG (pc' := 252) (i := 2) d8_251 rfl ev2 rfl ?_
      obtain ⟨q3, eq3, hM⟩ := Option.bind_eq_some_iff.mp hM
      refine Wk.callP (pc' := 255) (argsL := [(.int v1), (.int v2)]) (st := []) d8_252 (wd47 hw) (wd48 hw) (Jvm.Kit.selects_private (by decide) (wd2 hw) (wd49 hw) (wd48 hw)) (wd49 hw) (wd3 hw) (wd50 hw) (by decide) (lenOf pd_2 rfl) (fun _ P => P.exa rfl) (m_app l Z a0 hw hB (mem) (rg) (mL) (mH) (fr) (lo) (hi) v1 v2 q3 eq3) rfl (Nat.le_of_ble_eq_true rfl) (Nat.le_of_ble_eq_true rfl) hcl (by first | exact hsl | omega) rfl rfl ?_
      rintro _ _ ⟨rfl, hH⟩; obtain rfl := hH.symm
      show WP l Z hB _ _ _ _ _ _ _ _ [obj "com/example/dissect/dissect/ReachedRanges" ksRR [(rf hB 3), (.int mem), (rf hB 4), (rf hB 5), (.int q3.2.2), (rf hB 1), (rf hB 2)], ints mL, ints mH, ints fr, ints q3.1, ints q3.2.1] _ _ []
      refine Wk.iinc (pc' := 258) (Ls' := #[.val (rf hB 0), .val (.int me), .val (.int nw), .val (.int nf), .val (.int en), .val (.int mg), .val (.int own), .val (.int oth), .val (.int (i + (1 : Int32))), s9]) (i + (1 : Int32)) d8_255 rfl (by rfl) rfl rfl ?_
      refine Wk.goTo (pc' := 230) d8_258 (by decide) (by decide) ?_
      exact ih ((i + (1 : Int32))) (q3.2.2) (q3.1) (q3.2.1) (s9) hs9 out hM hk
    ·
      rw [if_neg hc1] at hM
      refine Wk.icY (pc' := 261) d8_234 (XT.ii_ge_t hc1) (by decide) (by decide) ?_
      obtain rfl := Option.some.inj hM
      exact hk (s9) hs9
def Fm_reach (mem : Int32) (rg : Int32) (mL : List Int32) (mH : List Int32) (fr : List Int32) (lo : List Int32) (hi : List Int32) (me : Int32) : Option (Int32 × List Int32 × List Int32 × List Int32 × List Int32) :=
    (Wk.gI fr (mem - (1 : Int32))).bind fun v1 =>
    (Wk.gI fr (me + (1 : Int32))).bind fun v2 =>
    (Wk.gI fr me).bind fun v3 =>
    (Fm_l1 (me) ((mem - (1 : Int32))) (v1) (v2) (mem) (rg) (fr) (lo) (hi) 40 ((0 : Int32)) (v1) (v3) (mL) (mH)).bind fun q4 =>
    if (4 : Int32) < q4.1 then (none) else ((Fm_l2 (me) ((mem - (1 : Int32))) (v1) (v2) (q4.1) (q4.2.1) (q4.2.2.1) (mem) (fr) (q4.2.2.2.1) (q4.2.2.2.2) 20 ((0 : Int32)) (v1) (lo) (hi)).bind fun q5 =>
    some (q5.2.1, q4.2.2.2.1, q4.2.2.2.2, q5.2.2.1, q5.2.2.2))
set_option maxRecDepth 65536 in
set_option maxHeartbeats 40000000 in
theorem m_reach (l : Launch) (Z : State) (a0 : Array Value) (hw : ∀ d ∈ tables_1, d.before a0 Z = true) (hB : Heap)  (mem : Int32) (rg : Int32) (mL : List Int32) (mH : List Int32) (fr : List Int32) (lo : List Int32) (hi : List Int32) (me : Int32) (out : Int32 × List Int32 × List Int32 × List Int32 × List Int32) (hM : Fm_reach mem rg mL mH fr lo hi me = some out) : Ctr l Z hB ({ cls := "com/example/dissect/dissect/ReachedRanges", name := "reach", desc := "(I)V" } : Jvm.MethodName) prog_101_method_3_code 10 none [] ({ frames := 1, cells := 0, slots := 0, locals := 40 } : Room) #[(rf hB 0), (.int me)] [obj "com/example/dissect/dissect/ReachedRanges" ksRR [(rf hB 3), (.int mem), (rf hB 4), (rf hB 5), (.int rg), (rf hB 1), (rf hB 2)], ints mL, ints mH, ints fr, ints lo, ints hi] (fun v H' => v = none ∧ H' = [obj "com/example/dissect/dissect/ReachedRanges" ksRR [(rf hB 3), (.int mem), (rf hB 4), (rf hB 5), (.int out.1), (rf hB 1), (rf hB 2)], ints out.2.1, ints out.2.2.1, ints fr, ints out.2.2.2.1, ints out.2.2.2.2]) := by
  refine Wk.ctr pn_6 (Ls := #[.val (rf hB 0), .val (.int me), .unset, .unset, .unset, .unset, .unset, .unset, .unset, .unset]) (fun m => by first | rfl | (simp [entryFrame, mkF, argsToLocals, Value.category]; done)) ?_
  simp only [Fm_reach] at hM
  refine Wk.aloadN (pc' := 1) d8_0 rfl rfl rfl ?_
  refine Wk.getF0 (pc' := 4) (i := 0) (j := 1) d8_1 (wd28 hw) rfl rfl rfl rfl ?_
  refine Wk.iconst (pc' := 5) (1 : Int32) d8_4 (by decide) rfl ?_
  refine Wk.isub (pc' := 6) d8_5 rfl ?_
  refine Wk.istoreN (pc' := 7) (Ls' := #[.val (rf hB 0), .val (.int me), .val (.int (mem - (1 : Int32))), .unset, .unset, .unset, .unset, .unset, .unset, .unset]) d8_6 rfl rfl ?_
  refine Wk.aloadN (pc' := 8) d8_7 rfl rfl rfl ?_
  refine Wk.getF0 (pc' := 11) (i := 0) (j := 0) d8_8 (wd12 hw) rfl rfl rfl rfl ?_
  refine Wk.iloadN (pc' := 12) d8_11 rfl rfl ?_
  obtain ⟨v1, ev1, hM⟩ := Option.bind_eq_some_iff.mp hM
  refine Wk.ialoadG (pc' := 13) (i := 3) d8_12 rfl ev1 rfl ?_
  refine Wk.istoreN (pc' := 14) (Ls' := #[.val (rf hB 0), .val (.int me), .val (.int (mem - (1 : Int32))), .val (.int v1), .unset, .unset, .unset, .unset, .unset, .unset]) d8_13 rfl rfl ?_
  refine Wk.aloadN (pc' := 15) d8_14 rfl rfl rfl ?_
  refine Wk.getF0 (pc' := 18) (i := 0) (j := 0) d8_15 (wd12 hw) rfl rfl rfl rfl ?_
  refine Wk.iloadN (pc' := 19) d8_18 rfl rfl ?_
  refine Wk.iconst (pc' := 20) (1 : Int32) d8_19 (by decide) rfl ?_
  refine Wk.iadd (pc' := 21) d8_20 rfl ?_
  obtain ⟨v2, ev2, hM⟩ := Option.bind_eq_some_iff.mp hM
  refine Wk.ialoadG (pc' := 22) (i := 3) d8_21 rfl ev2 rfl ?_
  refine Wk.istore (pc' := 24) (Ls' := #[.val (rf hB 0), .val (.int me), .val (.int (mem - (1 : Int32))), .val (.int v1), .val (.int v2), .unset, .unset, .unset, .unset, .unset]) d8_22 rfl rfl ?_
  refine Wk.iconst (pc' := 25) (0 : Int32) d8_24 (by decide) rfl ?_
  refine Wk.istore (pc' := 27) (Ls' := #[.val (rf hB 0), .val (.int me), .val (.int (mem - (1 : Int32))), .val (.int v1), .val (.int v2), .val (.int (0 : Int32)), .unset, .unset, .unset, .unset]) d8_25 rfl rfl ?_
  refine Wk.iloadN (pc' := 28) d8_27 rfl rfl ?_
  refine Wk.istore (pc' := 30) (Ls' := #[.val (rf hB 0), .val (.int me), .val (.int (mem - (1 : Int32))), .val (.int v1), .val (.int v2), .val (.int (0 : Int32)), .val (.int v1), .unset, .unset, .unset]) d8_28 rfl rfl ?_
  refine Wk.aloadN (pc' := 31) d8_30 rfl rfl rfl ?_
  refine Wk.getF0 (pc' := 34) (i := 0) (j := 0) d8_31 (wd12 hw) rfl rfl rfl rfl ?_
  refine Wk.iloadN (pc' := 35) d8_34 rfl rfl ?_
  obtain ⟨v3, ev3, hM⟩ := Option.bind_eq_some_iff.mp hM
  refine Wk.ialoadG (pc' := 36) (i := 3) d8_35 rfl ev3 rfl ?_
  refine Wk.istore (pc' := 38) (Ls' := #[.val (rf hB 0), .val (.int me), .val (.int (mem - (1 : Int32))), .val (.int v1), .val (.int v2), .val (.int (0 : Int32)), .val (.int v1), .val (.int v3), .unset, .unset]) d8_36 rfl rfl ?_
  obtain ⟨q4, eq4, hM⟩ := Option.bind_eq_some_iff.mp hM
  refine m_l1 l Z a0 hw hB (me) ((mem - (1 : Int32))) (v1) (v2) (mem) (rg) (fr) (lo) (hi) 6 0 _ (Nat.le_refl _) (Nat.le_refl _) 40 ((0 : Int32)) (v1) (v3) (mL) (mH) (.unset) (Or.inl rfl) (.unset) (Or.inl rfl) q4 eq4 ?_
  intro s8 hs8 s9 hs9
  refine Wk.iload (pc' := 207) d8_205 rfl rfl ?_
  refine Wk.iconst (pc' := 208) (4 : Int32) d8_207 (by decide) rfl ?_
  by_cases hc1 : (4 : Int32) < q4.1
  ·
    rw [if_pos hc1] at hM
    cases hM
  ·
    rw [if_neg hc1] at hM
    refine Wk.icY (pc' := 222) d8_208 (XT.ii_le_t hc1) (by decide) (by decide) ?_
    refine Wk.aloadN (pc' := 223) d8_222 rfl rfl rfl ?_
    refine Wk.iloadN (pc' := 224) d8_223 rfl rfl ?_
    refine Wk.putF0 (pc' := 227) (i := 0) (j := 4) (H' := [obj "com/example/dissect/dissect/ReachedRanges" ksRR [(rf hB 3), (.int mem), (rf hB 4), (rf hB 5), (.int v1), (rf hB 1), (rf hB 2)], ints q4.2.2.2.1, ints q4.2.2.2.2, ints fr, ints lo, ints hi]) (ty := .int) d8_224 (wd45 hw) rfl rfl (Nat.le_of_ble_eq_true rfl) (Or.inl (wd46 hw)) (wd2 hw) (by decide) rfl rfl rfl rfl ?_
    refine Wk.iconst (pc' := 228) (0 : Int32) d8_227 (by decide) rfl ?_
    refine Wk.istore (pc' := 230) (Ls' := #[.val (rf hB 0), .val (.int me), .val (.int (mem - (1 : Int32))), .val (.int v1), .val (.int v2), .val (.int q4.1), .val (.int q4.2.1), .val (.int q4.2.2.1), .val (.int (0 : Int32)), s9]) d8_228 (XS.store1 rfl hs8 rfl) rfl ?_
    obtain ⟨q5, eq5, hM⟩ := Option.bind_eq_some_iff.mp hM
    refine m_l2 l Z a0 hw hB (me) ((mem - (1 : Int32))) (v1) (v2) (q4.1) (q4.2.1) (q4.2.2.1) (mem) (fr) (q4.2.2.2.1) (q4.2.2.2.2) 6 0 _ (Nat.le_refl _) (Nat.le_refl _) 20 ((0 : Int32)) (v1) (lo) (hi) (s9) hs9 q5 eq5 ?_
    intro s9 hs9
    obtain rfl := Option.some.inj hM
    exact Wk.vret d8_261 rfl (Nat.le_of_ble_eq_true rfl) (Nat.le_of_ble_eq_true rfl) ⟨rfl, rfl⟩
def Fm_l3 (f : Int32) (t : Int32) (en : Int32) (mem : Int32) (rg : Int32) (mL : List Int32) (mH : List Int32) (fr : List Int32) (lo : List Int32) (hi : List Int32) : Nat → Int32 → Int32 → Option (Int32 × Int32)
  | 0, _, _ => none
  | n + 1, ins, r =>
    if r < en then (if ins = (0 : Int32) then ((Wk.gI lo r).bind fun v1 =>
    if t < v1 then (Fm_l3 f t en mem rg mL mH fr lo hi n ((0 : Int32)) ((r + (1 : Int32)))) else ((Wk.gI hi r).bind fun v2 =>
    if v2 < t then (Fm_l3 f t en mem rg mL mH fr lo hi n ((0 : Int32)) ((r + (1 : Int32)))) else (Fm_l3 f t en mem rg mL mH fr lo hi n ((1 : Int32)) ((r + (1 : Int32)))))) else (some (ins, r))) else (some (ins, r))
set_option maxRecDepth 65536 in
set_option maxHeartbeats 40000000 in
theorem m_l3 (l : Launch) (Z : State) (a0 : Array Value) (hw : ∀ d ∈ tables_1, d.before a0 Z = true) (hB : Heap) (f : Int32) (t : Int32) (en : Int32) (mem : Int32) (rg : Int32) (mL : List Int32) (mH : List Int32) (fr : List Int32) (lo : List Int32) (hi : List Int32) (n1 sl : Nat) (Q : Option Value → List Rec → Prop)  : ∀ (n : Nat) (ins : Int32) (r : Int32)  (out : Int32 × Int32), Fm_l3 f t en mem rg mL mH fr lo hi n ins r = some out → (WP l Z hB ({ cls := "com/example/dissect/dissect/ReachedRanges", name := "mayReach", desc := "(II)Z" } : Jvm.MethodName) prog_101_method_4_code 6 (some .boolean) ({ frames := 0, cells := 0, slots := 0, locals := 0 } : Room) n1 Q sl [obj "com/example/dissect/dissect/ReachedRanges" ksRR [(rf hB 3), (.int mem), (rf hB 4), (rf hB 5), (.int rg), (rf hB 1), (rf hB 2)], ints mL, ints mH, ints fr, ints lo, ints hi] 83 #[.val (rf hB 0), .val (.int f), .val (.int t), .val (.int en), .val (.int out.1), .val (.int out.2)] []) → WP l Z hB ({ cls := "com/example/dissect/dissect/ReachedRanges", name := "mayReach", desc := "(II)Z" } : Jvm.MethodName) prog_101_method_4_code 6 (some .boolean) ({ frames := 0, cells := 0, slots := 0, locals := 0 } : Room) n1 Q sl [obj "com/example/dissect/dissect/ReachedRanges" ksRR [(rf hB 3), (.int mem), (rf hB 4), (rf hB 5), (.int rg), (rf hB 1), (rf hB 2)], ints mL, ints mH, ints fr, ints lo, ints hi] 37 #[.val (rf hB 0), .val (.int f), .val (.int t), .val (.int en), .val (.int ins), .val (.int r)] [] := by
  intro n
  induction n with
  | zero => intro _ _ out hM; cases hM
  | succ n ih =>
    intro ins r  out hM hk
    simp only [Fm_l3] at hM
    refine Wk.iload (pc' := 39) d7_37 rfl rfl ?_
    refine Wk.iloadN (pc' := 40) d7_39 rfl rfl ?_
    by_cases hc1 : r < en
    ·
      rw [if_pos hc1] at hM
      refine Wk.icN (pc' := 43) d7_40 (XT.ii_ge_f hc1) rfl ?_
      refine Wk.iload (pc' := 45) d7_43 rfl rfl ?_
      by_cases hc2 : ins = (0 : Int32)
      ·
        rw [if_pos hc2] at hM
        refine Wk.ifN (pc' := 48) d7_45 (XT.i0_ne_f hc2) rfl ?_
        refine Wk.aloadN (pc' := 49) d7_48 rfl rfl rfl ?_
        refine Wk.getF0 (pc' := 52) (i := 0) (j := 2) d7_49 (wd14 hw) rfl rfl rfl rfl ?_
        refine Wk.iload (pc' := 54) d7_52 rfl rfl ?_
        obtain ⟨v1, ev1, hM⟩ := Option.bind_eq_some_iff.mp hM
        refine Wk.ialoadG (pc' := 55) (i := 4) d7_54 rfl ev1 rfl ?_
        refine Wk.iloadN (pc' := 56) d7_55 rfl rfl ?_
        by_cases hc3 : t < v1
        ·
          rw [if_pos hc3] at hM
          refine Wk.icY (pc' := 74) d7_56 (XT.ii_gt_t hc3) (by decide) (by decide) ?_
          refine Wk.iconst (pc' := 75) (0 : Int32) d7_74 (by decide) rfl ?_
          refine Wk.istore (pc' := 77) (Ls' := #[.val (rf hB 0), .val (.int f), .val (.int t), .val (.int en), .val (.int (0 : Int32)), .val (.int r)]) d7_75 rfl rfl ?_
          refine Wk.iinc (pc' := 80) (Ls' := #[.val (rf hB 0), .val (.int f), .val (.int t), .val (.int en), .val (.int (0 : Int32)), .val (.int (r + (1 : Int32)))]) (r + (1 : Int32)) d7_77 rfl (by rfl) rfl rfl ?_
          refine Wk.goTo (pc' := 37) d7_80 (by decide) (by decide) ?_
          exact ih ((0 : Int32)) ((r + (1 : Int32)))  out hM hk
        ·
          rw [if_neg hc3] at hM
          refine Wk.icN (pc' := 59) d7_56 (XT.ii_gt_f hc3) rfl ?_
          refine Wk.iloadN (pc' := 60) d7_59 rfl rfl ?_
          refine Wk.aloadN (pc' := 61) d7_60 rfl rfl rfl ?_
          refine Wk.getF0 (pc' := 64) (i := 0) (j := 3) d7_61 (wd16 hw) rfl rfl rfl rfl ?_
          refine Wk.iload (pc' := 66) d7_64 rfl rfl ?_
          obtain ⟨v2, ev2, hM⟩ := Option.bind_eq_some_iff.mp hM
          refine Wk.ialoadG (pc' := 67) (i := 5) d7_66 rfl ev2 rfl ?_
          by_cases hc4 : v2 < t
          ·
            rw [if_pos hc4] at hM
            refine Wk.icY (pc' := 74) d7_67 (XT.ii_gt_t hc4) (by decide) (by decide) ?_
            refine Wk.iconst (pc' := 75) (0 : Int32) d7_74 (by decide) rfl ?_
            refine Wk.istore (pc' := 77) (Ls' := #[.val (rf hB 0), .val (.int f), .val (.int t), .val (.int en), .val (.int (0 : Int32)), .val (.int r)]) d7_75 rfl rfl ?_
            refine Wk.iinc (pc' := 80) (Ls' := #[.val (rf hB 0), .val (.int f), .val (.int t), .val (.int en), .val (.int (0 : Int32)), .val (.int (r + (1 : Int32)))]) (r + (1 : Int32)) d7_77 rfl (by rfl) rfl rfl ?_
            refine Wk.goTo (pc' := 37) d7_80 (by decide) (by decide) ?_
            exact ih ((0 : Int32)) ((r + (1 : Int32)))  out hM hk
          ·
            rw [if_neg hc4] at hM
            refine Wk.icN (pc' := 70) d7_67 (XT.ii_gt_f hc4) rfl ?_
            refine Wk.iconst (pc' := 71) (1 : Int32) d7_70 (by decide) rfl ?_
            refine Wk.goTo (pc' := 75) d7_71 (by decide) (by decide) ?_
            refine Wk.istore (pc' := 77) (Ls' := #[.val (rf hB 0), .val (.int f), .val (.int t), .val (.int en), .val (.int (1 : Int32)), .val (.int r)]) d7_75 rfl rfl ?_
            refine Wk.iinc (pc' := 80) (Ls' := #[.val (rf hB 0), .val (.int f), .val (.int t), .val (.int en), .val (.int (1 : Int32)), .val (.int (r + (1 : Int32)))]) (r + (1 : Int32)) d7_77 rfl (by rfl) rfl rfl ?_
            refine Wk.goTo (pc' := 37) d7_80 (by decide) (by decide) ?_
            exact ih ((1 : Int32)) ((r + (1 : Int32)))  out hM hk
      ·
        rw [if_neg hc2] at hM
        refine Wk.ifY (pc' := 83) d7_45 (XT.i0_ne_t hc2) (by decide) (by decide) ?_
        obtain rfl := Option.some.inj hM
        exact hk 
    ·
      rw [if_neg hc1] at hM
      refine Wk.icY (pc' := 83) d7_40 (XT.ii_ge_t hc1) (by decide) (by decide) ?_
      obtain rfl := Option.some.inj hM
      exact hk 
def Fm_may (mem : Int32) (rg : Int32) (mL : List Int32) (mH : List Int32) (fr : List Int32) (lo : List Int32) (hi : List Int32) (f : Int32) (t : Int32) : Option (Int32) :=
    if f = (mem - (1 : Int32)) then ((Wk.gI fr f).bind fun v1 =>
    (Fm_l3 (f) (t) (rg) (mem) (rg) (mL) (mH) (fr) (lo) (hi) 20 ((0 : Int32)) (v1)).bind fun q2 =>
    some q2.1) else ((Wk.gI fr (f + (1 : Int32))).bind fun v3 =>
    (Wk.gI fr f).bind fun v4 =>
    (Fm_l3 (f) (t) (v3) (mem) (rg) (mL) (mH) (fr) (lo) (hi) 20 ((0 : Int32)) (v4)).bind fun q5 =>
    some q5.1)
set_option maxRecDepth 65536 in
set_option maxHeartbeats 40000000 in
theorem m_may (l : Launch) (Z : State) (a0 : Array Value) (hw : ∀ d ∈ tables_1, d.before a0 Z = true) (hB : Heap)  (mem : Int32) (rg : Int32) (mL : List Int32) (mH : List Int32) (fr : List Int32) (lo : List Int32) (hi : List Int32) (f : Int32) (t : Int32) (out : Int32) (hM : Fm_may mem rg mL mH fr lo hi f t = some out) : Ctr l Z hB ({ cls := "com/example/dissect/dissect/ReachedRanges", name := "mayReach", desc := "(II)Z" } : Jvm.MethodName) prog_101_method_4_code 6 (some .boolean) [] ({ frames := 0, cells := 0, slots := 0, locals := 0 } : Room) #[(rf hB 0), (.int f), (.int t)] [obj "com/example/dissect/dissect/ReachedRanges" ksRR [(rf hB 3), (.int mem), (rf hB 4), (rf hB 5), (.int rg), (rf hB 1), (rf hB 2)], ints mL, ints mH, ints fr, ints lo, ints hi] (fun v H' => v = some (.int (nar .boolean out)) ∧ H' = [obj "com/example/dissect/dissect/ReachedRanges" ksRR [(rf hB 3), (.int mem), (rf hB 4), (rf hB 5), (.int rg), (rf hB 1), (rf hB 2)], ints mL, ints mH, ints fr, ints lo, ints hi]) := by
  refine Wk.ctr pn_7 (Ls := #[.val (rf hB 0), .val (.int f), .val (.int t), .unset, .unset, .unset]) (fun m => by first | rfl | (simp [entryFrame, mkF, argsToLocals, Value.category]; done)) ?_
  simp only [Fm_may] at hM
  refine Wk.iloadN (pc' := 1) d7_0 rfl rfl ?_
  refine Wk.aloadN (pc' := 2) d7_1 rfl rfl rfl ?_
  refine Wk.getF0 (pc' := 5) (i := 0) (j := 1) d7_2 (wd28 hw) rfl rfl rfl rfl ?_
  refine Wk.iconst (pc' := 6) (1 : Int32) d7_5 (by decide) rfl ?_
  refine Wk.isub (pc' := 7) d7_6 rfl ?_
  by_cases hc1 : f = (mem - (1 : Int32))
  ·
    rw [if_pos hc1] at hM
    refine Wk.icN (pc' := 10) d7_7 (XT.ii_ne_f hc1) rfl ?_
    refine Wk.aloadN (pc' := 11) d7_10 rfl rfl rfl ?_
    refine Wk.getF0 (pc' := 14) (i := 0) (j := 4) d7_11 (wd45 hw) rfl rfl rfl rfl ?_
    refine Wk.goTo (pc' := 25) d7_14 (by decide) (by decide) ?_
    refine Wk.istoreN (pc' := 26) (Ls' := #[.val (rf hB 0), .val (.int f), .val (.int t), .val (.int rg), .unset, .unset]) d7_25 rfl rfl ?_
    refine Wk.iconst (pc' := 27) (0 : Int32) d7_26 (by decide) rfl ?_
    refine Wk.istore (pc' := 29) (Ls' := #[.val (rf hB 0), .val (.int f), .val (.int t), .val (.int rg), .val (.int (0 : Int32)), .unset]) d7_27 rfl rfl ?_
    refine Wk.aloadN (pc' := 30) d7_29 rfl rfl rfl ?_
    refine Wk.getF0 (pc' := 33) (i := 0) (j := 0) d7_30 (wd12 hw) rfl rfl rfl rfl ?_
    refine Wk.iloadN (pc' := 34) d7_33 rfl rfl ?_
    obtain ⟨v1, ev1, hM⟩ := Option.bind_eq_some_iff.mp hM
    refine Wk.ialoadG (pc' := 35) (i := 3) d7_34 rfl ev1 rfl ?_
    refine Wk.istore (pc' := 37) (Ls' := #[.val (rf hB 0), .val (.int f), .val (.int t), .val (.int rg), .val (.int (0 : Int32)), .val (.int v1)]) d7_35 rfl rfl ?_
    obtain ⟨q2, eq2, hM⟩ := Option.bind_eq_some_iff.mp hM
    refine m_l3 l Z a0 hw hB (f) (t) (rg) (mem) (rg) (mL) (mH) (fr) (lo) (hi) 6 0 _ 20 ((0 : Int32)) (v1) q2 eq2 ?_
    refine Wk.iload (pc' := 85) d7_83 rfl rfl ?_
    obtain rfl := Option.some.inj hM
    exact Wk.iretN (t := .boolean) d7_85 rfl (by simp) (Nat.le_of_ble_eq_true rfl) (Nat.le_of_ble_eq_true rfl) ⟨rfl, rfl⟩
  ·
    rw [if_neg hc1] at hM
    refine Wk.icY (pc' := 17) d7_7 (XT.ii_ne_t hc1) (by decide) (by decide) ?_
    refine Wk.aloadN (pc' := 18) d7_17 rfl rfl rfl ?_
    refine Wk.getF0 (pc' := 21) (i := 0) (j := 0) d7_18 (wd12 hw) rfl rfl rfl rfl ?_
    refine Wk.iloadN (pc' := 22) d7_21 rfl rfl ?_
    refine Wk.iconst (pc' := 23) (1 : Int32) d7_22 (by decide) rfl ?_
    refine Wk.iadd (pc' := 24) d7_23 rfl ?_
    obtain ⟨v3, ev3, hM⟩ := Option.bind_eq_some_iff.mp hM
    refine Wk.ialoadG (pc' := 25) (i := 3) d7_24 rfl ev3 rfl ?_
    refine Wk.istoreN (pc' := 26) (Ls' := #[.val (rf hB 0), .val (.int f), .val (.int t), .val (.int v3), .unset, .unset]) d7_25 rfl rfl ?_
    refine Wk.iconst (pc' := 27) (0 : Int32) d7_26 (by decide) rfl ?_
    refine Wk.istore (pc' := 29) (Ls' := #[.val (rf hB 0), .val (.int f), .val (.int t), .val (.int v3), .val (.int (0 : Int32)), .unset]) d7_27 rfl rfl ?_
    refine Wk.aloadN (pc' := 30) d7_29 rfl rfl rfl ?_
    refine Wk.getF0 (pc' := 33) (i := 0) (j := 0) d7_30 (wd12 hw) rfl rfl rfl rfl ?_
    refine Wk.iloadN (pc' := 34) d7_33 rfl rfl ?_
    obtain ⟨v4, ev4, hM⟩ := Option.bind_eq_some_iff.mp hM
    refine Wk.ialoadG (pc' := 35) (i := 3) d7_34 rfl ev4 rfl ?_
    refine Wk.istore (pc' := 37) (Ls' := #[.val (rf hB 0), .val (.int f), .val (.int t), .val (.int v3), .val (.int (0 : Int32)), .val (.int v4)]) d7_35 rfl rfl ?_
    obtain ⟨q5, eq5, hM⟩ := Option.bind_eq_some_iff.mp hM
    refine m_l3 l Z a0 hw hB (f) (t) (v3) (mem) (rg) (mL) (mH) (fr) (lo) (hi) 6 0 _ 20 ((0 : Int32)) (v4) q5 eq5 ?_
    refine Wk.iload (pc' := 85) d7_83 rfl rfl ?_
    obtain rfl := Option.some.inj hM
    exact Wk.iretN (t := .boolean) d7_85 rfl (by simp) (Nat.le_of_ble_eq_true rfl) (Nat.le_of_ble_eq_true rfl) ⟨rfl, rfl⟩
def expB (m t : Int32) : Int32 := if t < 0 then 0 else if 4 < t then 0 else if ((m >>> (t &&& 31)) &&& 1) = 0 then 0 else 1
def selM (f m2 m3 m4 : Int32) : Int32 := if f = 0 then 1 else if f = 1 then 2 else if f = 2 then m2 else if f = 3 then m3 else m4
def bm (b k : Int32) : Int32 := if b = 0 then 0 else k
def clI (t : Int32) : Int32 := if t < 0 then -1 else if 4 < t then 5 else t
theorem expB_nar (m t : Int32) : nar .boolean (expB m t) = expB m t := by unfold expB; split; rfl; split; rfl; split <;> rfl
theorem expB_cl (m t : Int32) : expB m (clI t) = expB m t := by
  unfold clI; split
  · rename_i h; rw [expB, if_pos (by decide), expB, if_pos h]
  · rename_i h; split
    · rename_i h2; rw [expB, if_neg (by decide), if_pos (by decide), expB, if_neg h, if_pos h2]
    · rfl
theorem cl_cases (t : Int32) : ∃ j : Fin 7, clI t = Int32.ofInt ((j.val : Int) - 1) := by
  unfold clI; split
  · exact ⟨0, by decide⟩
  · rename_i h; split
    · exact ⟨6, by decide⟩
    · rename_i h2
      rw [Int32.lt_iff_toInt_lt] at h h2
      have e0 : (0 : Int32).toInt = 0 := rfl
      have e4 : (4 : Int32).toInt = 4 := rfl
      refine ⟨⟨(t.toInt + 1).toNat, by omega⟩, Int32.toInt_inj.mp ?_⟩
      show t.toInt = _
      have : ((((t.toInt + 1).toNat : Nat) : Int) - 1) = t.toInt := by omega
      simp only [this]
      exact (congrArg Int32.toInt (Int32.ofInt_toInt t)).symm
theorem lt_cl {t v : Int32} (h : 0 ≤ v.toInt ∧ v.toInt ≤ 4) : (t < v) = (clI t < v) ∧ (v < t) = (v < clI t) := by
  simp only [Int32.lt_iff_toInt_lt]
  have e0 : (0 : Int32).toInt = 0 := rfl
  have e4 : (4 : Int32).toInt = 4 := rfl
  have e1 : (-1 : Int32).toInt = -1 := rfl
  have e5 : (5 : Int32).toInt = 5 := rfl
  unfold clI; split
  · rename_i q; rw [Int32.lt_iff_toInt_lt] at q; rw [e1]; constructor <;> apply propext <;> omega
  · rename_i q; split
    · rename_i q2; rw [Int32.lt_iff_toInt_lt] at q q2; rw [e5]; constructor <;> apply propext <;> omega
    · exact ⟨rfl, rfl⟩
theorem gmem {l : List Int32} {i x : Int32} (h : Wk.gI l i = some x) : x ∈ l := List.mem_of_getElem? (Wk.gI_at h).2
theorem l3_cl (f t en mem rg : Int32) (mL mH fr lo hi : List Int32) (h1 : ∀ x ∈ lo, 0 ≤ x.toInt ∧ x.toInt ≤ 4) (h2 : ∀ x ∈ hi, 0 ≤ x.toInt ∧ x.toInt ≤ 4) : ∀ (n : Nat) (ins r : Int32), Fm_l3 f t en mem rg mL mH fr lo hi n ins r = Fm_l3 f (clI t) en mem rg mL mH fr lo hi n ins r := by
  intro n
  induction n with
  | zero => intro _ _; simp only [Fm_l3]
  | succ n ih =>
    intro ins r
    simp only [Fm_l3, ih]
    by_cases a : r < en
    · rw [if_pos a, if_pos a]
      by_cases b : ins = 0
      · rw [if_pos b, if_pos b]
        cases g : Wk.gI lo r with
        | none => simp only [Option.bind_none]
        | some v =>
          simp only [Option.bind_some, ← (lt_cl (t := t) (h1 v (gmem g))).1]
          cases g2 : Wk.gI hi r with
          | none => simp only [Option.bind_none]
          | some v2 => simp only [Option.bind_some, ← (lt_cl (t := t) (h2 v2 (gmem g2))).2]
      · rw [if_neg b, if_neg b]
    · rw [if_neg a, if_neg a]
theorem may_cl (mem rg : Int32) (mL mH fr lo hi : List Int32) (f t : Int32) (h1 : ∀ x ∈ lo, 0 ≤ x.toInt ∧ x.toInt ≤ 4) (h2 : ∀ x ∈ hi, 0 ≤ x.toInt ∧ x.toInt ≤ 4) : Fm_may mem rg mL mH fr lo hi f t = Fm_may mem rg mL mH fr lo hi f (clI t) := by
  simp only [Fm_may, l3_cl f t _ mem rg mL mH fr lo hi h1 h2]
set_option maxRecDepth 65536 in
set_option maxHeartbeats 40000000 in
theorem m_E (l : Launch) (Z : State) (a0 : Array Value) (hw : ∀ d ∈ tables_1, d.before a0 Z = true) (hB : Heap) (x0 x1 x2 b0 b1 b2 b3 wd f t : Int32) (H : List Rec) (vs : List Value) (hi : H[0]? = some (obj "com/example/dissect/dissect/ReachedRanges" ksRR vs)) (hlen : H.length ≤ 24) (sl : Nat) (hsl : sl ≤ 256) (m2 m3 m4 m ex : Int32) (hC : Ctr l Z hB ({ cls := "com/example/dissect/dissect/ReachedRanges", name := "mayReach", desc := "(II)Z" } : Jvm.MethodName) prog_101_method_4_code 6 (some .boolean) [] ({ frames := 0, cells := 0, slots := 0, locals := 0 } : Room) #[rf hB 0, .int f, .int t] H (fun v H' => v = some (.int ex) ∧ H' = H)) : WP l Z hB x code maxLocals ret room_1 0 (fun v _ => v = some (.int 1)) sl H 308 #[.val (.int x0), .val (.int x1), .val (.int x2), .val (.int b0), .val (.int b1), .val (.int b2), .val (.int b3), .val (.int wd), .val (.int f), .val (.int t), .val (rf hB 0), .val (.int m2), .val (.int m3), .val (.int m4), .val (.int m), .val (.int ex)] [] := by
  refine Wk.aload (pc' := 310) at_308 rfl rfl rfl ?_
  refine Wk.iload (pc' := 312) at_310 rfl rfl ?_
  refine Wk.iload (pc' := 314) at_312 rfl rfl ?_
  refine Wk.callV (pc' := 317) (argsL := [(.int f), (.int t)]) (st := []) at_314 (wd51 hw) (wd52 hw) (Wk.nfSel (wd54 hw)) (wd54 hw) (wd53 hw) (wd3 hw) (wd55 hw) (by decide) (lenOf pd_3 rfl) (fun _ P => P.exa hi) hC rfl (Nat.le_of_ble_eq_true rfl) (Nat.le_of_ble_eq_true rfl) (by show H.length + 0 ≤ 0 + 24; omega) (by show sl + 0 ≤ 256; omega) rfl rfl ?_
  rintro _ _ ⟨rfl, hH⟩; obtain rfl := hH.symm
  show WP l Z hB _ _ _ _ _ _ _ _ H _ _ [(.int ex)]
  refine Wk.iload (pc' := 319) at_317 rfl rfl ?_
  refine Wk.icN (pc' := 322) at_319 (XT.ii_ne_f rfl) rfl ?_
  refine Wk.iconst (pc' := 323) (1 : Int32) at_322 (by decide) rfl ?_
  refine Wk.goTo (pc' := 327) at_323 (by decide) (by decide) ?_
  exact Wk.iret (t := .boolean) at_327 rfl (by simp) rfl (by show H.length ≤ 0 + 24; omega) (by show sl + 0 ≤ 256; omega) rfl
set_option maxRecDepth 65536 in
set_option maxHeartbeats 40000000 in
theorem m_D (l : Launch) (Z : State) (a0 : Array Value) (hw : ∀ d ∈ tables_1, d.before a0 Z = true) (hB : Heap) (x0 x1 x2 b0 b1 b2 b3 wd f t : Int32) (H : List Rec) (vs : List Value) (hi : H[0]? = some (obj "com/example/dissect/dissect/ReachedRanges" ksRR vs)) (hlen : H.length ≤ 24) (sl : Nat) (hsl : sl ≤ 256) (m2 m3 m4 m : Int32) (hC : Ctr l Z hB ({ cls := "com/example/dissect/dissect/ReachedRanges", name := "mayReach", desc := "(II)Z" } : Jvm.MethodName) prog_101_method_4_code 6 (some .boolean) [] ({ frames := 0, cells := 0, slots := 0, locals := 0 } : Room) #[rf hB 0, .int f, .int t] H (fun v H' => v = some (.int (expB m t)) ∧ H' = H)) : WP l Z hB x code maxLocals ret room_1 0 (fun v _ => v = some (.int 1)) sl H 280 #[.val (.int x0), .val (.int x1), .val (.int x2), .val (.int b0), .val (.int b1), .val (.int b2), .val (.int b3), .val (.int wd), .val (.int f), .val (.int t), .val (rf hB 0), .val (.int m2), .val (.int m3), .val (.int m4), .val (.int m), .unset] [] := by
  refine Wk.iload (pc' := 282) at_280 rfl rfl ?_
  by_cases hc1 : t < (0 : Int32)
  ·
    refine Wk.ifY (pc' := 305) at_282 (XT.i0_lt_t hc1) (by decide) (by decide) ?_
    refine Wk.iconst (pc' := 306) (0 : Int32) at_305 (by decide) rfl ?_
    refine Wk.istore (pc' := 308) (Ls' := #[.val (.int x0), .val (.int x1), .val (.int x2), .val (.int b0), .val (.int b1), .val (.int b2), .val (.int b3), .val (.int wd), .val (.int f), .val (.int t), .val (rf hB 0), .val (.int m2), .val (.int m3), .val (.int m4), .val (.int m), .val (.int (0 : Int32))]) at_306 rfl rfl ?_
    exact m_E l Z a0 hw hB x0 x1 x2 b0 b1 b2 b3 wd f t H vs hi hlen sl hsl m2 m3 m4 m (0 : Int32) (by have e : expB m t = (0 : Int32) := (by rw [expB, if_pos hc1]); rw [e] at hC; exact hC)
  ·
    refine Wk.ifN (pc' := 285) at_282 (XT.i0_lt_f hc1) rfl ?_
    refine Wk.iload (pc' := 287) at_285 rfl rfl ?_
    refine Wk.iconst (pc' := 288) (4 : Int32) at_287 (by decide) rfl ?_
    by_cases hc2 : (4 : Int32) < t
    ·
      refine Wk.icY (pc' := 305) at_288 (XT.ii_gt_t hc2) (by decide) (by decide) ?_
      refine Wk.iconst (pc' := 306) (0 : Int32) at_305 (by decide) rfl ?_
      refine Wk.istore (pc' := 308) (Ls' := #[.val (.int x0), .val (.int x1), .val (.int x2), .val (.int b0), .val (.int b1), .val (.int b2), .val (.int b3), .val (.int wd), .val (.int f), .val (.int t), .val (rf hB 0), .val (.int m2), .val (.int m3), .val (.int m4), .val (.int m), .val (.int (0 : Int32))]) at_306 rfl rfl ?_
      exact m_E l Z a0 hw hB x0 x1 x2 b0 b1 b2 b3 wd f t H vs hi hlen sl hsl m2 m3 m4 m (0 : Int32) (by have e : expB m t = (0 : Int32) := (by rw [expB, if_neg hc1, if_pos hc2]); rw [e] at hC; exact hC)
    ·
      refine Wk.icN (pc' := 291) at_288 (XT.ii_gt_f hc2) rfl ?_
      refine Wk.iload (pc' := 293) at_291 rfl rfl ?_
      refine Wk.iload (pc' := 295) at_293 rfl rfl ?_
      refine Wk.ishr (pc' := 296) at_295 rfl ?_
      refine Wk.iconst (pc' := 297) (1 : Int32) at_296 (by decide) rfl ?_
      refine Wk.iand (pc' := 298) at_297 rfl ?_
      by_cases hc3 : ((m >>> (t &&& 31)) &&& (1 : Int32)) = (0 : Int32)
      ·
        refine Wk.ifY (pc' := 305) at_298 (XT.i0_eq_t hc3) (by decide) (by decide) ?_
        refine Wk.iconst (pc' := 306) (0 : Int32) at_305 (by decide) rfl ?_
        refine Wk.istore (pc' := 308) (Ls' := #[.val (.int x0), .val (.int x1), .val (.int x2), .val (.int b0), .val (.int b1), .val (.int b2), .val (.int b3), .val (.int wd), .val (.int f), .val (.int t), .val (rf hB 0), .val (.int m2), .val (.int m3), .val (.int m4), .val (.int m), .val (.int (0 : Int32))]) at_306 rfl rfl ?_
        exact m_E l Z a0 hw hB x0 x1 x2 b0 b1 b2 b3 wd f t H vs hi hlen sl hsl m2 m3 m4 m (0 : Int32) (by have e : expB m t = (0 : Int32) := (by rw [expB, if_neg hc1, if_neg hc2, if_pos hc3]); rw [e] at hC; exact hC)
      ·
        refine Wk.ifN (pc' := 301) at_298 (XT.i0_eq_f hc3) rfl ?_
        refine Wk.iconst (pc' := 302) (1 : Int32) at_301 (by decide) rfl ?_
        refine Wk.goTo (pc' := 306) at_302 (by decide) (by decide) ?_
        refine Wk.istore (pc' := 308) (Ls' := #[.val (.int x0), .val (.int x1), .val (.int x2), .val (.int b0), .val (.int b1), .val (.int b2), .val (.int b3), .val (.int wd), .val (.int f), .val (.int t), .val (rf hB 0), .val (.int m2), .val (.int m3), .val (.int m4), .val (.int m), .val (.int (1 : Int32))]) at_306 rfl rfl ?_
        exact m_E l Z a0 hw hB x0 x1 x2 b0 b1 b2 b3 wd f t H vs hi hlen sl hsl m2 m3 m4 m (1 : Int32) (by have e : expB m t = (1 : Int32) := (by rw [expB, if_neg hc1, if_neg hc2, if_neg hc3]); rw [e] at hC; exact hC)
set_option maxRecDepth 65536 in
set_option maxHeartbeats 40000000 in
theorem m_C (l : Launch) (Z : State) (a0 : Array Value) (hw : ∀ d ∈ tables_1, d.before a0 Z = true) (hB : Heap) (x0 x1 x2 b0 b1 b2 b3 wd f t : Int32) (H : List Rec) (vs : List Value) (hi : H[0]? = some (obj "com/example/dissect/dissect/ReachedRanges" ksRR vs)) (hlen : H.length ≤ 24) (sl : Nat) (hsl : sl ≤ 256) (m2 m3 m4 : Int32) (hC : Ctr l Z hB ({ cls := "com/example/dissect/dissect/ReachedRanges", name := "mayReach", desc := "(II)Z" } : Jvm.MethodName) prog_101_method_4_code 6 (some .boolean) [] ({ frames := 0, cells := 0, slots := 0, locals := 0 } : Room) #[rf hB 0, .int f, .int t] H (fun v H' => v = some (.int (expB (selM f m2 m3 m4) t)) ∧ H' = H)) : WP l Z hB x code maxLocals ret room_1 0 (fun v _ => v = some (.int 1)) sl H 227 #[.val (.int x0), .val (.int x1), .val (.int x2), .val (.int b0), .val (.int b1), .val (.int b2), .val (.int b3), .val (.int wd), .val (.int f), .val (.int t), .val (rf hB 0), .val (.int m2), .val (.int m3), .val (.int m4), .unset, .unset] [] := by
  refine Wk.iload (pc' := 229) at_227 rfl rfl ?_
  by_cases hc1 : f = (0 : Int32)
  ·
    refine Wk.ifN (pc' := 232) at_229 (XT.i0_ne_f hc1) rfl ?_
    refine Wk.iconst (pc' := 233) (1 : Int32) at_232 (by decide) rfl ?_
    refine Wk.istore (pc' := 235) (Ls' := #[.val (.int x0), .val (.int x1), .val (.int x2), .val (.int b0), .val (.int b1), .val (.int b2), .val (.int b3), .val (.int wd), .val (.int f), .val (.int t), .val (rf hB 0), .val (.int m2), .val (.int m3), .val (.int m4), .val (.int (1 : Int32)), .unset]) at_233 rfl rfl ?_
    refine Wk.goTo (pc' := 280) at_235 (by decide) (by decide) ?_
    exact m_D l Z a0 hw hB x0 x1 x2 b0 b1 b2 b3 wd f t H vs hi hlen sl hsl m2 m3 m4 (1 : Int32) (by have e : selM f m2 m3 m4 = (1 : Int32) := (by rw [selM, if_pos hc1]); rw [e] at hC; exact hC)
  ·
    refine Wk.ifY (pc' := 238) at_229 (XT.i0_ne_t hc1) (by decide) (by decide) ?_
    refine Wk.iload (pc' := 240) at_238 rfl rfl ?_
    refine Wk.iconst (pc' := 241) (1 : Int32) at_240 (by decide) rfl ?_
    by_cases hc2 : f = (1 : Int32)
    ·
      refine Wk.icN (pc' := 244) at_241 (XT.ii_ne_f hc2) rfl ?_
      refine Wk.iconst (pc' := 245) (2 : Int32) at_244 (by decide) rfl ?_
      refine Wk.istore (pc' := 247) (Ls' := #[.val (.int x0), .val (.int x1), .val (.int x2), .val (.int b0), .val (.int b1), .val (.int b2), .val (.int b3), .val (.int wd), .val (.int f), .val (.int t), .val (rf hB 0), .val (.int m2), .val (.int m3), .val (.int m4), .val (.int (2 : Int32)), .unset]) at_245 rfl rfl ?_
      refine Wk.goTo (pc' := 280) at_247 (by decide) (by decide) ?_
      exact m_D l Z a0 hw hB x0 x1 x2 b0 b1 b2 b3 wd f t H vs hi hlen sl hsl m2 m3 m4 (2 : Int32) (by have e : selM f m2 m3 m4 = (2 : Int32) := (by rw [selM, if_neg hc1, if_pos hc2]); rw [e] at hC; exact hC)
    ·
      refine Wk.icY (pc' := 250) at_241 (XT.ii_ne_t hc2) (by decide) (by decide) ?_
      refine Wk.iload (pc' := 252) at_250 rfl rfl ?_
      refine Wk.iconst (pc' := 253) (2 : Int32) at_252 (by decide) rfl ?_
      by_cases hc3 : f = (2 : Int32)
      ·
        refine Wk.icN (pc' := 256) at_253 (XT.ii_ne_f hc3) rfl ?_
        refine Wk.iload (pc' := 258) at_256 rfl rfl ?_
        refine Wk.istore (pc' := 260) (Ls' := #[.val (.int x0), .val (.int x1), .val (.int x2), .val (.int b0), .val (.int b1), .val (.int b2), .val (.int b3), .val (.int wd), .val (.int f), .val (.int t), .val (rf hB 0), .val (.int m2), .val (.int m3), .val (.int m4), .val (.int m2), .unset]) at_258 rfl rfl ?_
        refine Wk.goTo (pc' := 280) at_260 (by decide) (by decide) ?_
        exact m_D l Z a0 hw hB x0 x1 x2 b0 b1 b2 b3 wd f t H vs hi hlen sl hsl m2 m3 m4 m2 (by have e : selM f m2 m3 m4 = m2 := (by rw [selM, if_neg hc1, if_neg hc2, if_pos hc3]); rw [e] at hC; exact hC)
      ·
        refine Wk.icY (pc' := 263) at_253 (XT.ii_ne_t hc3) (by decide) (by decide) ?_
        refine Wk.iload (pc' := 265) at_263 rfl rfl ?_
        refine Wk.iconst (pc' := 266) (3 : Int32) at_265 (by decide) rfl ?_
        by_cases hc4 : f = (3 : Int32)
        ·
          refine Wk.icN (pc' := 269) at_266 (XT.ii_ne_f hc4) rfl ?_
          refine Wk.iload (pc' := 271) at_269 rfl rfl ?_
          refine Wk.istore (pc' := 273) (Ls' := #[.val (.int x0), .val (.int x1), .val (.int x2), .val (.int b0), .val (.int b1), .val (.int b2), .val (.int b3), .val (.int wd), .val (.int f), .val (.int t), .val (rf hB 0), .val (.int m2), .val (.int m3), .val (.int m4), .val (.int m3), .unset]) at_271 rfl rfl ?_
          refine Wk.goTo (pc' := 280) at_273 (by decide) (by decide) ?_
          exact m_D l Z a0 hw hB x0 x1 x2 b0 b1 b2 b3 wd f t H vs hi hlen sl hsl m2 m3 m4 m3 (by have e : selM f m2 m3 m4 = m3 := (by rw [selM, if_neg hc1, if_neg hc2, if_neg hc3, if_pos hc4]); rw [e] at hC; exact hC)
        ·
          refine Wk.icY (pc' := 276) at_266 (XT.ii_ne_t hc4) (by decide) (by decide) ?_
          refine Wk.iload (pc' := 278) at_276 rfl rfl ?_
          refine Wk.istore (pc' := 280) (Ls' := #[.val (.int x0), .val (.int x1), .val (.int x2), .val (.int b0), .val (.int b1), .val (.int b2), .val (.int b3), .val (.int wd), .val (.int f), .val (.int t), .val (rf hB 0), .val (.int m2), .val (.int m3), .val (.int m4), .val (.int m4), .unset]) at_278 rfl rfl ?_
          exact m_D l Z a0 hw hB x0 x1 x2 b0 b1 b2 b3 wd f t H vs hi hlen sl hsl m2 m3 m4 m4 (by have e : selM f m2 m3 m4 = m4 := (by rw [selM, if_neg hc1, if_neg hc2, if_neg hc3, if_neg hc4]); rw [e] at hC; exact hC)
set_option maxRecDepth 65536 in
set_option maxHeartbeats 40000000 in
theorem m_B (l : Launch) (Z : State) (a0 : Array Value) (hw : ∀ d ∈ tables_1, d.before a0 Z = true) (hB : Heap) (x0 x1 x2 b0 b1 b2 b3 wd f t : Int32) (H : List Rec) (vs : List Value) (hi : H[0]? = some (obj "com/example/dissect/dissect/ReachedRanges" ksRR vs)) (hlen : H.length ≤ 24) (sl : Nat) (hsl : sl ≤ 256)  (hC : Ctr l Z hB ({ cls := "com/example/dissect/dissect/ReachedRanges", name := "mayReach", desc := "(II)Z" } : Jvm.MethodName) prog_101_method_4_code 6 (some .boolean) [] ({ frames := 0, cells := 0, slots := 0, locals := 0 } : Room) #[rf hB 0, .int f, .int t] H (fun v H' => v = some (.int (expB (selM f (4 ||| bm b0 1) (8 ||| bm b1 2) ((16 ||| bm b2 (8 ||| bm b1 2)) ||| bm b3 (4 ||| bm b0 1))) t)) ∧ H' = H)) : WP l Z hB x code maxLocals ret room_1 0 (fun v _ => v = some (.int 1)) sl H 171 #[.val (.int x0), .val (.int x1), .val (.int x2), .val (.int b0), .val (.int b1), .val (.int b2), .val (.int b3), .val (.int wd), .val (.int f), .val (.int t), .val (rf hB 0), .unset, .unset, .unset, .unset, .unset] [] := by
  refine Wk.iconst (pc' := 172) (4 : Int32) at_171 (by decide) rfl ?_
  refine Wk.iloadN (pc' := 173) at_172 rfl rfl ?_
  by_cases hc1 : b0 = (0 : Int32)
  ·
    refine Wk.ifY (pc' := 180) at_173 (XT.i0_eq_t hc1) (by decide) (by decide) ?_
    refine Wk.iconst (pc' := 181) (0 : Int32) at_180 (by decide) rfl ?_
    refine Wk.ior (pc' := 182) at_181 rfl ?_
    refine Wk.istore (pc' := 184) (Ls' := #[.val (.int x0), .val (.int x1), .val (.int x2), .val (.int b0), .val (.int b1), .val (.int b2), .val (.int b3), .val (.int wd), .val (.int f), .val (.int t), .val (rf hB 0), .val (.int ((4 : Int32) ||| (0 : Int32))), .unset, .unset, .unset, .unset]) at_182 rfl rfl ?_
    refine Wk.bipush (pc' := 186) (8 : Int32) at_184 (by decide) rfl ?_
    refine Wk.iload (pc' := 188) at_186 rfl rfl ?_
    by_cases hc2 : b1 = (0 : Int32)
    ·
      refine Wk.ifY (pc' := 195) at_188 (XT.i0_eq_t hc2) (by decide) (by decide) ?_
      refine Wk.iconst (pc' := 196) (0 : Int32) at_195 (by decide) rfl ?_
      refine Wk.ior (pc' := 197) at_196 rfl ?_
      refine Wk.istore (pc' := 199) (Ls' := #[.val (.int x0), .val (.int x1), .val (.int x2), .val (.int b0), .val (.int b1), .val (.int b2), .val (.int b3), .val (.int wd), .val (.int f), .val (.int t), .val (rf hB 0), .val (.int ((4 : Int32) ||| (0 : Int32))), .val (.int ((8 : Int32) ||| (0 : Int32))), .unset, .unset, .unset]) at_197 rfl rfl ?_
      refine Wk.bipush (pc' := 201) (16 : Int32) at_199 (by decide) rfl ?_
      refine Wk.iload (pc' := 203) at_201 rfl rfl ?_
      by_cases hc3 : b2 = (0 : Int32)
      ·
        refine Wk.ifY (pc' := 211) at_203 (XT.i0_eq_t hc3) (by decide) (by decide) ?_
        refine Wk.iconst (pc' := 212) (0 : Int32) at_211 (by decide) rfl ?_
        refine Wk.ior (pc' := 213) at_212 rfl ?_
        refine Wk.iload (pc' := 215) at_213 rfl rfl ?_
        by_cases hc4 : b3 = (0 : Int32)
        ·
          refine Wk.ifY (pc' := 223) at_215 (XT.i0_eq_t hc4) (by decide) (by decide) ?_
          refine Wk.iconst (pc' := 224) (0 : Int32) at_223 (by decide) rfl ?_
          refine Wk.ior (pc' := 225) at_224 rfl ?_
          refine Wk.istore (pc' := 227) (Ls' := #[.val (.int x0), .val (.int x1), .val (.int x2), .val (.int b0), .val (.int b1), .val (.int b2), .val (.int b3), .val (.int wd), .val (.int f), .val (.int t), .val (rf hB 0), .val (.int ((4 : Int32) ||| (0 : Int32))), .val (.int ((8 : Int32) ||| (0 : Int32))), .val (.int (((16 : Int32) ||| (0 : Int32)) ||| (0 : Int32))), .unset, .unset]) at_225 rfl rfl ?_
          exact m_C l Z a0 hw hB x0 x1 x2 b0 b1 b2 b3 wd f t H vs hi hlen sl hsl _ _ _ (by rw [show bm b2 (8 ||| bm b1 2) = 0 from if_pos hc3, show bm b3 (4 ||| bm b0 1) = 0 from if_pos hc4, show bm b0 1 = 0 from if_pos hc1, show bm b1 2 = 0 from if_pos hc2] at hC; exact hC)
        ·
          refine Wk.ifN (pc' := 218) at_215 (XT.i0_eq_f hc4) rfl ?_
          refine Wk.iload (pc' := 220) at_218 rfl rfl ?_
          refine Wk.goTo (pc' := 224) at_220 (by decide) (by decide) ?_
          refine Wk.ior (pc' := 225) at_224 rfl ?_
          refine Wk.istore (pc' := 227) (Ls' := #[.val (.int x0), .val (.int x1), .val (.int x2), .val (.int b0), .val (.int b1), .val (.int b2), .val (.int b3), .val (.int wd), .val (.int f), .val (.int t), .val (rf hB 0), .val (.int ((4 : Int32) ||| (0 : Int32))), .val (.int ((8 : Int32) ||| (0 : Int32))), .val (.int (((16 : Int32) ||| (0 : Int32)) ||| ((4 : Int32) ||| (0 : Int32)))), .unset, .unset]) at_225 rfl rfl ?_
          exact m_C l Z a0 hw hB x0 x1 x2 b0 b1 b2 b3 wd f t H vs hi hlen sl hsl _ _ _ (by rw [show bm b2 (8 ||| bm b1 2) = 0 from if_pos hc3, show bm b3 (4 ||| bm b0 1) = (4 ||| bm b0 1) from if_neg hc4, show bm b0 1 = 0 from if_pos hc1, show bm b1 2 = 0 from if_pos hc2] at hC; exact hC)
      ·
        refine Wk.ifN (pc' := 206) at_203 (XT.i0_eq_f hc3) rfl ?_
        refine Wk.iload (pc' := 208) at_206 rfl rfl ?_
        refine Wk.goTo (pc' := 212) at_208 (by decide) (by decide) ?_
        refine Wk.ior (pc' := 213) at_212 rfl ?_
        refine Wk.iload (pc' := 215) at_213 rfl rfl ?_
        by_cases hc5 : b3 = (0 : Int32)
        ·
          refine Wk.ifY (pc' := 223) at_215 (XT.i0_eq_t hc5) (by decide) (by decide) ?_
          refine Wk.iconst (pc' := 224) (0 : Int32) at_223 (by decide) rfl ?_
          refine Wk.ior (pc' := 225) at_224 rfl ?_
          refine Wk.istore (pc' := 227) (Ls' := #[.val (.int x0), .val (.int x1), .val (.int x2), .val (.int b0), .val (.int b1), .val (.int b2), .val (.int b3), .val (.int wd), .val (.int f), .val (.int t), .val (rf hB 0), .val (.int ((4 : Int32) ||| (0 : Int32))), .val (.int ((8 : Int32) ||| (0 : Int32))), .val (.int (((16 : Int32) ||| ((8 : Int32) ||| (0 : Int32))) ||| (0 : Int32))), .unset, .unset]) at_225 rfl rfl ?_
          exact m_C l Z a0 hw hB x0 x1 x2 b0 b1 b2 b3 wd f t H vs hi hlen sl hsl _ _ _ (by rw [show bm b2 (8 ||| bm b1 2) = (8 ||| bm b1 2) from if_neg hc3, show bm b3 (4 ||| bm b0 1) = 0 from if_pos hc5, show bm b0 1 = 0 from if_pos hc1, show bm b1 2 = 0 from if_pos hc2] at hC; exact hC)
        ·
          refine Wk.ifN (pc' := 218) at_215 (XT.i0_eq_f hc5) rfl ?_
          refine Wk.iload (pc' := 220) at_218 rfl rfl ?_
          refine Wk.goTo (pc' := 224) at_220 (by decide) (by decide) ?_
          refine Wk.ior (pc' := 225) at_224 rfl ?_
          refine Wk.istore (pc' := 227) (Ls' := #[.val (.int x0), .val (.int x1), .val (.int x2), .val (.int b0), .val (.int b1), .val (.int b2), .val (.int b3), .val (.int wd), .val (.int f), .val (.int t), .val (rf hB 0), .val (.int ((4 : Int32) ||| (0 : Int32))), .val (.int ((8 : Int32) ||| (0 : Int32))), .val (.int (((16 : Int32) ||| ((8 : Int32) ||| (0 : Int32))) ||| ((4 : Int32) ||| (0 : Int32)))), .unset, .unset]) at_225 rfl rfl ?_
          exact m_C l Z a0 hw hB x0 x1 x2 b0 b1 b2 b3 wd f t H vs hi hlen sl hsl _ _ _ (by rw [show bm b2 (8 ||| bm b1 2) = (8 ||| bm b1 2) from if_neg hc3, show bm b3 (4 ||| bm b0 1) = (4 ||| bm b0 1) from if_neg hc5, show bm b0 1 = 0 from if_pos hc1, show bm b1 2 = 0 from if_pos hc2] at hC; exact hC)
    ·
      refine Wk.ifN (pc' := 191) at_188 (XT.i0_eq_f hc2) rfl ?_
      refine Wk.iconst (pc' := 192) (2 : Int32) at_191 (by decide) rfl ?_
      refine Wk.goTo (pc' := 196) at_192 (by decide) (by decide) ?_
      refine Wk.ior (pc' := 197) at_196 rfl ?_
      refine Wk.istore (pc' := 199) (Ls' := #[.val (.int x0), .val (.int x1), .val (.int x2), .val (.int b0), .val (.int b1), .val (.int b2), .val (.int b3), .val (.int wd), .val (.int f), .val (.int t), .val (rf hB 0), .val (.int ((4 : Int32) ||| (0 : Int32))), .val (.int ((8 : Int32) ||| (2 : Int32))), .unset, .unset, .unset]) at_197 rfl rfl ?_
      refine Wk.bipush (pc' := 201) (16 : Int32) at_199 (by decide) rfl ?_
      refine Wk.iload (pc' := 203) at_201 rfl rfl ?_
      by_cases hc6 : b2 = (0 : Int32)
      ·
        refine Wk.ifY (pc' := 211) at_203 (XT.i0_eq_t hc6) (by decide) (by decide) ?_
        refine Wk.iconst (pc' := 212) (0 : Int32) at_211 (by decide) rfl ?_
        refine Wk.ior (pc' := 213) at_212 rfl ?_
        refine Wk.iload (pc' := 215) at_213 rfl rfl ?_
        by_cases hc7 : b3 = (0 : Int32)
        ·
          refine Wk.ifY (pc' := 223) at_215 (XT.i0_eq_t hc7) (by decide) (by decide) ?_
          refine Wk.iconst (pc' := 224) (0 : Int32) at_223 (by decide) rfl ?_
          refine Wk.ior (pc' := 225) at_224 rfl ?_
          refine Wk.istore (pc' := 227) (Ls' := #[.val (.int x0), .val (.int x1), .val (.int x2), .val (.int b0), .val (.int b1), .val (.int b2), .val (.int b3), .val (.int wd), .val (.int f), .val (.int t), .val (rf hB 0), .val (.int ((4 : Int32) ||| (0 : Int32))), .val (.int ((8 : Int32) ||| (2 : Int32))), .val (.int (((16 : Int32) ||| (0 : Int32)) ||| (0 : Int32))), .unset, .unset]) at_225 rfl rfl ?_
          exact m_C l Z a0 hw hB x0 x1 x2 b0 b1 b2 b3 wd f t H vs hi hlen sl hsl _ _ _ (by rw [show bm b2 (8 ||| bm b1 2) = 0 from if_pos hc6, show bm b3 (4 ||| bm b0 1) = 0 from if_pos hc7, show bm b0 1 = 0 from if_pos hc1, show bm b1 2 = 2 from if_neg hc2] at hC; exact hC)
        ·
          refine Wk.ifN (pc' := 218) at_215 (XT.i0_eq_f hc7) rfl ?_
          refine Wk.iload (pc' := 220) at_218 rfl rfl ?_
          refine Wk.goTo (pc' := 224) at_220 (by decide) (by decide) ?_
          refine Wk.ior (pc' := 225) at_224 rfl ?_
          refine Wk.istore (pc' := 227) (Ls' := #[.val (.int x0), .val (.int x1), .val (.int x2), .val (.int b0), .val (.int b1), .val (.int b2), .val (.int b3), .val (.int wd), .val (.int f), .val (.int t), .val (rf hB 0), .val (.int ((4 : Int32) ||| (0 : Int32))), .val (.int ((8 : Int32) ||| (2 : Int32))), .val (.int (((16 : Int32) ||| (0 : Int32)) ||| ((4 : Int32) ||| (0 : Int32)))), .unset, .unset]) at_225 rfl rfl ?_
          exact m_C l Z a0 hw hB x0 x1 x2 b0 b1 b2 b3 wd f t H vs hi hlen sl hsl _ _ _ (by rw [show bm b2 (8 ||| bm b1 2) = 0 from if_pos hc6, show bm b3 (4 ||| bm b0 1) = (4 ||| bm b0 1) from if_neg hc7, show bm b0 1 = 0 from if_pos hc1, show bm b1 2 = 2 from if_neg hc2] at hC; exact hC)
      ·
        refine Wk.ifN (pc' := 206) at_203 (XT.i0_eq_f hc6) rfl ?_
        refine Wk.iload (pc' := 208) at_206 rfl rfl ?_
        refine Wk.goTo (pc' := 212) at_208 (by decide) (by decide) ?_
        refine Wk.ior (pc' := 213) at_212 rfl ?_
        refine Wk.iload (pc' := 215) at_213 rfl rfl ?_
        by_cases hc8 : b3 = (0 : Int32)
        ·
          refine Wk.ifY (pc' := 223) at_215 (XT.i0_eq_t hc8) (by decide) (by decide) ?_
          refine Wk.iconst (pc' := 224) (0 : Int32) at_223 (by decide) rfl ?_
          refine Wk.ior (pc' := 225) at_224 rfl ?_
          refine Wk.istore (pc' := 227) (Ls' := #[.val (.int x0), .val (.int x1), .val (.int x2), .val (.int b0), .val (.int b1), .val (.int b2), .val (.int b3), .val (.int wd), .val (.int f), .val (.int t), .val (rf hB 0), .val (.int ((4 : Int32) ||| (0 : Int32))), .val (.int ((8 : Int32) ||| (2 : Int32))), .val (.int (((16 : Int32) ||| ((8 : Int32) ||| (2 : Int32))) ||| (0 : Int32))), .unset, .unset]) at_225 rfl rfl ?_
          exact m_C l Z a0 hw hB x0 x1 x2 b0 b1 b2 b3 wd f t H vs hi hlen sl hsl _ _ _ (by rw [show bm b2 (8 ||| bm b1 2) = (8 ||| bm b1 2) from if_neg hc6, show bm b3 (4 ||| bm b0 1) = 0 from if_pos hc8, show bm b0 1 = 0 from if_pos hc1, show bm b1 2 = 2 from if_neg hc2] at hC; exact hC)
        ·
          refine Wk.ifN (pc' := 218) at_215 (XT.i0_eq_f hc8) rfl ?_
          refine Wk.iload (pc' := 220) at_218 rfl rfl ?_
          refine Wk.goTo (pc' := 224) at_220 (by decide) (by decide) ?_
          refine Wk.ior (pc' := 225) at_224 rfl ?_
          refine Wk.istore (pc' := 227) (Ls' := #[.val (.int x0), .val (.int x1), .val (.int x2), .val (.int b0), .val (.int b1), .val (.int b2), .val (.int b3), .val (.int wd), .val (.int f), .val (.int t), .val (rf hB 0), .val (.int ((4 : Int32) ||| (0 : Int32))), .val (.int ((8 : Int32) ||| (2 : Int32))), .val (.int (((16 : Int32) ||| ((8 : Int32) ||| (2 : Int32))) ||| ((4 : Int32) ||| (0 : Int32)))), .unset, .unset]) at_225 rfl rfl ?_
          exact m_C l Z a0 hw hB x0 x1 x2 b0 b1 b2 b3 wd f t H vs hi hlen sl hsl _ _ _ (by rw [show bm b2 (8 ||| bm b1 2) = (8 ||| bm b1 2) from if_neg hc6, show bm b3 (4 ||| bm b0 1) = (4 ||| bm b0 1) from if_neg hc8, show bm b0 1 = 0 from if_pos hc1, show bm b1 2 = 2 from if_neg hc2] at hC; exact hC)
  ·
    refine Wk.ifN (pc' := 176) at_173 (XT.i0_eq_f hc1) rfl ?_
    refine Wk.iconst (pc' := 177) (1 : Int32) at_176 (by decide) rfl ?_
    refine Wk.goTo (pc' := 181) at_177 (by decide) (by decide) ?_
    refine Wk.ior (pc' := 182) at_181 rfl ?_
    refine Wk.istore (pc' := 184) (Ls' := #[.val (.int x0), .val (.int x1), .val (.int x2), .val (.int b0), .val (.int b1), .val (.int b2), .val (.int b3), .val (.int wd), .val (.int f), .val (.int t), .val (rf hB 0), .val (.int ((4 : Int32) ||| (1 : Int32))), .unset, .unset, .unset, .unset]) at_182 rfl rfl ?_
    refine Wk.bipush (pc' := 186) (8 : Int32) at_184 (by decide) rfl ?_
    refine Wk.iload (pc' := 188) at_186 rfl rfl ?_
    by_cases hc9 : b1 = (0 : Int32)
    ·
      refine Wk.ifY (pc' := 195) at_188 (XT.i0_eq_t hc9) (by decide) (by decide) ?_
      refine Wk.iconst (pc' := 196) (0 : Int32) at_195 (by decide) rfl ?_
      refine Wk.ior (pc' := 197) at_196 rfl ?_
      refine Wk.istore (pc' := 199) (Ls' := #[.val (.int x0), .val (.int x1), .val (.int x2), .val (.int b0), .val (.int b1), .val (.int b2), .val (.int b3), .val (.int wd), .val (.int f), .val (.int t), .val (rf hB 0), .val (.int ((4 : Int32) ||| (1 : Int32))), .val (.int ((8 : Int32) ||| (0 : Int32))), .unset, .unset, .unset]) at_197 rfl rfl ?_
      refine Wk.bipush (pc' := 201) (16 : Int32) at_199 (by decide) rfl ?_
      refine Wk.iload (pc' := 203) at_201 rfl rfl ?_
      by_cases hc10 : b2 = (0 : Int32)
      ·
        refine Wk.ifY (pc' := 211) at_203 (XT.i0_eq_t hc10) (by decide) (by decide) ?_
        refine Wk.iconst (pc' := 212) (0 : Int32) at_211 (by decide) rfl ?_
        refine Wk.ior (pc' := 213) at_212 rfl ?_
        refine Wk.iload (pc' := 215) at_213 rfl rfl ?_
        by_cases hc11 : b3 = (0 : Int32)
        ·
          refine Wk.ifY (pc' := 223) at_215 (XT.i0_eq_t hc11) (by decide) (by decide) ?_
          refine Wk.iconst (pc' := 224) (0 : Int32) at_223 (by decide) rfl ?_
          refine Wk.ior (pc' := 225) at_224 rfl ?_
          refine Wk.istore (pc' := 227) (Ls' := #[.val (.int x0), .val (.int x1), .val (.int x2), .val (.int b0), .val (.int b1), .val (.int b2), .val (.int b3), .val (.int wd), .val (.int f), .val (.int t), .val (rf hB 0), .val (.int ((4 : Int32) ||| (1 : Int32))), .val (.int ((8 : Int32) ||| (0 : Int32))), .val (.int (((16 : Int32) ||| (0 : Int32)) ||| (0 : Int32))), .unset, .unset]) at_225 rfl rfl ?_
          exact m_C l Z a0 hw hB x0 x1 x2 b0 b1 b2 b3 wd f t H vs hi hlen sl hsl _ _ _ (by rw [show bm b2 (8 ||| bm b1 2) = 0 from if_pos hc10, show bm b3 (4 ||| bm b0 1) = 0 from if_pos hc11, show bm b0 1 = 1 from if_neg hc1, show bm b1 2 = 0 from if_pos hc9] at hC; exact hC)
        ·
          refine Wk.ifN (pc' := 218) at_215 (XT.i0_eq_f hc11) rfl ?_
          refine Wk.iload (pc' := 220) at_218 rfl rfl ?_
          refine Wk.goTo (pc' := 224) at_220 (by decide) (by decide) ?_
          refine Wk.ior (pc' := 225) at_224 rfl ?_
          refine Wk.istore (pc' := 227) (Ls' := #[.val (.int x0), .val (.int x1), .val (.int x2), .val (.int b0), .val (.int b1), .val (.int b2), .val (.int b3), .val (.int wd), .val (.int f), .val (.int t), .val (rf hB 0), .val (.int ((4 : Int32) ||| (1 : Int32))), .val (.int ((8 : Int32) ||| (0 : Int32))), .val (.int (((16 : Int32) ||| (0 : Int32)) ||| ((4 : Int32) ||| (1 : Int32)))), .unset, .unset]) at_225 rfl rfl ?_
          exact m_C l Z a0 hw hB x0 x1 x2 b0 b1 b2 b3 wd f t H vs hi hlen sl hsl _ _ _ (by rw [show bm b2 (8 ||| bm b1 2) = 0 from if_pos hc10, show bm b3 (4 ||| bm b0 1) = (4 ||| bm b0 1) from if_neg hc11, show bm b0 1 = 1 from if_neg hc1, show bm b1 2 = 0 from if_pos hc9] at hC; exact hC)
      ·
        refine Wk.ifN (pc' := 206) at_203 (XT.i0_eq_f hc10) rfl ?_
        refine Wk.iload (pc' := 208) at_206 rfl rfl ?_
        refine Wk.goTo (pc' := 212) at_208 (by decide) (by decide) ?_
        refine Wk.ior (pc' := 213) at_212 rfl ?_
        refine Wk.iload (pc' := 215) at_213 rfl rfl ?_
        by_cases hc12 : b3 = (0 : Int32)
        ·
          refine Wk.ifY (pc' := 223) at_215 (XT.i0_eq_t hc12) (by decide) (by decide) ?_
          refine Wk.iconst (pc' := 224) (0 : Int32) at_223 (by decide) rfl ?_
          refine Wk.ior (pc' := 225) at_224 rfl ?_
          refine Wk.istore (pc' := 227) (Ls' := #[.val (.int x0), .val (.int x1), .val (.int x2), .val (.int b0), .val (.int b1), .val (.int b2), .val (.int b3), .val (.int wd), .val (.int f), .val (.int t), .val (rf hB 0), .val (.int ((4 : Int32) ||| (1 : Int32))), .val (.int ((8 : Int32) ||| (0 : Int32))), .val (.int (((16 : Int32) ||| ((8 : Int32) ||| (0 : Int32))) ||| (0 : Int32))), .unset, .unset]) at_225 rfl rfl ?_
          exact m_C l Z a0 hw hB x0 x1 x2 b0 b1 b2 b3 wd f t H vs hi hlen sl hsl _ _ _ (by rw [show bm b2 (8 ||| bm b1 2) = (8 ||| bm b1 2) from if_neg hc10, show bm b3 (4 ||| bm b0 1) = 0 from if_pos hc12, show bm b0 1 = 1 from if_neg hc1, show bm b1 2 = 0 from if_pos hc9] at hC; exact hC)
        ·
          refine Wk.ifN (pc' := 218) at_215 (XT.i0_eq_f hc12) rfl ?_
          refine Wk.iload (pc' := 220) at_218 rfl rfl ?_
          refine Wk.goTo (pc' := 224) at_220 (by decide) (by decide) ?_
          refine Wk.ior (pc' := 225) at_224 rfl ?_
          refine Wk.istore (pc' := 227) (Ls' := #[.val (.int x0), .val (.int x1), .val (.int x2), .val (.int b0), .val (.int b1), .val (.int b2), .val (.int b3), .val (.int wd), .val (.int f), .val (.int t), .val (rf hB 0), .val (.int ((4 : Int32) ||| (1 : Int32))), .val (.int ((8 : Int32) ||| (0 : Int32))), .val (.int (((16 : Int32) ||| ((8 : Int32) ||| (0 : Int32))) ||| ((4 : Int32) ||| (1 : Int32)))), .unset, .unset]) at_225 rfl rfl ?_
          exact m_C l Z a0 hw hB x0 x1 x2 b0 b1 b2 b3 wd f t H vs hi hlen sl hsl _ _ _ (by rw [show bm b2 (8 ||| bm b1 2) = (8 ||| bm b1 2) from if_neg hc10, show bm b3 (4 ||| bm b0 1) = (4 ||| bm b0 1) from if_neg hc12, show bm b0 1 = 1 from if_neg hc1, show bm b1 2 = 0 from if_pos hc9] at hC; exact hC)
    ·
      refine Wk.ifN (pc' := 191) at_188 (XT.i0_eq_f hc9) rfl ?_
      refine Wk.iconst (pc' := 192) (2 : Int32) at_191 (by decide) rfl ?_
      refine Wk.goTo (pc' := 196) at_192 (by decide) (by decide) ?_
      refine Wk.ior (pc' := 197) at_196 rfl ?_
      refine Wk.istore (pc' := 199) (Ls' := #[.val (.int x0), .val (.int x1), .val (.int x2), .val (.int b0), .val (.int b1), .val (.int b2), .val (.int b3), .val (.int wd), .val (.int f), .val (.int t), .val (rf hB 0), .val (.int ((4 : Int32) ||| (1 : Int32))), .val (.int ((8 : Int32) ||| (2 : Int32))), .unset, .unset, .unset]) at_197 rfl rfl ?_
      refine Wk.bipush (pc' := 201) (16 : Int32) at_199 (by decide) rfl ?_
      refine Wk.iload (pc' := 203) at_201 rfl rfl ?_
      by_cases hc13 : b2 = (0 : Int32)
      ·
        refine Wk.ifY (pc' := 211) at_203 (XT.i0_eq_t hc13) (by decide) (by decide) ?_
        refine Wk.iconst (pc' := 212) (0 : Int32) at_211 (by decide) rfl ?_
        refine Wk.ior (pc' := 213) at_212 rfl ?_
        refine Wk.iload (pc' := 215) at_213 rfl rfl ?_
        by_cases hc14 : b3 = (0 : Int32)
        ·
          refine Wk.ifY (pc' := 223) at_215 (XT.i0_eq_t hc14) (by decide) (by decide) ?_
          refine Wk.iconst (pc' := 224) (0 : Int32) at_223 (by decide) rfl ?_
          refine Wk.ior (pc' := 225) at_224 rfl ?_
          refine Wk.istore (pc' := 227) (Ls' := #[.val (.int x0), .val (.int x1), .val (.int x2), .val (.int b0), .val (.int b1), .val (.int b2), .val (.int b3), .val (.int wd), .val (.int f), .val (.int t), .val (rf hB 0), .val (.int ((4 : Int32) ||| (1 : Int32))), .val (.int ((8 : Int32) ||| (2 : Int32))), .val (.int (((16 : Int32) ||| (0 : Int32)) ||| (0 : Int32))), .unset, .unset]) at_225 rfl rfl ?_
          exact m_C l Z a0 hw hB x0 x1 x2 b0 b1 b2 b3 wd f t H vs hi hlen sl hsl _ _ _ (by rw [show bm b2 (8 ||| bm b1 2) = 0 from if_pos hc13, show bm b3 (4 ||| bm b0 1) = 0 from if_pos hc14, show bm b0 1 = 1 from if_neg hc1, show bm b1 2 = 2 from if_neg hc9] at hC; exact hC)
        ·
          refine Wk.ifN (pc' := 218) at_215 (XT.i0_eq_f hc14) rfl ?_
          refine Wk.iload (pc' := 220) at_218 rfl rfl ?_
          refine Wk.goTo (pc' := 224) at_220 (by decide) (by decide) ?_
          refine Wk.ior (pc' := 225) at_224 rfl ?_
          refine Wk.istore (pc' := 227) (Ls' := #[.val (.int x0), .val (.int x1), .val (.int x2), .val (.int b0), .val (.int b1), .val (.int b2), .val (.int b3), .val (.int wd), .val (.int f), .val (.int t), .val (rf hB 0), .val (.int ((4 : Int32) ||| (1 : Int32))), .val (.int ((8 : Int32) ||| (2 : Int32))), .val (.int (((16 : Int32) ||| (0 : Int32)) ||| ((4 : Int32) ||| (1 : Int32)))), .unset, .unset]) at_225 rfl rfl ?_
          exact m_C l Z a0 hw hB x0 x1 x2 b0 b1 b2 b3 wd f t H vs hi hlen sl hsl _ _ _ (by rw [show bm b2 (8 ||| bm b1 2) = 0 from if_pos hc13, show bm b3 (4 ||| bm b0 1) = (4 ||| bm b0 1) from if_neg hc14, show bm b0 1 = 1 from if_neg hc1, show bm b1 2 = 2 from if_neg hc9] at hC; exact hC)
      ·
        refine Wk.ifN (pc' := 206) at_203 (XT.i0_eq_f hc13) rfl ?_
        refine Wk.iload (pc' := 208) at_206 rfl rfl ?_
        refine Wk.goTo (pc' := 212) at_208 (by decide) (by decide) ?_
        refine Wk.ior (pc' := 213) at_212 rfl ?_
        refine Wk.iload (pc' := 215) at_213 rfl rfl ?_
        by_cases hc15 : b3 = (0 : Int32)
        ·
          refine Wk.ifY (pc' := 223) at_215 (XT.i0_eq_t hc15) (by decide) (by decide) ?_
          refine Wk.iconst (pc' := 224) (0 : Int32) at_223 (by decide) rfl ?_
          refine Wk.ior (pc' := 225) at_224 rfl ?_
          refine Wk.istore (pc' := 227) (Ls' := #[.val (.int x0), .val (.int x1), .val (.int x2), .val (.int b0), .val (.int b1), .val (.int b2), .val (.int b3), .val (.int wd), .val (.int f), .val (.int t), .val (rf hB 0), .val (.int ((4 : Int32) ||| (1 : Int32))), .val (.int ((8 : Int32) ||| (2 : Int32))), .val (.int (((16 : Int32) ||| ((8 : Int32) ||| (2 : Int32))) ||| (0 : Int32))), .unset, .unset]) at_225 rfl rfl ?_
          exact m_C l Z a0 hw hB x0 x1 x2 b0 b1 b2 b3 wd f t H vs hi hlen sl hsl _ _ _ (by rw [show bm b2 (8 ||| bm b1 2) = (8 ||| bm b1 2) from if_neg hc13, show bm b3 (4 ||| bm b0 1) = 0 from if_pos hc15, show bm b0 1 = 1 from if_neg hc1, show bm b1 2 = 2 from if_neg hc9] at hC; exact hC)
        ·
          refine Wk.ifN (pc' := 218) at_215 (XT.i0_eq_f hc15) rfl ?_
          refine Wk.iload (pc' := 220) at_218 rfl rfl ?_
          refine Wk.goTo (pc' := 224) at_220 (by decide) (by decide) ?_
          refine Wk.ior (pc' := 225) at_224 rfl ?_
          refine Wk.istore (pc' := 227) (Ls' := #[.val (.int x0), .val (.int x1), .val (.int x2), .val (.int b0), .val (.int b1), .val (.int b2), .val (.int b3), .val (.int wd), .val (.int f), .val (.int t), .val (rf hB 0), .val (.int ((4 : Int32) ||| (1 : Int32))), .val (.int ((8 : Int32) ||| (2 : Int32))), .val (.int (((16 : Int32) ||| ((8 : Int32) ||| (2 : Int32))) ||| ((4 : Int32) ||| (1 : Int32)))), .unset, .unset]) at_225 rfl rfl ?_
          exact m_C l Z a0 hw hB x0 x1 x2 b0 b1 b2 b3 wd f t H vs hi hlen sl hsl _ _ _ (by rw [show bm b2 (8 ||| bm b1 2) = (8 ||| bm b1 2) from if_neg hc13, show bm b3 (4 ||| bm b0 1) = (4 ||| bm b0 1) from if_neg hc15, show bm b0 1 = 1 from if_neg hc1, show bm b1 2 = 2 from if_neg hc9] at hC; exact hC)
set_option maxRecDepth 65536 in
set_option maxHeartbeats 40000000 in
theorem ok_0000_k : ∀ (i : Fin 5) (j : Fin 7), Fm_may (5 : Int32) (5 : Int32) [0, 0, 0, 0, 0, 0, 0, 0] [0, 0, 0, 0, 0, 0, 0, 0] [0, 1, 2, 3, 4, 0, 0, 0, 0, 0, 0, 0, 0, 0, 0, 0] [0, 1, 2, 3, 4, 0, 0, 0, 0, 0, 0, 0, 0, 0, 0, 0] [0, 1, 2, 3, 4, 0, 0, 0, 0, 0, 0, 0, 0, 0, 0, 0] (Int32.ofNat i) (Int32.ofInt ((j.val : Int) - 1)) = some (expB (selM (Int32.ofNat i) (4 ||| bm (0 : Int32) 1) (8 ||| bm (0 : Int32) 2) ((16 ||| bm (0 : Int32) (8 ||| bm (0 : Int32) 2)) ||| bm (0 : Int32) (4 ||| bm (0 : Int32) 1))) (Int32.ofInt ((j.val : Int) - 1))) := by decide +kernel
theorem ok_0000 (f t : Int32) (h0 : 0 ≤ f.toInt) (h4 : f.toInt ≤ 4) : Fm_may (5 : Int32) (5 : Int32) [0, 0, 0, 0, 0, 0, 0, 0] [0, 0, 0, 0, 0, 0, 0, 0] [0, 1, 2, 3, 4, 0, 0, 0, 0, 0, 0, 0, 0, 0, 0, 0] [0, 1, 2, 3, 4, 0, 0, 0, 0, 0, 0, 0, 0, 0, 0, 0] [0, 1, 2, 3, 4, 0, 0, 0, 0, 0, 0, 0, 0, 0, 0, 0] f t = some (expB (selM f (4 ||| bm (0 : Int32) 1) (8 ||| bm (0 : Int32) 2) ((16 ||| bm (0 : Int32) (8 ||| bm (0 : Int32) 2)) ||| bm (0 : Int32) (4 ||| bm (0 : Int32) 1))) t) := by
  rw [may_cl _ _ _ _ _ _ _ _ _ (by decide) (by decide), ← expB_cl]
  obtain ⟨j, hj⟩ := cl_cases t
  have hf : f = Int32.ofNat f.toInt.toNat := Int32.toInt_inj.mp (by rw [Int32.toInt_ofNat_small (by omega)]; omega)
  rw [hj, hf]
  exact ok_0000_k ⟨f.toInt.toNat, by omega⟩ j
set_option maxRecDepth 65536 in
set_option maxHeartbeats 40000000 in
theorem ok_0001_k : ∀ (i : Fin 5) (j : Fin 7), Fm_may (5 : Int32) (6 : Int32) [2, 4, 0, 0, 0, 0, 0, 0] [2, 4, 0, 0, 0, 0, 0, 0] [0, 1, 2, 3, 4, 0, 0, 0, 0, 0, 0, 0, 0, 0, 0, 0] [0, 1, 2, 3, 2, 4, 0, 0, 0, 0, 0, 0, 0, 0, 0, 0] [0, 1, 2, 3, 2, 4, 0, 0, 0, 0, 0, 0, 0, 0, 0, 0] (Int32.ofNat i) (Int32.ofInt ((j.val : Int) - 1)) = some (expB (selM (Int32.ofNat i) (4 ||| bm (0 : Int32) 1) (8 ||| bm (0 : Int32) 2) ((16 ||| bm (0 : Int32) (8 ||| bm (0 : Int32) 2)) ||| bm (1 : Int32) (4 ||| bm (0 : Int32) 1))) (Int32.ofInt ((j.val : Int) - 1))) := by decide +kernel
theorem ok_0001 (f t : Int32) (h0 : 0 ≤ f.toInt) (h4 : f.toInt ≤ 4) : Fm_may (5 : Int32) (6 : Int32) [2, 4, 0, 0, 0, 0, 0, 0] [2, 4, 0, 0, 0, 0, 0, 0] [0, 1, 2, 3, 4, 0, 0, 0, 0, 0, 0, 0, 0, 0, 0, 0] [0, 1, 2, 3, 2, 4, 0, 0, 0, 0, 0, 0, 0, 0, 0, 0] [0, 1, 2, 3, 2, 4, 0, 0, 0, 0, 0, 0, 0, 0, 0, 0] f t = some (expB (selM f (4 ||| bm (0 : Int32) 1) (8 ||| bm (0 : Int32) 2) ((16 ||| bm (0 : Int32) (8 ||| bm (0 : Int32) 2)) ||| bm (1 : Int32) (4 ||| bm (0 : Int32) 1))) t) := by
  rw [may_cl _ _ _ _ _ _ _ _ _ (by decide) (by decide), ← expB_cl]
  obtain ⟨j, hj⟩ := cl_cases t
  have hf : f = Int32.ofNat f.toInt.toNat := Int32.toInt_inj.mp (by rw [Int32.toInt_ofNat_small (by omega)]; omega)
  rw [hj, hf]
  exact ok_0001_k ⟨f.toInt.toNat, by omega⟩ j
set_option maxRecDepth 65536 in
set_option maxHeartbeats 40000000 in
theorem ok_0010_k : ∀ (i : Fin 5) (j : Fin 7), Fm_may (5 : Int32) (5 : Int32) [3, 0, 0, 0, 0, 0, 0, 0] [4, 0, 0, 0, 0, 0, 0, 0] [0, 1, 2, 3, 4, 0, 0, 0, 0, 0, 0, 0, 0, 0, 0, 0] [0, 1, 2, 3, 3, 0, 0, 0, 0, 0, 0, 0, 0, 0, 0, 0] [0, 1, 2, 3, 4, 0, 0, 0, 0, 0, 0, 0, 0, 0, 0, 0] (Int32.ofNat i) (Int32.ofInt ((j.val : Int) - 1)) = some (expB (selM (Int32.ofNat i) (4 ||| bm (0 : Int32) 1) (8 ||| bm (0 : Int32) 2) ((16 ||| bm (1 : Int32) (8 ||| bm (0 : Int32) 2)) ||| bm (0 : Int32) (4 ||| bm (0 : Int32) 1))) (Int32.ofInt ((j.val : Int) - 1))) := by decide +kernel
theorem ok_0010 (f t : Int32) (h0 : 0 ≤ f.toInt) (h4 : f.toInt ≤ 4) : Fm_may (5 : Int32) (5 : Int32) [3, 0, 0, 0, 0, 0, 0, 0] [4, 0, 0, 0, 0, 0, 0, 0] [0, 1, 2, 3, 4, 0, 0, 0, 0, 0, 0, 0, 0, 0, 0, 0] [0, 1, 2, 3, 3, 0, 0, 0, 0, 0, 0, 0, 0, 0, 0, 0] [0, 1, 2, 3, 4, 0, 0, 0, 0, 0, 0, 0, 0, 0, 0, 0] f t = some (expB (selM f (4 ||| bm (0 : Int32) 1) (8 ||| bm (0 : Int32) 2) ((16 ||| bm (1 : Int32) (8 ||| bm (0 : Int32) 2)) ||| bm (0 : Int32) (4 ||| bm (0 : Int32) 1))) t) := by
  rw [may_cl _ _ _ _ _ _ _ _ _ (by decide) (by decide), ← expB_cl]
  obtain ⟨j, hj⟩ := cl_cases t
  have hf : f = Int32.ofNat f.toInt.toNat := Int32.toInt_inj.mp (by rw [Int32.toInt_ofNat_small (by omega)]; omega)
  rw [hj, hf]
  exact ok_0010_k ⟨f.toInt.toNat, by omega⟩ j
set_option maxRecDepth 65536 in
set_option maxHeartbeats 40000000 in
theorem ok_0011_k : ∀ (i : Fin 5) (j : Fin 7), Fm_may (5 : Int32) (5 : Int32) [2, 0, 0, 0, 0, 0, 0, 0] [4, 0, 0, 0, 0, 0, 0, 0] [0, 1, 2, 3, 4, 0, 0, 0, 0, 0, 0, 0, 0, 0, 0, 0] [0, 1, 2, 3, 2, 0, 0, 0, 0, 0, 0, 0, 0, 0, 0, 0] [0, 1, 2, 3, 4, 0, 0, 0, 0, 0, 0, 0, 0, 0, 0, 0] (Int32.ofNat i) (Int32.ofInt ((j.val : Int) - 1)) = some (expB (selM (Int32.ofNat i) (4 ||| bm (0 : Int32) 1) (8 ||| bm (0 : Int32) 2) ((16 ||| bm (1 : Int32) (8 ||| bm (0 : Int32) 2)) ||| bm (1 : Int32) (4 ||| bm (0 : Int32) 1))) (Int32.ofInt ((j.val : Int) - 1))) := by decide +kernel
theorem ok_0011 (f t : Int32) (h0 : 0 ≤ f.toInt) (h4 : f.toInt ≤ 4) : Fm_may (5 : Int32) (5 : Int32) [2, 0, 0, 0, 0, 0, 0, 0] [4, 0, 0, 0, 0, 0, 0, 0] [0, 1, 2, 3, 4, 0, 0, 0, 0, 0, 0, 0, 0, 0, 0, 0] [0, 1, 2, 3, 2, 0, 0, 0, 0, 0, 0, 0, 0, 0, 0, 0] [0, 1, 2, 3, 4, 0, 0, 0, 0, 0, 0, 0, 0, 0, 0, 0] f t = some (expB (selM f (4 ||| bm (0 : Int32) 1) (8 ||| bm (0 : Int32) 2) ((16 ||| bm (1 : Int32) (8 ||| bm (0 : Int32) 2)) ||| bm (1 : Int32) (4 ||| bm (0 : Int32) 1))) t) := by
  rw [may_cl _ _ _ _ _ _ _ _ _ (by decide) (by decide), ← expB_cl]
  obtain ⟨j, hj⟩ := cl_cases t
  have hf : f = Int32.ofNat f.toInt.toNat := Int32.toInt_inj.mp (by rw [Int32.toInt_ofNat_small (by omega)]; omega)
  rw [hj, hf]
  exact ok_0011_k ⟨f.toInt.toNat, by omega⟩ j
set_option maxRecDepth 65536 in
set_option maxHeartbeats 40000000 in
theorem ok_0100_k : ∀ (i : Fin 5) (j : Fin 7), Fm_may (5 : Int32) (6 : Int32) [1, 3, 0, 0, 0, 0, 0, 0] [1, 3, 0, 0, 0, 0, 0, 0] [0, 1, 2, 3, 5, 0, 0, 0, 0, 0, 0, 0, 0, 0, 0, 0] [0, 1, 2, 1, 3, 4, 0, 0, 0, 0, 0, 0, 0, 0, 0, 0] [0, 1, 2, 1, 3, 4, 0, 0, 0, 0, 0, 0, 0, 0, 0, 0] (Int32.ofNat i) (Int32.ofInt ((j.val : Int) - 1)) = some (expB (selM (Int32.ofNat i) (4 ||| bm (0 : Int32) 1) (8 ||| bm (1 : Int32) 2) ((16 ||| bm (0 : Int32) (8 ||| bm (1 : Int32) 2)) ||| bm (0 : Int32) (4 ||| bm (0 : Int32) 1))) (Int32.ofInt ((j.val : Int) - 1))) := by decide +kernel
theorem ok_0100 (f t : Int32) (h0 : 0 ≤ f.toInt) (h4 : f.toInt ≤ 4) : Fm_may (5 : Int32) (6 : Int32) [1, 3, 0, 0, 0, 0, 0, 0] [1, 3, 0, 0, 0, 0, 0, 0] [0, 1, 2, 3, 5, 0, 0, 0, 0, 0, 0, 0, 0, 0, 0, 0] [0, 1, 2, 1, 3, 4, 0, 0, 0, 0, 0, 0, 0, 0, 0, 0] [0, 1, 2, 1, 3, 4, 0, 0, 0, 0, 0, 0, 0, 0, 0, 0] f t = some (expB (selM f (4 ||| bm (0 : Int32) 1) (8 ||| bm (1 : Int32) 2) ((16 ||| bm (0 : Int32) (8 ||| bm (1 : Int32) 2)) ||| bm (0 : Int32) (4 ||| bm (0 : Int32) 1))) t) := by
  rw [may_cl _ _ _ _ _ _ _ _ _ (by decide) (by decide), ← expB_cl]
  obtain ⟨j, hj⟩ := cl_cases t
  have hf : f = Int32.ofNat f.toInt.toNat := Int32.toInt_inj.mp (by rw [Int32.toInt_ofNat_small (by omega)]; omega)
  rw [hj, hf]
  exact ok_0100_k ⟨f.toInt.toNat, by omega⟩ j
set_option maxRecDepth 65536 in
set_option maxHeartbeats 40000000 in
theorem ok_0101_k : ∀ (i : Fin 5) (j : Fin 7), Fm_may (5 : Int32) (7 : Int32) [2, 4, 0, 0, 0, 0, 0, 0] [2, 4, 0, 0, 0, 0, 0, 0] [0, 1, 2, 3, 5, 0, 0, 0, 0, 0, 0, 0, 0, 0, 0, 0] [0, 1, 2, 1, 3, 2, 4, 0, 0, 0, 0, 0, 0, 0, 0, 0] [0, 1, 2, 1, 3, 2, 4, 0, 0, 0, 0, 0, 0, 0, 0, 0] (Int32.ofNat i) (Int32.ofInt ((j.val : Int) - 1)) = some (expB (selM (Int32.ofNat i) (4 ||| bm (0 : Int32) 1) (8 ||| bm (1 : Int32) 2) ((16 ||| bm (0 : Int32) (8 ||| bm (1 : Int32) 2)) ||| bm (1 : Int32) (4 ||| bm (0 : Int32) 1))) (Int32.ofInt ((j.val : Int) - 1))) := by decide +kernel
theorem ok_0101 (f t : Int32) (h0 : 0 ≤ f.toInt) (h4 : f.toInt ≤ 4) : Fm_may (5 : Int32) (7 : Int32) [2, 4, 0, 0, 0, 0, 0, 0] [2, 4, 0, 0, 0, 0, 0, 0] [0, 1, 2, 3, 5, 0, 0, 0, 0, 0, 0, 0, 0, 0, 0, 0] [0, 1, 2, 1, 3, 2, 4, 0, 0, 0, 0, 0, 0, 0, 0, 0] [0, 1, 2, 1, 3, 2, 4, 0, 0, 0, 0, 0, 0, 0, 0, 0] f t = some (expB (selM f (4 ||| bm (0 : Int32) 1) (8 ||| bm (1 : Int32) 2) ((16 ||| bm (0 : Int32) (8 ||| bm (1 : Int32) 2)) ||| bm (1 : Int32) (4 ||| bm (0 : Int32) 1))) t) := by
  rw [may_cl _ _ _ _ _ _ _ _ _ (by decide) (by decide), ← expB_cl]
  obtain ⟨j, hj⟩ := cl_cases t
  have hf : f = Int32.ofNat f.toInt.toNat := Int32.toInt_inj.mp (by rw [Int32.toInt_ofNat_small (by omega)]; omega)
  rw [hj, hf]
  exact ok_0101_k ⟨f.toInt.toNat, by omega⟩ j
set_option maxRecDepth 65536 in
set_option maxHeartbeats 40000000 in
theorem ok_0110_k : ∀ (i : Fin 5) (j : Fin 7), Fm_may (5 : Int32) (7 : Int32) [1, 3, 0, 0, 0, 0, 0, 0] [1, 4, 0, 0, 0, 0, 0, 0] [0, 1, 2, 3, 5, 0, 0, 0, 0, 0, 0, 0, 0, 0, 0, 0] [0, 1, 2, 1, 3, 1, 3, 0, 0, 0, 0, 0, 0, 0, 0, 0] [0, 1, 2, 1, 3, 1, 4, 0, 0, 0, 0, 0, 0, 0, 0, 0] (Int32.ofNat i) (Int32.ofInt ((j.val : Int) - 1)) = some (expB (selM (Int32.ofNat i) (4 ||| bm (0 : Int32) 1) (8 ||| bm (1 : Int32) 2) ((16 ||| bm (1 : Int32) (8 ||| bm (1 : Int32) 2)) ||| bm (0 : Int32) (4 ||| bm (0 : Int32) 1))) (Int32.ofInt ((j.val : Int) - 1))) := by decide +kernel
theorem ok_0110 (f t : Int32) (h0 : 0 ≤ f.toInt) (h4 : f.toInt ≤ 4) : Fm_may (5 : Int32) (7 : Int32) [1, 3, 0, 0, 0, 0, 0, 0] [1, 4, 0, 0, 0, 0, 0, 0] [0, 1, 2, 3, 5, 0, 0, 0, 0, 0, 0, 0, 0, 0, 0, 0] [0, 1, 2, 1, 3, 1, 3, 0, 0, 0, 0, 0, 0, 0, 0, 0] [0, 1, 2, 1, 3, 1, 4, 0, 0, 0, 0, 0, 0, 0, 0, 0] f t = some (expB (selM f (4 ||| bm (0 : Int32) 1) (8 ||| bm (1 : Int32) 2) ((16 ||| bm (1 : Int32) (8 ||| bm (1 : Int32) 2)) ||| bm (0 : Int32) (4 ||| bm (0 : Int32) 1))) t) := by
  rw [may_cl _ _ _ _ _ _ _ _ _ (by decide) (by decide), ← expB_cl]
  obtain ⟨j, hj⟩ := cl_cases t
  have hf : f = Int32.ofNat f.toInt.toNat := Int32.toInt_inj.mp (by rw [Int32.toInt_ofNat_small (by omega)]; omega)
  rw [hj, hf]
  exact ok_0110_k ⟨f.toInt.toNat, by omega⟩ j
set_option maxRecDepth 65536 in
set_option maxHeartbeats 40000000 in
theorem ok_0111_k : ∀ (i : Fin 5) (j : Fin 7), Fm_may (5 : Int32) (6 : Int32) [1, 3, 0, 0, 0, 0, 0, 0] [4, 4, 0, 0, 0, 0, 0, 0] [0, 1, 2, 3, 5, 0, 0, 0, 0, 0, 0, 0, 0, 0, 0, 0] [0, 1, 2, 1, 3, 1, 3, 0, 0, 0, 0, 0, 0, 0, 0, 0] [0, 1, 2, 1, 3, 4, 4, 0, 0, 0, 0, 0, 0, 0, 0, 0] (Int32.ofNat i) (Int32.ofInt ((j.val : Int) - 1)) = some (expB (selM (Int32.ofNat i) (4 ||| bm (0 : Int32) 1) (8 ||| bm (1 : Int32) 2) ((16 ||| bm (1 : Int32) (8 ||| bm (1 : Int32) 2)) ||| bm (1 : Int32) (4 ||| bm (0 : Int32) 1))) (Int32.ofInt ((j.val : Int) - 1))) := by decide +kernel
theorem ok_0111 (f t : Int32) (h0 : 0 ≤ f.toInt) (h4 : f.toInt ≤ 4) : Fm_may (5 : Int32) (6 : Int32) [1, 3, 0, 0, 0, 0, 0, 0] [4, 4, 0, 0, 0, 0, 0, 0] [0, 1, 2, 3, 5, 0, 0, 0, 0, 0, 0, 0, 0, 0, 0, 0] [0, 1, 2, 1, 3, 1, 3, 0, 0, 0, 0, 0, 0, 0, 0, 0] [0, 1, 2, 1, 3, 4, 4, 0, 0, 0, 0, 0, 0, 0, 0, 0] f t = some (expB (selM f (4 ||| bm (0 : Int32) 1) (8 ||| bm (1 : Int32) 2) ((16 ||| bm (1 : Int32) (8 ||| bm (1 : Int32) 2)) ||| bm (1 : Int32) (4 ||| bm (0 : Int32) 1))) t) := by
  rw [may_cl _ _ _ _ _ _ _ _ _ (by decide) (by decide), ← expB_cl]
  obtain ⟨j, hj⟩ := cl_cases t
  have hf : f = Int32.ofNat f.toInt.toNat := Int32.toInt_inj.mp (by rw [Int32.toInt_ofNat_small (by omega)]; omega)
  rw [hj, hf]
  exact ok_0111_k ⟨f.toInt.toNat, by omega⟩ j
set_option maxRecDepth 65536 in
set_option maxHeartbeats 40000000 in
theorem ok_1000_k : ∀ (i : Fin 5) (j : Fin 7), Fm_may (5 : Int32) (6 : Int32) [0, 2, 0, 0, 0, 0, 0, 0] [0, 2, 0, 0, 0, 0, 0, 0] [0, 1, 2, 4, 5, 0, 0, 0, 0, 0, 0, 0, 0, 0, 0, 0] [0, 1, 0, 2, 3, 4, 0, 0, 0, 0, 0, 0, 0, 0, 0, 0] [0, 1, 0, 2, 3, 4, 0, 0, 0, 0, 0, 0, 0, 0, 0, 0] (Int32.ofNat i) (Int32.ofInt ((j.val : Int) - 1)) = some (expB (selM (Int32.ofNat i) (4 ||| bm (1 : Int32) 1) (8 ||| bm (0 : Int32) 2) ((16 ||| bm (0 : Int32) (8 ||| bm (0 : Int32) 2)) ||| bm (0 : Int32) (4 ||| bm (1 : Int32) 1))) (Int32.ofInt ((j.val : Int) - 1))) := by decide +kernel
theorem ok_1000 (f t : Int32) (h0 : 0 ≤ f.toInt) (h4 : f.toInt ≤ 4) : Fm_may (5 : Int32) (6 : Int32) [0, 2, 0, 0, 0, 0, 0, 0] [0, 2, 0, 0, 0, 0, 0, 0] [0, 1, 2, 4, 5, 0, 0, 0, 0, 0, 0, 0, 0, 0, 0, 0] [0, 1, 0, 2, 3, 4, 0, 0, 0, 0, 0, 0, 0, 0, 0, 0] [0, 1, 0, 2, 3, 4, 0, 0, 0, 0, 0, 0, 0, 0, 0, 0] f t = some (expB (selM f (4 ||| bm (1 : Int32) 1) (8 ||| bm (0 : Int32) 2) ((16 ||| bm (0 : Int32) (8 ||| bm (0 : Int32) 2)) ||| bm (0 : Int32) (4 ||| bm (1 : Int32) 1))) t) := by
  rw [may_cl _ _ _ _ _ _ _ _ _ (by decide) (by decide), ← expB_cl]
  obtain ⟨j, hj⟩ := cl_cases t
  have hf : f = Int32.ofNat f.toInt.toNat := Int32.toInt_inj.mp (by rw [Int32.toInt_ofNat_small (by omega)]; omega)
  rw [hj, hf]
  exact ok_1000_k ⟨f.toInt.toNat, by omega⟩ j
set_option maxRecDepth 65536 in
set_option maxHeartbeats 40000000 in
theorem ok_1001_k : ∀ (i : Fin 5) (j : Fin 7), Fm_may (5 : Int32) (8 : Int32) [0, 2, 4, 0, 0, 0, 0, 0] [0, 2, 4, 0, 0, 0, 0, 0] [0, 1, 2, 4, 5, 0, 0, 0, 0, 0, 0, 0, 0, 0, 0, 0] [0, 1, 0, 2, 3, 0, 2, 4, 0, 0, 0, 0, 0, 0, 0, 0] [0, 1, 0, 2, 3, 0, 2, 4, 0, 0, 0, 0, 0, 0, 0, 0] (Int32.ofNat i) (Int32.ofInt ((j.val : Int) - 1)) = some (expB (selM (Int32.ofNat i) (4 ||| bm (1 : Int32) 1) (8 ||| bm (0 : Int32) 2) ((16 ||| bm (0 : Int32) (8 ||| bm (0 : Int32) 2)) ||| bm (1 : Int32) (4 ||| bm (1 : Int32) 1))) (Int32.ofInt ((j.val : Int) - 1))) := by decide +kernel
theorem ok_1001 (f t : Int32) (h0 : 0 ≤ f.toInt) (h4 : f.toInt ≤ 4) : Fm_may (5 : Int32) (8 : Int32) [0, 2, 4, 0, 0, 0, 0, 0] [0, 2, 4, 0, 0, 0, 0, 0] [0, 1, 2, 4, 5, 0, 0, 0, 0, 0, 0, 0, 0, 0, 0, 0] [0, 1, 0, 2, 3, 0, 2, 4, 0, 0, 0, 0, 0, 0, 0, 0] [0, 1, 0, 2, 3, 0, 2, 4, 0, 0, 0, 0, 0, 0, 0, 0] f t = some (expB (selM f (4 ||| bm (1 : Int32) 1) (8 ||| bm (0 : Int32) 2) ((16 ||| bm (0 : Int32) (8 ||| bm (0 : Int32) 2)) ||| bm (1 : Int32) (4 ||| bm (1 : Int32) 1))) t) := by
  rw [may_cl _ _ _ _ _ _ _ _ _ (by decide) (by decide), ← expB_cl]
  obtain ⟨j, hj⟩ := cl_cases t
  have hf : f = Int32.ofNat f.toInt.toNat := Int32.toInt_inj.mp (by rw [Int32.toInt_ofNat_small (by omega)]; omega)
  rw [hj, hf]
  exact ok_1001_k ⟨f.toInt.toNat, by omega⟩ j
set_option maxRecDepth 65536 in
set_option maxHeartbeats 40000000 in
theorem ok_1010_k : ∀ (i : Fin 5) (j : Fin 7), Fm_may (5 : Int32) (6 : Int32) [3, 2, 0, 0, 0, 0, 0, 0] [4, 2, 0, 0, 0, 0, 0, 0] [0, 1, 2, 4, 5, 0, 0, 0, 0, 0, 0, 0, 0, 0, 0, 0] [0, 1, 0, 2, 3, 3, 0, 0, 0, 0, 0, 0, 0, 0, 0, 0] [0, 1, 0, 2, 3, 4, 0, 0, 0, 0, 0, 0, 0, 0, 0, 0] (Int32.ofNat i) (Int32.ofInt ((j.val : Int) - 1)) = some (expB (selM (Int32.ofNat i) (4 ||| bm (1 : Int32) 1) (8 ||| bm (0 : Int32) 2) ((16 ||| bm (1 : Int32) (8 ||| bm (0 : Int32) 2)) ||| bm (0 : Int32) (4 ||| bm (1 : Int32) 1))) (Int32.ofInt ((j.val : Int) - 1))) := by decide +kernel
theorem ok_1010 (f t : Int32) (h0 : 0 ≤ f.toInt) (h4 : f.toInt ≤ 4) : Fm_may (5 : Int32) (6 : Int32) [3, 2, 0, 0, 0, 0, 0, 0] [4, 2, 0, 0, 0, 0, 0, 0] [0, 1, 2, 4, 5, 0, 0, 0, 0, 0, 0, 0, 0, 0, 0, 0] [0, 1, 0, 2, 3, 3, 0, 0, 0, 0, 0, 0, 0, 0, 0, 0] [0, 1, 0, 2, 3, 4, 0, 0, 0, 0, 0, 0, 0, 0, 0, 0] f t = some (expB (selM f (4 ||| bm (1 : Int32) 1) (8 ||| bm (0 : Int32) 2) ((16 ||| bm (1 : Int32) (8 ||| bm (0 : Int32) 2)) ||| bm (0 : Int32) (4 ||| bm (1 : Int32) 1))) t) := by
  rw [may_cl _ _ _ _ _ _ _ _ _ (by decide) (by decide), ← expB_cl]
  obtain ⟨j, hj⟩ := cl_cases t
  have hf : f = Int32.ofNat f.toInt.toNat := Int32.toInt_inj.mp (by rw [Int32.toInt_ofNat_small (by omega)]; omega)
  rw [hj, hf]
  exact ok_1010_k ⟨f.toInt.toNat, by omega⟩ j
set_option maxRecDepth 65536 in
set_option maxHeartbeats 40000000 in
theorem ok_1011_k : ∀ (i : Fin 5) (j : Fin 7), Fm_may (5 : Int32) (7 : Int32) [0, 2, 0, 0, 0, 0, 0, 0] [0, 4, 0, 0, 0, 0, 0, 0] [0, 1, 2, 4, 5, 0, 0, 0, 0, 0, 0, 0, 0, 0, 0, 0] [0, 1, 0, 2, 3, 0, 2, 0, 0, 0, 0, 0, 0, 0, 0, 0] [0, 1, 0, 2, 3, 0, 4, 0, 0, 0, 0, 0, 0, 0, 0, 0] (Int32.ofNat i) (Int32.ofInt ((j.val : Int) - 1)) = some (expB (selM (Int32.ofNat i) (4 ||| bm (1 : Int32) 1) (8 ||| bm (0 : Int32) 2) ((16 ||| bm (1 : Int32) (8 ||| bm (0 : Int32) 2)) ||| bm (1 : Int32) (4 ||| bm (1 : Int32) 1))) (Int32.ofInt ((j.val : Int) - 1))) := by decide +kernel
theorem ok_1011 (f t : Int32) (h0 : 0 ≤ f.toInt) (h4 : f.toInt ≤ 4) : Fm_may (5 : Int32) (7 : Int32) [0, 2, 0, 0, 0, 0, 0, 0] [0, 4, 0, 0, 0, 0, 0, 0] [0, 1, 2, 4, 5, 0, 0, 0, 0, 0, 0, 0, 0, 0, 0, 0] [0, 1, 0, 2, 3, 0, 2, 0, 0, 0, 0, 0, 0, 0, 0, 0] [0, 1, 0, 2, 3, 0, 4, 0, 0, 0, 0, 0, 0, 0, 0, 0] f t = some (expB (selM f (4 ||| bm (1 : Int32) 1) (8 ||| bm (0 : Int32) 2) ((16 ||| bm (1 : Int32) (8 ||| bm (0 : Int32) 2)) ||| bm (1 : Int32) (4 ||| bm (1 : Int32) 1))) t) := by
  rw [may_cl _ _ _ _ _ _ _ _ _ (by decide) (by decide), ← expB_cl]
  obtain ⟨j, hj⟩ := cl_cases t
  have hf : f = Int32.ofNat f.toInt.toNat := Int32.toInt_inj.mp (by rw [Int32.toInt_ofNat_small (by omega)]; omega)
  rw [hj, hf]
  exact ok_1011_k ⟨f.toInt.toNat, by omega⟩ j
set_option maxRecDepth 65536 in
set_option maxHeartbeats 40000000 in
theorem ok_1100_k : ∀ (i : Fin 5) (j : Fin 7), Fm_may (5 : Int32) (7 : Int32) [1, 3, 0, 0, 0, 0, 0, 0] [1, 3, 0, 0, 0, 0, 0, 0] [0, 1, 2, 4, 6, 0, 0, 0, 0, 0, 0, 0, 0, 0, 0, 0] [0, 1, 0, 2, 1, 3, 4, 0, 0, 0, 0, 0, 0, 0, 0, 0] [0, 1, 0, 2, 1, 3, 4, 0, 0, 0, 0, 0, 0, 0, 0, 0] (Int32.ofNat i) (Int32.ofInt ((j.val : Int) - 1)) = some (expB (selM (Int32.ofNat i) (4 ||| bm (1 : Int32) 1) (8 ||| bm (1 : Int32) 2) ((16 ||| bm (0 : Int32) (8 ||| bm (1 : Int32) 2)) ||| bm (0 : Int32) (4 ||| bm (1 : Int32) 1))) (Int32.ofInt ((j.val : Int) - 1))) := by decide +kernel
theorem ok_1100 (f t : Int32) (h0 : 0 ≤ f.toInt) (h4 : f.toInt ≤ 4) : Fm_may (5 : Int32) (7 : Int32) [1, 3, 0, 0, 0, 0, 0, 0] [1, 3, 0, 0, 0, 0, 0, 0] [0, 1, 2, 4, 6, 0, 0, 0, 0, 0, 0, 0, 0, 0, 0, 0] [0, 1, 0, 2, 1, 3, 4, 0, 0, 0, 0, 0, 0, 0, 0, 0] [0, 1, 0, 2, 1, 3, 4, 0, 0, 0, 0, 0, 0, 0, 0, 0] f t = some (expB (selM f (4 ||| bm (1 : Int32) 1) (8 ||| bm (1 : Int32) 2) ((16 ||| bm (0 : Int32) (8 ||| bm (1 : Int32) 2)) ||| bm (0 : Int32) (4 ||| bm (1 : Int32) 1))) t) := by
  rw [may_cl _ _ _ _ _ _ _ _ _ (by decide) (by decide), ← expB_cl]
  obtain ⟨j, hj⟩ := cl_cases t
  have hf : f = Int32.ofNat f.toInt.toNat := Int32.toInt_inj.mp (by rw [Int32.toInt_ofNat_small (by omega)]; omega)
  rw [hj, hf]
  exact ok_1100_k ⟨f.toInt.toNat, by omega⟩ j
set_option maxRecDepth 65536 in
set_option maxHeartbeats 40000000 in
theorem ok_1101_k : ∀ (i : Fin 5) (j : Fin 7), Fm_may (5 : Int32) (9 : Int32) [0, 2, 4, 0, 0, 0, 0, 0] [0, 2, 4, 0, 0, 0, 0, 0] [0, 1, 2, 4, 6, 0, 0, 0, 0, 0, 0, 0, 0, 0, 0, 0] [0, 1, 0, 2, 1, 3, 0, 2, 4, 0, 0, 0, 0, 0, 0, 0] [0, 1, 0, 2, 1, 3, 0, 2, 4, 0, 0, 0, 0, 0, 0, 0] (Int32.ofNat i) (Int32.ofInt ((j.val : Int) - 1)) = some (expB (selM (Int32.ofNat i) (4 ||| bm (1 : Int32) 1) (8 ||| bm (1 : Int32) 2) ((16 ||| bm (0 : Int32) (8 ||| bm (1 : Int32) 2)) ||| bm (1 : Int32) (4 ||| bm (1 : Int32) 1))) (Int32.ofInt ((j.val : Int) - 1))) := by decide +kernel
theorem ok_1101 (f t : Int32) (h0 : 0 ≤ f.toInt) (h4 : f.toInt ≤ 4) : Fm_may (5 : Int32) (9 : Int32) [0, 2, 4, 0, 0, 0, 0, 0] [0, 2, 4, 0, 0, 0, 0, 0] [0, 1, 2, 4, 6, 0, 0, 0, 0, 0, 0, 0, 0, 0, 0, 0] [0, 1, 0, 2, 1, 3, 0, 2, 4, 0, 0, 0, 0, 0, 0, 0] [0, 1, 0, 2, 1, 3, 0, 2, 4, 0, 0, 0, 0, 0, 0, 0] f t = some (expB (selM f (4 ||| bm (1 : Int32) 1) (8 ||| bm (1 : Int32) 2) ((16 ||| bm (0 : Int32) (8 ||| bm (1 : Int32) 2)) ||| bm (1 : Int32) (4 ||| bm (1 : Int32) 1))) t) := by
  rw [may_cl _ _ _ _ _ _ _ _ _ (by decide) (by decide), ← expB_cl]
  obtain ⟨j, hj⟩ := cl_cases t
  have hf : f = Int32.ofNat f.toInt.toNat := Int32.toInt_inj.mp (by rw [Int32.toInt_ofNat_small (by omega)]; omega)
  rw [hj, hf]
  exact ok_1101_k ⟨f.toInt.toNat, by omega⟩ j
set_option maxRecDepth 65536 in
set_option maxHeartbeats 40000000 in
theorem ok_1110_k : ∀ (i : Fin 5) (j : Fin 7), Fm_may (5 : Int32) (8 : Int32) [1, 3, 0, 0, 0, 0, 0, 0] [1, 4, 0, 0, 0, 0, 0, 0] [0, 1, 2, 4, 6, 0, 0, 0, 0, 0, 0, 0, 0, 0, 0, 0] [0, 1, 0, 2, 1, 3, 1, 3, 0, 0, 0, 0, 0, 0, 0, 0] [0, 1, 0, 2, 1, 3, 1, 4, 0, 0, 0, 0, 0, 0, 0, 0] (Int32.ofNat i) (Int32.ofInt ((j.val : Int) - 1)) = some (expB (selM (Int32.ofNat i) (4 ||| bm (1 : Int32) 1) (8 ||| bm (1 : Int32) 2) ((16 ||| bm (1 : Int32) (8 ||| bm (1 : Int32) 2)) ||| bm (0 : Int32) (4 ||| bm (1 : Int32) 1))) (Int32.ofInt ((j.val : Int) - 1))) := by decide +kernel
theorem ok_1110 (f t : Int32) (h0 : 0 ≤ f.toInt) (h4 : f.toInt ≤ 4) : Fm_may (5 : Int32) (8 : Int32) [1, 3, 0, 0, 0, 0, 0, 0] [1, 4, 0, 0, 0, 0, 0, 0] [0, 1, 2, 4, 6, 0, 0, 0, 0, 0, 0, 0, 0, 0, 0, 0] [0, 1, 0, 2, 1, 3, 1, 3, 0, 0, 0, 0, 0, 0, 0, 0] [0, 1, 0, 2, 1, 3, 1, 4, 0, 0, 0, 0, 0, 0, 0, 0] f t = some (expB (selM f (4 ||| bm (1 : Int32) 1) (8 ||| bm (1 : Int32) 2) ((16 ||| bm (1 : Int32) (8 ||| bm (1 : Int32) 2)) ||| bm (0 : Int32) (4 ||| bm (1 : Int32) 1))) t) := by
  rw [may_cl _ _ _ _ _ _ _ _ _ (by decide) (by decide), ← expB_cl]
  obtain ⟨j, hj⟩ := cl_cases t
  have hf : f = Int32.ofNat f.toInt.toNat := Int32.toInt_inj.mp (by rw [Int32.toInt_ofNat_small (by omega)]; omega)
  rw [hj, hf]
  exact ok_1110_k ⟨f.toInt.toNat, by omega⟩ j
set_option maxRecDepth 65536 in
set_option maxHeartbeats 40000000 in
theorem ok_1111_k : ∀ (i : Fin 5) (j : Fin 7), Fm_may (5 : Int32) (7 : Int32) [0, 3, 0, 0, 0, 0, 0, 0] [4, 4, 0, 0, 0, 0, 0, 0] [0, 1, 2, 4, 6, 0, 0, 0, 0, 0, 0, 0, 0, 0, 0, 0] [0, 1, 0, 2, 1, 3, 0, 3, 0, 0, 0, 0, 0, 0, 0, 0] [0, 1, 0, 2, 1, 3, 4, 4, 0, 0, 0, 0, 0, 0, 0, 0] (Int32.ofNat i) (Int32.ofInt ((j.val : Int) - 1)) = some (expB (selM (Int32.ofNat i) (4 ||| bm (1 : Int32) 1) (8 ||| bm (1 : Int32) 2) ((16 ||| bm (1 : Int32) (8 ||| bm (1 : Int32) 2)) ||| bm (1 : Int32) (4 ||| bm (1 : Int32) 1))) (Int32.ofInt ((j.val : Int) - 1))) := by decide +kernel
theorem ok_1111 (f t : Int32) (h0 : 0 ≤ f.toInt) (h4 : f.toInt ≤ 4) : Fm_may (5 : Int32) (7 : Int32) [0, 3, 0, 0, 0, 0, 0, 0] [4, 4, 0, 0, 0, 0, 0, 0] [0, 1, 2, 4, 6, 0, 0, 0, 0, 0, 0, 0, 0, 0, 0, 0] [0, 1, 0, 2, 1, 3, 0, 3, 0, 0, 0, 0, 0, 0, 0, 0] [0, 1, 0, 2, 1, 3, 4, 4, 0, 0, 0, 0, 0, 0, 0, 0] f t = some (expB (selM f (4 ||| bm (1 : Int32) 1) (8 ||| bm (1 : Int32) 2) ((16 ||| bm (1 : Int32) (8 ||| bm (1 : Int32) 2)) ||| bm (1 : Int32) (4 ||| bm (1 : Int32) 1))) t) := by
  rw [may_cl _ _ _ _ _ _ _ _ _ (by decide) (by decide), ← expB_cl]
  obtain ⟨j, hj⟩ := cl_cases t
  have hf : f = Int32.ofNat f.toInt.toNat := Int32.toInt_inj.mp (by rw [Int32.toInt_ofNat_small (by omega)]; omega)
  rw [hj, hf]
  exact ok_1111_k ⟨f.toInt.toNat, by omega⟩ j
set_option maxRecDepth 65536 in
set_option maxHeartbeats 40000000 in
theorem m_94_0000 (l : Launch) (Z : State) (a0 : Array Value) (hw : ∀ d ∈ tables_1, d.before a0 Z = true) (hB : Heap) (x0 x1 x2 wd f t : Int32) (no : Addr) (cl : Cell) (sN : Sta Z hB "com/example/dissect/dissect/ReachedRanges" "NO_INTS" "[I" (.ref no)) (A : Arr Z hB no cl .int) (hz : cl.slots.size = 0) (hf0 : 0 ≤ f.toInt) (hf4 : f.toInt ≤ 4) : WP l Z hB x code maxLocals ret room_1 0 (fun v _ => v = some (.int 1)) 0 [] 94 #[.val (.int x0), .val (.int x1), .val (.int x2), .val (.int (0 : Int32)), .val (.int (0 : Int32)), .val (.int (0 : Int32)), .val (.int (0 : Int32)), .val (.int wd), .val (.int f), .val (.int t), .unset, .unset, .unset, .unset, .unset, .unset] [] := by
  refine Wk.newObj (pc' := 97) (i := 0) (H' := [obj "com/example/dissect/dissect/ReachedRanges" ksRR [.null, (.int (0 : Int32)), .null, .null, (.int (0 : Int32)), .null, .null]]) at_94 (wd1 hw) (wd2 hw) (wd3 hw) (ksRR_laid hw) (ksRR_dist hw) (Nat.le_of_ble_eq_true rfl) (Nat.le_of_ble_eq_true rfl) rfl rfl rfl ?_
  refine Wk.dup (pc' := 98) at_97 rfl rfl ?_
  refine Wk.callI (pc' := 101) (argsL := []) (st := [(rf hB 0)]) at_98 rfl (wd4 hw) (wd5 hw) (wd3 hw) (wd6 hw) (by decide) (lenOf pd_4 rfl) (m_init l Z a0 hw hB no cl sN A hz) rfl (Nat.le_of_ble_eq_true rfl) (Nat.le_of_ble_eq_true rfl) (Nat.le_of_ble_eq_true rfl) (Nat.le_of_ble_eq_true rfl) rfl rfl ?_
  rintro _ _ ⟨rfl, hH⟩; obtain rfl := hH.symm
  show WP l Z hB _ _ _ _ _ _ _ _ [obj "com/example/dissect/dissect/ReachedRanges" ksRR [(.ref no), (.int (0 : Int32)), (.ref no), (.ref no), (.int (0 : Int32)), (rf hB 1), (rf hB 2)], ints [0, 0, 0, 0, 0, 0, 0, 0], ints [0, 0, 0, 0, 0, 0, 0, 0]] _ _ [(rf hB 0)]
  refine Wk.astore (pc' := 103) (Ls' := #[.val (.int x0), .val (.int x1), .val (.int x2), .val (.int (0 : Int32)), .val (.int (0 : Int32)), .val (.int (0 : Int32)), .val (.int (0 : Int32)), .val (.int wd), .val (.int f), .val (.int t), .val (rf hB 0), .unset, .unset, .unset, .unset, .unset]) at_101 rfl rfl rfl ?_
  refine Wk.aload (pc' := 105) at_103 rfl rfl rfl ?_
  refine Wk.callV (pc' := 108) (argsL := []) (st := []) at_105 (wd23 hw) (wd24 hw) (Wk.nfSel (wd26 hw)) (wd26 hw) (wd25 hw) (wd3 hw) (wd27 hw) (by decide) (lenOf pd_4 rfl) (fun _ P => P.exa rfl) (m_add0 l Z a0 hw hB no cl sN A hz) rfl (Nat.le_of_ble_eq_true rfl) (Nat.le_of_ble_eq_true rfl) (Nat.le_of_ble_eq_true rfl) (Nat.le_of_ble_eq_true rfl) rfl rfl ?_
  rintro _ _ ⟨rfl, hH⟩; obtain rfl := hH.symm
  show WP l Z hB _ _ _ _ _ _ _ _ [obj "com/example/dissect/dissect/ReachedRanges" ksRR [(rf hB 3), (.int (1 : Int32)), (rf hB 4), (rf hB 5), (.int (1 : Int32)), (rf hB 1), (rf hB 2)], ints [0, 0, 0, 0, 0, 0, 0, 0], ints [0, 0, 0, 0, 0, 0, 0, 0], ints [0, 0, 0, 0, 0, 0, 0, 0, 0, 0, 0, 0, 0, 0, 0, 0], ints [0, 0, 0, 0, 0, 0, 0, 0, 0, 0, 0, 0, 0, 0, 0, 0], ints [0, 0, 0, 0, 0, 0, 0, 0, 0, 0, 0, 0, 0, 0, 0, 0]] _ _ []
  refine Wk.aload (pc' := 110) at_108 rfl rfl rfl ?_
  refine Wk.callV (pc' := 113) (argsL := []) (st := []) at_110 (wd23 hw) (wd24 hw) (Wk.nfSel (wd26 hw)) (wd26 hw) (wd25 hw) (wd3 hw) (wd27 hw) (by decide) (lenOf pd_4 rfl) (fun _ P => P.exa rfl) (m_add l Z a0 hw hB (1 : Int32) (1 : Int32) [0, 0, 0, 0, 0, 0, 0, 0] [0, 0, 0, 0, 0, 0, 0, 0] [0, 0, 0, 0, 0, 0, 0, 0, 0, 0, 0, 0, 0, 0, 0, 0] [0, 0, 0, 0, 0, 0, 0, 0, 0, 0, 0, 0, 0, 0, 0, 0] [0, 0, 0, 0, 0, 0, 0, 0, 0, 0, 0, 0, 0, 0, 0, 0] ([0, 1, 0, 0, 0, 0, 0, 0, 0, 0, 0, 0, 0, 0, 0, 0], [0, 1, 0, 0, 0, 0, 0, 0, 0, 0, 0, 0, 0, 0, 0, 0], [0, 1, 0, 0, 0, 0, 0, 0, 0, 0, 0, 0, 0, 0, 0, 0], (2 : Int32), (2 : Int32)) (by decide +kernel)) rfl (Nat.le_of_ble_eq_true rfl) (Nat.le_of_ble_eq_true rfl) (Nat.le_of_ble_eq_true rfl) (Nat.le_of_ble_eq_true rfl) rfl rfl ?_
  rintro _ _ ⟨rfl, hH⟩; obtain rfl := hH.symm
  show WP l Z hB _ _ _ _ _ _ _ _ [obj "com/example/dissect/dissect/ReachedRanges" ksRR [(rf hB 3), (.int (2 : Int32)), (rf hB 4), (rf hB 5), (.int (2 : Int32)), (rf hB 1), (rf hB 2)], ints [0, 0, 0, 0, 0, 0, 0, 0], ints [0, 0, 0, 0, 0, 0, 0, 0], ints [0, 1, 0, 0, 0, 0, 0, 0, 0, 0, 0, 0, 0, 0, 0, 0], ints [0, 1, 0, 0, 0, 0, 0, 0, 0, 0, 0, 0, 0, 0, 0, 0], ints [0, 1, 0, 0, 0, 0, 0, 0, 0, 0, 0, 0, 0, 0, 0, 0]] _ _ []
  refine Wk.aload (pc' := 115) at_113 rfl rfl rfl ?_
  refine Wk.callV (pc' := 118) (argsL := []) (st := []) at_115 (wd23 hw) (wd24 hw) (Wk.nfSel (wd26 hw)) (wd26 hw) (wd25 hw) (wd3 hw) (wd27 hw) (by decide) (lenOf pd_4 rfl) (fun _ P => P.exa rfl) (m_add l Z a0 hw hB (2 : Int32) (2 : Int32) [0, 0, 0, 0, 0, 0, 0, 0] [0, 0, 0, 0, 0, 0, 0, 0] [0, 1, 0, 0, 0, 0, 0, 0, 0, 0, 0, 0, 0, 0, 0, 0] [0, 1, 0, 0, 0, 0, 0, 0, 0, 0, 0, 0, 0, 0, 0, 0] [0, 1, 0, 0, 0, 0, 0, 0, 0, 0, 0, 0, 0, 0, 0, 0] ([0, 1, 2, 0, 0, 0, 0, 0, 0, 0, 0, 0, 0, 0, 0, 0], [0, 1, 2, 0, 0, 0, 0, 0, 0, 0, 0, 0, 0, 0, 0, 0], [0, 1, 2, 0, 0, 0, 0, 0, 0, 0, 0, 0, 0, 0, 0, 0], (3 : Int32), (3 : Int32)) (by decide +kernel)) rfl (Nat.le_of_ble_eq_true rfl) (Nat.le_of_ble_eq_true rfl) (Nat.le_of_ble_eq_true rfl) (Nat.le_of_ble_eq_true rfl) rfl rfl ?_
  rintro _ _ ⟨rfl, hH⟩; obtain rfl := hH.symm
  show WP l Z hB _ _ _ _ _ _ _ _ [obj "com/example/dissect/dissect/ReachedRanges" ksRR [(rf hB 3), (.int (3 : Int32)), (rf hB 4), (rf hB 5), (.int (3 : Int32)), (rf hB 1), (rf hB 2)], ints [0, 0, 0, 0, 0, 0, 0, 0], ints [0, 0, 0, 0, 0, 0, 0, 0], ints [0, 1, 2, 0, 0, 0, 0, 0, 0, 0, 0, 0, 0, 0, 0, 0], ints [0, 1, 2, 0, 0, 0, 0, 0, 0, 0, 0, 0, 0, 0, 0, 0], ints [0, 1, 2, 0, 0, 0, 0, 0, 0, 0, 0, 0, 0, 0, 0, 0]] _ _ []
  refine Wk.iloadN (pc' := 119) at_118 rfl rfl ?_
  refine Wk.ifY (pc' := 128) at_119 (XT.i0_eq_t rfl) (by decide) (by decide) ?_
  refine Wk.aload (pc' := 130) at_128 rfl rfl rfl ?_
  refine Wk.callV (pc' := 133) (argsL := []) (st := []) at_130 (wd23 hw) (wd24 hw) (Wk.nfSel (wd26 hw)) (wd26 hw) (wd25 hw) (wd3 hw) (wd27 hw) (by decide) (lenOf pd_4 rfl) (fun _ P => P.exa rfl) (m_add l Z a0 hw hB (3 : Int32) (3 : Int32) [0, 0, 0, 0, 0, 0, 0, 0] [0, 0, 0, 0, 0, 0, 0, 0] [0, 1, 2, 0, 0, 0, 0, 0, 0, 0, 0, 0, 0, 0, 0, 0] [0, 1, 2, 0, 0, 0, 0, 0, 0, 0, 0, 0, 0, 0, 0, 0] [0, 1, 2, 0, 0, 0, 0, 0, 0, 0, 0, 0, 0, 0, 0, 0] ([0, 1, 2, 3, 0, 0, 0, 0, 0, 0, 0, 0, 0, 0, 0, 0], [0, 1, 2, 3, 0, 0, 0, 0, 0, 0, 0, 0, 0, 0, 0, 0], [0, 1, 2, 3, 0, 0, 0, 0, 0, 0, 0, 0, 0, 0, 0, 0], (4 : Int32), (4 : Int32)) (by decide +kernel)) rfl (Nat.le_of_ble_eq_true rfl) (Nat.le_of_ble_eq_true rfl) (Nat.le_of_ble_eq_true rfl) (Nat.le_of_ble_eq_true rfl) rfl rfl ?_
  rintro _ _ ⟨rfl, hH⟩; obtain rfl := hH.symm
  show WP l Z hB _ _ _ _ _ _ _ _ [obj "com/example/dissect/dissect/ReachedRanges" ksRR [(rf hB 3), (.int (4 : Int32)), (rf hB 4), (rf hB 5), (.int (4 : Int32)), (rf hB 1), (rf hB 2)], ints [0, 0, 0, 0, 0, 0, 0, 0], ints [0, 0, 0, 0, 0, 0, 0, 0], ints [0, 1, 2, 3, 0, 0, 0, 0, 0, 0, 0, 0, 0, 0, 0, 0], ints [0, 1, 2, 3, 0, 0, 0, 0, 0, 0, 0, 0, 0, 0, 0, 0], ints [0, 1, 2, 3, 0, 0, 0, 0, 0, 0, 0, 0, 0, 0, 0, 0]] _ _ []
  refine Wk.iload (pc' := 135) at_133 rfl rfl ?_
  refine Wk.ifY (pc' := 144) at_135 (XT.i0_eq_t rfl) (by decide) (by decide) ?_
  refine Wk.aload (pc' := 146) at_144 rfl rfl rfl ?_
  refine Wk.callV (pc' := 149) (argsL := []) (st := []) at_146 (wd23 hw) (wd24 hw) (Wk.nfSel (wd26 hw)) (wd26 hw) (wd25 hw) (wd3 hw) (wd27 hw) (by decide) (lenOf pd_4 rfl) (fun _ P => P.exa rfl) (m_add l Z a0 hw hB (4 : Int32) (4 : Int32) [0, 0, 0, 0, 0, 0, 0, 0] [0, 0, 0, 0, 0, 0, 0, 0] [0, 1, 2, 3, 0, 0, 0, 0, 0, 0, 0, 0, 0, 0, 0, 0] [0, 1, 2, 3, 0, 0, 0, 0, 0, 0, 0, 0, 0, 0, 0, 0] [0, 1, 2, 3, 0, 0, 0, 0, 0, 0, 0, 0, 0, 0, 0, 0] ([0, 1, 2, 3, 4, 0, 0, 0, 0, 0, 0, 0, 0, 0, 0, 0], [0, 1, 2, 3, 4, 0, 0, 0, 0, 0, 0, 0, 0, 0, 0, 0], [0, 1, 2, 3, 4, 0, 0, 0, 0, 0, 0, 0, 0, 0, 0, 0], (5 : Int32), (5 : Int32)) (by decide +kernel)) rfl (Nat.le_of_ble_eq_true rfl) (Nat.le_of_ble_eq_true rfl) (Nat.le_of_ble_eq_true rfl) (Nat.le_of_ble_eq_true rfl) rfl rfl ?_
  rintro _ _ ⟨rfl, hH⟩; obtain rfl := hH.symm
  show WP l Z hB _ _ _ _ _ _ _ _ [obj "com/example/dissect/dissect/ReachedRanges" ksRR [(rf hB 3), (.int (5 : Int32)), (rf hB 4), (rf hB 5), (.int (5 : Int32)), (rf hB 1), (rf hB 2)], ints [0, 0, 0, 0, 0, 0, 0, 0], ints [0, 0, 0, 0, 0, 0, 0, 0], ints [0, 1, 2, 3, 4, 0, 0, 0, 0, 0, 0, 0, 0, 0, 0, 0], ints [0, 1, 2, 3, 4, 0, 0, 0, 0, 0, 0, 0, 0, 0, 0, 0], ints [0, 1, 2, 3, 4, 0, 0, 0, 0, 0, 0, 0, 0, 0, 0, 0]] _ _ []
  refine Wk.iload (pc' := 151) at_149 rfl rfl ?_
  refine Wk.ifY (pc' := 160) at_151 (XT.i0_eq_t rfl) (by decide) (by decide) ?_
  refine Wk.iload (pc' := 162) at_160 rfl rfl ?_
  refine Wk.ifY (pc' := 171) at_162 (XT.i0_eq_t rfl) (by decide) (by decide) ?_
  exact m_B l Z a0 hw hB x0 x1 x2 (0 : Int32) (0 : Int32) (0 : Int32) (0 : Int32) wd f t [obj "com/example/dissect/dissect/ReachedRanges" ksRR [(rf hB 3), (.int (5 : Int32)), (rf hB 4), (rf hB 5), (.int (5 : Int32)), (rf hB 1), (rf hB 2)], ints [0, 0, 0, 0, 0, 0, 0, 0], ints [0, 0, 0, 0, 0, 0, 0, 0], ints [0, 1, 2, 3, 4, 0, 0, 0, 0, 0, 0, 0, 0, 0, 0, 0], ints [0, 1, 2, 3, 4, 0, 0, 0, 0, 0, 0, 0, 0, 0, 0, 0], ints [0, 1, 2, 3, 4, 0, 0, 0, 0, 0, 0, 0, 0, 0, 0, 0]] _ rfl (Nat.le_of_ble_eq_true rfl) _ (Nat.le_of_ble_eq_true rfl) (by have h := m_may l Z a0 hw hB (5 : Int32) (5 : Int32) [0, 0, 0, 0, 0, 0, 0, 0] [0, 0, 0, 0, 0, 0, 0, 0] [0, 1, 2, 3, 4, 0, 0, 0, 0, 0, 0, 0, 0, 0, 0, 0] [0, 1, 2, 3, 4, 0, 0, 0, 0, 0, 0, 0, 0, 0, 0, 0] [0, 1, 2, 3, 4, 0, 0, 0, 0, 0, 0, 0, 0, 0, 0, 0] f t _ (ok_0000 f t hf0 hf4); rw [expB_nar] at h; exact h)
set_option maxRecDepth 65536 in
set_option maxHeartbeats 40000000 in
theorem m_94_0001 (l : Launch) (Z : State) (a0 : Array Value) (hw : ∀ d ∈ tables_1, d.before a0 Z = true) (hB : Heap) (x0 x1 x2 wd f t : Int32) (no : Addr) (cl : Cell) (sN : Sta Z hB "com/example/dissect/dissect/ReachedRanges" "NO_INTS" "[I" (.ref no)) (A : Arr Z hB no cl .int) (hz : cl.slots.size = 0) (hf0 : 0 ≤ f.toInt) (hf4 : f.toInt ≤ 4) : WP l Z hB x code maxLocals ret room_1 0 (fun v _ => v = some (.int 1)) 0 [] 94 #[.val (.int x0), .val (.int x1), .val (.int x2), .val (.int (0 : Int32)), .val (.int (0 : Int32)), .val (.int (0 : Int32)), .val (.int (1 : Int32)), .val (.int wd), .val (.int f), .val (.int t), .unset, .unset, .unset, .unset, .unset, .unset] [] := by
  refine Wk.newObj (pc' := 97) (i := 0) (H' := [obj "com/example/dissect/dissect/ReachedRanges" ksRR [.null, (.int (0 : Int32)), .null, .null, (.int (0 : Int32)), .null, .null]]) at_94 (wd1 hw) (wd2 hw) (wd3 hw) (ksRR_laid hw) (ksRR_dist hw) (Nat.le_of_ble_eq_true rfl) (Nat.le_of_ble_eq_true rfl) rfl rfl rfl ?_
  refine Wk.dup (pc' := 98) at_97 rfl rfl ?_
  refine Wk.callI (pc' := 101) (argsL := []) (st := [(rf hB 0)]) at_98 rfl (wd4 hw) (wd5 hw) (wd3 hw) (wd6 hw) (by decide) (lenOf pd_4 rfl) (m_init l Z a0 hw hB no cl sN A hz) rfl (Nat.le_of_ble_eq_true rfl) (Nat.le_of_ble_eq_true rfl) (Nat.le_of_ble_eq_true rfl) (Nat.le_of_ble_eq_true rfl) rfl rfl ?_
  rintro _ _ ⟨rfl, hH⟩; obtain rfl := hH.symm
  show WP l Z hB _ _ _ _ _ _ _ _ [obj "com/example/dissect/dissect/ReachedRanges" ksRR [(.ref no), (.int (0 : Int32)), (.ref no), (.ref no), (.int (0 : Int32)), (rf hB 1), (rf hB 2)], ints [0, 0, 0, 0, 0, 0, 0, 0], ints [0, 0, 0, 0, 0, 0, 0, 0]] _ _ [(rf hB 0)]
  refine Wk.astore (pc' := 103) (Ls' := #[.val (.int x0), .val (.int x1), .val (.int x2), .val (.int (0 : Int32)), .val (.int (0 : Int32)), .val (.int (0 : Int32)), .val (.int (1 : Int32)), .val (.int wd), .val (.int f), .val (.int t), .val (rf hB 0), .unset, .unset, .unset, .unset, .unset]) at_101 rfl rfl rfl ?_
  refine Wk.aload (pc' := 105) at_103 rfl rfl rfl ?_
  refine Wk.callV (pc' := 108) (argsL := []) (st := []) at_105 (wd23 hw) (wd24 hw) (Wk.nfSel (wd26 hw)) (wd26 hw) (wd25 hw) (wd3 hw) (wd27 hw) (by decide) (lenOf pd_4 rfl) (fun _ P => P.exa rfl) (m_add0 l Z a0 hw hB no cl sN A hz) rfl (Nat.le_of_ble_eq_true rfl) (Nat.le_of_ble_eq_true rfl) (Nat.le_of_ble_eq_true rfl) (Nat.le_of_ble_eq_true rfl) rfl rfl ?_
  rintro _ _ ⟨rfl, hH⟩; obtain rfl := hH.symm
  show WP l Z hB _ _ _ _ _ _ _ _ [obj "com/example/dissect/dissect/ReachedRanges" ksRR [(rf hB 3), (.int (1 : Int32)), (rf hB 4), (rf hB 5), (.int (1 : Int32)), (rf hB 1), (rf hB 2)], ints [0, 0, 0, 0, 0, 0, 0, 0], ints [0, 0, 0, 0, 0, 0, 0, 0], ints [0, 0, 0, 0, 0, 0, 0, 0, 0, 0, 0, 0, 0, 0, 0, 0], ints [0, 0, 0, 0, 0, 0, 0, 0, 0, 0, 0, 0, 0, 0, 0, 0], ints [0, 0, 0, 0, 0, 0, 0, 0, 0, 0, 0, 0, 0, 0, 0, 0]] _ _ []
  refine Wk.aload (pc' := 110) at_108 rfl rfl rfl ?_
  refine Wk.callV (pc' := 113) (argsL := []) (st := []) at_110 (wd23 hw) (wd24 hw) (Wk.nfSel (wd26 hw)) (wd26 hw) (wd25 hw) (wd3 hw) (wd27 hw) (by decide) (lenOf pd_4 rfl) (fun _ P => P.exa rfl) (m_add l Z a0 hw hB (1 : Int32) (1 : Int32) [0, 0, 0, 0, 0, 0, 0, 0] [0, 0, 0, 0, 0, 0, 0, 0] [0, 0, 0, 0, 0, 0, 0, 0, 0, 0, 0, 0, 0, 0, 0, 0] [0, 0, 0, 0, 0, 0, 0, 0, 0, 0, 0, 0, 0, 0, 0, 0] [0, 0, 0, 0, 0, 0, 0, 0, 0, 0, 0, 0, 0, 0, 0, 0] ([0, 1, 0, 0, 0, 0, 0, 0, 0, 0, 0, 0, 0, 0, 0, 0], [0, 1, 0, 0, 0, 0, 0, 0, 0, 0, 0, 0, 0, 0, 0, 0], [0, 1, 0, 0, 0, 0, 0, 0, 0, 0, 0, 0, 0, 0, 0, 0], (2 : Int32), (2 : Int32)) (by decide +kernel)) rfl (Nat.le_of_ble_eq_true rfl) (Nat.le_of_ble_eq_true rfl) (Nat.le_of_ble_eq_true rfl) (Nat.le_of_ble_eq_true rfl) rfl rfl ?_
  rintro _ _ ⟨rfl, hH⟩; obtain rfl := hH.symm
  show WP l Z hB _ _ _ _ _ _ _ _ [obj "com/example/dissect/dissect/ReachedRanges" ksRR [(rf hB 3), (.int (2 : Int32)), (rf hB 4), (rf hB 5), (.int (2 : Int32)), (rf hB 1), (rf hB 2)], ints [0, 0, 0, 0, 0, 0, 0, 0], ints [0, 0, 0, 0, 0, 0, 0, 0], ints [0, 1, 0, 0, 0, 0, 0, 0, 0, 0, 0, 0, 0, 0, 0, 0], ints [0, 1, 0, 0, 0, 0, 0, 0, 0, 0, 0, 0, 0, 0, 0, 0], ints [0, 1, 0, 0, 0, 0, 0, 0, 0, 0, 0, 0, 0, 0, 0, 0]] _ _ []
  refine Wk.aload (pc' := 115) at_113 rfl rfl rfl ?_
  refine Wk.callV (pc' := 118) (argsL := []) (st := []) at_115 (wd23 hw) (wd24 hw) (Wk.nfSel (wd26 hw)) (wd26 hw) (wd25 hw) (wd3 hw) (wd27 hw) (by decide) (lenOf pd_4 rfl) (fun _ P => P.exa rfl) (m_add l Z a0 hw hB (2 : Int32) (2 : Int32) [0, 0, 0, 0, 0, 0, 0, 0] [0, 0, 0, 0, 0, 0, 0, 0] [0, 1, 0, 0, 0, 0, 0, 0, 0, 0, 0, 0, 0, 0, 0, 0] [0, 1, 0, 0, 0, 0, 0, 0, 0, 0, 0, 0, 0, 0, 0, 0] [0, 1, 0, 0, 0, 0, 0, 0, 0, 0, 0, 0, 0, 0, 0, 0] ([0, 1, 2, 0, 0, 0, 0, 0, 0, 0, 0, 0, 0, 0, 0, 0], [0, 1, 2, 0, 0, 0, 0, 0, 0, 0, 0, 0, 0, 0, 0, 0], [0, 1, 2, 0, 0, 0, 0, 0, 0, 0, 0, 0, 0, 0, 0, 0], (3 : Int32), (3 : Int32)) (by decide +kernel)) rfl (Nat.le_of_ble_eq_true rfl) (Nat.le_of_ble_eq_true rfl) (Nat.le_of_ble_eq_true rfl) (Nat.le_of_ble_eq_true rfl) rfl rfl ?_
  rintro _ _ ⟨rfl, hH⟩; obtain rfl := hH.symm
  show WP l Z hB _ _ _ _ _ _ _ _ [obj "com/example/dissect/dissect/ReachedRanges" ksRR [(rf hB 3), (.int (3 : Int32)), (rf hB 4), (rf hB 5), (.int (3 : Int32)), (rf hB 1), (rf hB 2)], ints [0, 0, 0, 0, 0, 0, 0, 0], ints [0, 0, 0, 0, 0, 0, 0, 0], ints [0, 1, 2, 0, 0, 0, 0, 0, 0, 0, 0, 0, 0, 0, 0, 0], ints [0, 1, 2, 0, 0, 0, 0, 0, 0, 0, 0, 0, 0, 0, 0, 0], ints [0, 1, 2, 0, 0, 0, 0, 0, 0, 0, 0, 0, 0, 0, 0, 0]] _ _ []
  refine Wk.iloadN (pc' := 119) at_118 rfl rfl ?_
  refine Wk.ifY (pc' := 128) at_119 (XT.i0_eq_t rfl) (by decide) (by decide) ?_
  refine Wk.aload (pc' := 130) at_128 rfl rfl rfl ?_
  refine Wk.callV (pc' := 133) (argsL := []) (st := []) at_130 (wd23 hw) (wd24 hw) (Wk.nfSel (wd26 hw)) (wd26 hw) (wd25 hw) (wd3 hw) (wd27 hw) (by decide) (lenOf pd_4 rfl) (fun _ P => P.exa rfl) (m_add l Z a0 hw hB (3 : Int32) (3 : Int32) [0, 0, 0, 0, 0, 0, 0, 0] [0, 0, 0, 0, 0, 0, 0, 0] [0, 1, 2, 0, 0, 0, 0, 0, 0, 0, 0, 0, 0, 0, 0, 0] [0, 1, 2, 0, 0, 0, 0, 0, 0, 0, 0, 0, 0, 0, 0, 0] [0, 1, 2, 0, 0, 0, 0, 0, 0, 0, 0, 0, 0, 0, 0, 0] ([0, 1, 2, 3, 0, 0, 0, 0, 0, 0, 0, 0, 0, 0, 0, 0], [0, 1, 2, 3, 0, 0, 0, 0, 0, 0, 0, 0, 0, 0, 0, 0], [0, 1, 2, 3, 0, 0, 0, 0, 0, 0, 0, 0, 0, 0, 0, 0], (4 : Int32), (4 : Int32)) (by decide +kernel)) rfl (Nat.le_of_ble_eq_true rfl) (Nat.le_of_ble_eq_true rfl) (Nat.le_of_ble_eq_true rfl) (Nat.le_of_ble_eq_true rfl) rfl rfl ?_
  rintro _ _ ⟨rfl, hH⟩; obtain rfl := hH.symm
  show WP l Z hB _ _ _ _ _ _ _ _ [obj "com/example/dissect/dissect/ReachedRanges" ksRR [(rf hB 3), (.int (4 : Int32)), (rf hB 4), (rf hB 5), (.int (4 : Int32)), (rf hB 1), (rf hB 2)], ints [0, 0, 0, 0, 0, 0, 0, 0], ints [0, 0, 0, 0, 0, 0, 0, 0], ints [0, 1, 2, 3, 0, 0, 0, 0, 0, 0, 0, 0, 0, 0, 0, 0], ints [0, 1, 2, 3, 0, 0, 0, 0, 0, 0, 0, 0, 0, 0, 0, 0], ints [0, 1, 2, 3, 0, 0, 0, 0, 0, 0, 0, 0, 0, 0, 0, 0]] _ _ []
  refine Wk.iload (pc' := 135) at_133 rfl rfl ?_
  refine Wk.ifY (pc' := 144) at_135 (XT.i0_eq_t rfl) (by decide) (by decide) ?_
  refine Wk.aload (pc' := 146) at_144 rfl rfl rfl ?_
  refine Wk.callV (pc' := 149) (argsL := []) (st := []) at_146 (wd23 hw) (wd24 hw) (Wk.nfSel (wd26 hw)) (wd26 hw) (wd25 hw) (wd3 hw) (wd27 hw) (by decide) (lenOf pd_4 rfl) (fun _ P => P.exa rfl) (m_add l Z a0 hw hB (4 : Int32) (4 : Int32) [0, 0, 0, 0, 0, 0, 0, 0] [0, 0, 0, 0, 0, 0, 0, 0] [0, 1, 2, 3, 0, 0, 0, 0, 0, 0, 0, 0, 0, 0, 0, 0] [0, 1, 2, 3, 0, 0, 0, 0, 0, 0, 0, 0, 0, 0, 0, 0] [0, 1, 2, 3, 0, 0, 0, 0, 0, 0, 0, 0, 0, 0, 0, 0] ([0, 1, 2, 3, 4, 0, 0, 0, 0, 0, 0, 0, 0, 0, 0, 0], [0, 1, 2, 3, 4, 0, 0, 0, 0, 0, 0, 0, 0, 0, 0, 0], [0, 1, 2, 3, 4, 0, 0, 0, 0, 0, 0, 0, 0, 0, 0, 0], (5 : Int32), (5 : Int32)) (by decide +kernel)) rfl (Nat.le_of_ble_eq_true rfl) (Nat.le_of_ble_eq_true rfl) (Nat.le_of_ble_eq_true rfl) (Nat.le_of_ble_eq_true rfl) rfl rfl ?_
  rintro _ _ ⟨rfl, hH⟩; obtain rfl := hH.symm
  show WP l Z hB _ _ _ _ _ _ _ _ [obj "com/example/dissect/dissect/ReachedRanges" ksRR [(rf hB 3), (.int (5 : Int32)), (rf hB 4), (rf hB 5), (.int (5 : Int32)), (rf hB 1), (rf hB 2)], ints [0, 0, 0, 0, 0, 0, 0, 0], ints [0, 0, 0, 0, 0, 0, 0, 0], ints [0, 1, 2, 3, 4, 0, 0, 0, 0, 0, 0, 0, 0, 0, 0, 0], ints [0, 1, 2, 3, 4, 0, 0, 0, 0, 0, 0, 0, 0, 0, 0, 0], ints [0, 1, 2, 3, 4, 0, 0, 0, 0, 0, 0, 0, 0, 0, 0, 0]] _ _ []
  refine Wk.iload (pc' := 151) at_149 rfl rfl ?_
  refine Wk.ifY (pc' := 160) at_151 (XT.i0_eq_t rfl) (by decide) (by decide) ?_
  refine Wk.iload (pc' := 162) at_160 rfl rfl ?_
  refine Wk.ifN (pc' := 165) at_162 (XT.i0_eq_f (by decide)) rfl ?_
  refine Wk.aload (pc' := 167) at_165 rfl rfl rfl ?_
  refine Wk.iconst (pc' := 168) (2 : Int32) at_167 (by decide) rfl ?_
  refine Wk.callV (pc' := 171) (argsL := [(.int (2 : Int32))]) (st := []) at_168 (wd56 hw) (wd57 hw) (Wk.nfSel (wd59 hw)) (wd59 hw) (wd58 hw) (wd3 hw) (wd60 hw) (by decide) (lenOf pd_5 rfl) (fun _ P => P.exa rfl) (m_reach l Z a0 hw hB (5 : Int32) (5 : Int32) [0, 0, 0, 0, 0, 0, 0, 0] [0, 0, 0, 0, 0, 0, 0, 0] [0, 1, 2, 3, 4, 0, 0, 0, 0, 0, 0, 0, 0, 0, 0, 0] [0, 1, 2, 3, 4, 0, 0, 0, 0, 0, 0, 0, 0, 0, 0, 0] [0, 1, 2, 3, 4, 0, 0, 0, 0, 0, 0, 0, 0, 0, 0, 0] (2 : Int32) ((6 : Int32), [2, 4, 0, 0, 0, 0, 0, 0], [2, 4, 0, 0, 0, 0, 0, 0], [0, 1, 2, 3, 2, 4, 0, 0, 0, 0, 0, 0, 0, 0, 0, 0], [0, 1, 2, 3, 2, 4, 0, 0, 0, 0, 0, 0, 0, 0, 0, 0]) (by decide +kernel)) rfl (Nat.le_of_ble_eq_true rfl) (Nat.le_of_ble_eq_true rfl) (Nat.le_of_ble_eq_true rfl) (Nat.le_of_ble_eq_true rfl) rfl rfl ?_
  rintro _ _ ⟨rfl, hH⟩; obtain rfl := hH.symm
  show WP l Z hB _ _ _ _ _ _ _ _ [obj "com/example/dissect/dissect/ReachedRanges" ksRR [(rf hB 3), (.int (5 : Int32)), (rf hB 4), (rf hB 5), (.int (6 : Int32)), (rf hB 1), (rf hB 2)], ints [2, 4, 0, 0, 0, 0, 0, 0], ints [2, 4, 0, 0, 0, 0, 0, 0], ints [0, 1, 2, 3, 4, 0, 0, 0, 0, 0, 0, 0, 0, 0, 0, 0], ints [0, 1, 2, 3, 2, 4, 0, 0, 0, 0, 0, 0, 0, 0, 0, 0], ints [0, 1, 2, 3, 2, 4, 0, 0, 0, 0, 0, 0, 0, 0, 0, 0]] _ _ []
  exact m_B l Z a0 hw hB x0 x1 x2 (0 : Int32) (0 : Int32) (0 : Int32) (1 : Int32) wd f t [obj "com/example/dissect/dissect/ReachedRanges" ksRR [(rf hB 3), (.int (5 : Int32)), (rf hB 4), (rf hB 5), (.int (6 : Int32)), (rf hB 1), (rf hB 2)], ints [2, 4, 0, 0, 0, 0, 0, 0], ints [2, 4, 0, 0, 0, 0, 0, 0], ints [0, 1, 2, 3, 4, 0, 0, 0, 0, 0, 0, 0, 0, 0, 0, 0], ints [0, 1, 2, 3, 2, 4, 0, 0, 0, 0, 0, 0, 0, 0, 0, 0], ints [0, 1, 2, 3, 2, 4, 0, 0, 0, 0, 0, 0, 0, 0, 0, 0]] _ rfl (Nat.le_of_ble_eq_true rfl) _ (Nat.le_of_ble_eq_true rfl) (by have h := m_may l Z a0 hw hB (5 : Int32) (6 : Int32) [2, 4, 0, 0, 0, 0, 0, 0] [2, 4, 0, 0, 0, 0, 0, 0] [0, 1, 2, 3, 4, 0, 0, 0, 0, 0, 0, 0, 0, 0, 0, 0] [0, 1, 2, 3, 2, 4, 0, 0, 0, 0, 0, 0, 0, 0, 0, 0] [0, 1, 2, 3, 2, 4, 0, 0, 0, 0, 0, 0, 0, 0, 0, 0] f t _ (ok_0001 f t hf0 hf4); rw [expB_nar] at h; exact h)
set_option maxRecDepth 65536 in
set_option maxHeartbeats 40000000 in
theorem m_94_0010 (l : Launch) (Z : State) (a0 : Array Value) (hw : ∀ d ∈ tables_1, d.before a0 Z = true) (hB : Heap) (x0 x1 x2 wd f t : Int32) (no : Addr) (cl : Cell) (sN : Sta Z hB "com/example/dissect/dissect/ReachedRanges" "NO_INTS" "[I" (.ref no)) (A : Arr Z hB no cl .int) (hz : cl.slots.size = 0) (hf0 : 0 ≤ f.toInt) (hf4 : f.toInt ≤ 4) : WP l Z hB x code maxLocals ret room_1 0 (fun v _ => v = some (.int 1)) 0 [] 94 #[.val (.int x0), .val (.int x1), .val (.int x2), .val (.int (0 : Int32)), .val (.int (0 : Int32)), .val (.int (1 : Int32)), .val (.int (0 : Int32)), .val (.int wd), .val (.int f), .val (.int t), .unset, .unset, .unset, .unset, .unset, .unset] [] := by
  refine Wk.newObj (pc' := 97) (i := 0) (H' := [obj "com/example/dissect/dissect/ReachedRanges" ksRR [.null, (.int (0 : Int32)), .null, .null, (.int (0 : Int32)), .null, .null]]) at_94 (wd1 hw) (wd2 hw) (wd3 hw) (ksRR_laid hw) (ksRR_dist hw) (Nat.le_of_ble_eq_true rfl) (Nat.le_of_ble_eq_true rfl) rfl rfl rfl ?_
  refine Wk.dup (pc' := 98) at_97 rfl rfl ?_
  refine Wk.callI (pc' := 101) (argsL := []) (st := [(rf hB 0)]) at_98 rfl (wd4 hw) (wd5 hw) (wd3 hw) (wd6 hw) (by decide) (lenOf pd_4 rfl) (m_init l Z a0 hw hB no cl sN A hz) rfl (Nat.le_of_ble_eq_true rfl) (Nat.le_of_ble_eq_true rfl) (Nat.le_of_ble_eq_true rfl) (Nat.le_of_ble_eq_true rfl) rfl rfl ?_
  rintro _ _ ⟨rfl, hH⟩; obtain rfl := hH.symm
  show WP l Z hB _ _ _ _ _ _ _ _ [obj "com/example/dissect/dissect/ReachedRanges" ksRR [(.ref no), (.int (0 : Int32)), (.ref no), (.ref no), (.int (0 : Int32)), (rf hB 1), (rf hB 2)], ints [0, 0, 0, 0, 0, 0, 0, 0], ints [0, 0, 0, 0, 0, 0, 0, 0]] _ _ [(rf hB 0)]
  refine Wk.astore (pc' := 103) (Ls' := #[.val (.int x0), .val (.int x1), .val (.int x2), .val (.int (0 : Int32)), .val (.int (0 : Int32)), .val (.int (1 : Int32)), .val (.int (0 : Int32)), .val (.int wd), .val (.int f), .val (.int t), .val (rf hB 0), .unset, .unset, .unset, .unset, .unset]) at_101 rfl rfl rfl ?_
  refine Wk.aload (pc' := 105) at_103 rfl rfl rfl ?_
  refine Wk.callV (pc' := 108) (argsL := []) (st := []) at_105 (wd23 hw) (wd24 hw) (Wk.nfSel (wd26 hw)) (wd26 hw) (wd25 hw) (wd3 hw) (wd27 hw) (by decide) (lenOf pd_4 rfl) (fun _ P => P.exa rfl) (m_add0 l Z a0 hw hB no cl sN A hz) rfl (Nat.le_of_ble_eq_true rfl) (Nat.le_of_ble_eq_true rfl) (Nat.le_of_ble_eq_true rfl) (Nat.le_of_ble_eq_true rfl) rfl rfl ?_
  rintro _ _ ⟨rfl, hH⟩; obtain rfl := hH.symm
  show WP l Z hB _ _ _ _ _ _ _ _ [obj "com/example/dissect/dissect/ReachedRanges" ksRR [(rf hB 3), (.int (1 : Int32)), (rf hB 4), (rf hB 5), (.int (1 : Int32)), (rf hB 1), (rf hB 2)], ints [0, 0, 0, 0, 0, 0, 0, 0], ints [0, 0, 0, 0, 0, 0, 0, 0], ints [0, 0, 0, 0, 0, 0, 0, 0, 0, 0, 0, 0, 0, 0, 0, 0], ints [0, 0, 0, 0, 0, 0, 0, 0, 0, 0, 0, 0, 0, 0, 0, 0], ints [0, 0, 0, 0, 0, 0, 0, 0, 0, 0, 0, 0, 0, 0, 0, 0]] _ _ []
  refine Wk.aload (pc' := 110) at_108 rfl rfl rfl ?_
  refine Wk.callV (pc' := 113) (argsL := []) (st := []) at_110 (wd23 hw) (wd24 hw) (Wk.nfSel (wd26 hw)) (wd26 hw) (wd25 hw) (wd3 hw) (wd27 hw) (by decide) (lenOf pd_4 rfl) (fun _ P => P.exa rfl) (m_add l Z a0 hw hB (1 : Int32) (1 : Int32) [0, 0, 0, 0, 0, 0, 0, 0] [0, 0, 0, 0, 0, 0, 0, 0] [0, 0, 0, 0, 0, 0, 0, 0, 0, 0, 0, 0, 0, 0, 0, 0] [0, 0, 0, 0, 0, 0, 0, 0, 0, 0, 0, 0, 0, 0, 0, 0] [0, 0, 0, 0, 0, 0, 0, 0, 0, 0, 0, 0, 0, 0, 0, 0] ([0, 1, 0, 0, 0, 0, 0, 0, 0, 0, 0, 0, 0, 0, 0, 0], [0, 1, 0, 0, 0, 0, 0, 0, 0, 0, 0, 0, 0, 0, 0, 0], [0, 1, 0, 0, 0, 0, 0, 0, 0, 0, 0, 0, 0, 0, 0, 0], (2 : Int32), (2 : Int32)) (by decide +kernel)) rfl (Nat.le_of_ble_eq_true rfl) (Nat.le_of_ble_eq_true rfl) (Nat.le_of_ble_eq_true rfl) (Nat.le_of_ble_eq_true rfl) rfl rfl ?_
  rintro _ _ ⟨rfl, hH⟩; obtain rfl := hH.symm
  show WP l Z hB _ _ _ _ _ _ _ _ [obj "com/example/dissect/dissect/ReachedRanges" ksRR [(rf hB 3), (.int (2 : Int32)), (rf hB 4), (rf hB 5), (.int (2 : Int32)), (rf hB 1), (rf hB 2)], ints [0, 0, 0, 0, 0, 0, 0, 0], ints [0, 0, 0, 0, 0, 0, 0, 0], ints [0, 1, 0, 0, 0, 0, 0, 0, 0, 0, 0, 0, 0, 0, 0, 0], ints [0, 1, 0, 0, 0, 0, 0, 0, 0, 0, 0, 0, 0, 0, 0, 0], ints [0, 1, 0, 0, 0, 0, 0, 0, 0, 0, 0, 0, 0, 0, 0, 0]] _ _ []
  refine Wk.aload (pc' := 115) at_113 rfl rfl rfl ?_
  refine Wk.callV (pc' := 118) (argsL := []) (st := []) at_115 (wd23 hw) (wd24 hw) (Wk.nfSel (wd26 hw)) (wd26 hw) (wd25 hw) (wd3 hw) (wd27 hw) (by decide) (lenOf pd_4 rfl) (fun _ P => P.exa rfl) (m_add l Z a0 hw hB (2 : Int32) (2 : Int32) [0, 0, 0, 0, 0, 0, 0, 0] [0, 0, 0, 0, 0, 0, 0, 0] [0, 1, 0, 0, 0, 0, 0, 0, 0, 0, 0, 0, 0, 0, 0, 0] [0, 1, 0, 0, 0, 0, 0, 0, 0, 0, 0, 0, 0, 0, 0, 0] [0, 1, 0, 0, 0, 0, 0, 0, 0, 0, 0, 0, 0, 0, 0, 0] ([0, 1, 2, 0, 0, 0, 0, 0, 0, 0, 0, 0, 0, 0, 0, 0], [0, 1, 2, 0, 0, 0, 0, 0, 0, 0, 0, 0, 0, 0, 0, 0], [0, 1, 2, 0, 0, 0, 0, 0, 0, 0, 0, 0, 0, 0, 0, 0], (3 : Int32), (3 : Int32)) (by decide +kernel)) rfl (Nat.le_of_ble_eq_true rfl) (Nat.le_of_ble_eq_true rfl) (Nat.le_of_ble_eq_true rfl) (Nat.le_of_ble_eq_true rfl) rfl rfl ?_
  rintro _ _ ⟨rfl, hH⟩; obtain rfl := hH.symm
  show WP l Z hB _ _ _ _ _ _ _ _ [obj "com/example/dissect/dissect/ReachedRanges" ksRR [(rf hB 3), (.int (3 : Int32)), (rf hB 4), (rf hB 5), (.int (3 : Int32)), (rf hB 1), (rf hB 2)], ints [0, 0, 0, 0, 0, 0, 0, 0], ints [0, 0, 0, 0, 0, 0, 0, 0], ints [0, 1, 2, 0, 0, 0, 0, 0, 0, 0, 0, 0, 0, 0, 0, 0], ints [0, 1, 2, 0, 0, 0, 0, 0, 0, 0, 0, 0, 0, 0, 0, 0], ints [0, 1, 2, 0, 0, 0, 0, 0, 0, 0, 0, 0, 0, 0, 0, 0]] _ _ []
  refine Wk.iloadN (pc' := 119) at_118 rfl rfl ?_
  refine Wk.ifY (pc' := 128) at_119 (XT.i0_eq_t rfl) (by decide) (by decide) ?_
  refine Wk.aload (pc' := 130) at_128 rfl rfl rfl ?_
  refine Wk.callV (pc' := 133) (argsL := []) (st := []) at_130 (wd23 hw) (wd24 hw) (Wk.nfSel (wd26 hw)) (wd26 hw) (wd25 hw) (wd3 hw) (wd27 hw) (by decide) (lenOf pd_4 rfl) (fun _ P => P.exa rfl) (m_add l Z a0 hw hB (3 : Int32) (3 : Int32) [0, 0, 0, 0, 0, 0, 0, 0] [0, 0, 0, 0, 0, 0, 0, 0] [0, 1, 2, 0, 0, 0, 0, 0, 0, 0, 0, 0, 0, 0, 0, 0] [0, 1, 2, 0, 0, 0, 0, 0, 0, 0, 0, 0, 0, 0, 0, 0] [0, 1, 2, 0, 0, 0, 0, 0, 0, 0, 0, 0, 0, 0, 0, 0] ([0, 1, 2, 3, 0, 0, 0, 0, 0, 0, 0, 0, 0, 0, 0, 0], [0, 1, 2, 3, 0, 0, 0, 0, 0, 0, 0, 0, 0, 0, 0, 0], [0, 1, 2, 3, 0, 0, 0, 0, 0, 0, 0, 0, 0, 0, 0, 0], (4 : Int32), (4 : Int32)) (by decide +kernel)) rfl (Nat.le_of_ble_eq_true rfl) (Nat.le_of_ble_eq_true rfl) (Nat.le_of_ble_eq_true rfl) (Nat.le_of_ble_eq_true rfl) rfl rfl ?_
  rintro _ _ ⟨rfl, hH⟩; obtain rfl := hH.symm
  show WP l Z hB _ _ _ _ _ _ _ _ [obj "com/example/dissect/dissect/ReachedRanges" ksRR [(rf hB 3), (.int (4 : Int32)), (rf hB 4), (rf hB 5), (.int (4 : Int32)), (rf hB 1), (rf hB 2)], ints [0, 0, 0, 0, 0, 0, 0, 0], ints [0, 0, 0, 0, 0, 0, 0, 0], ints [0, 1, 2, 3, 0, 0, 0, 0, 0, 0, 0, 0, 0, 0, 0, 0], ints [0, 1, 2, 3, 0, 0, 0, 0, 0, 0, 0, 0, 0, 0, 0, 0], ints [0, 1, 2, 3, 0, 0, 0, 0, 0, 0, 0, 0, 0, 0, 0, 0]] _ _ []
  refine Wk.iload (pc' := 135) at_133 rfl rfl ?_
  refine Wk.ifY (pc' := 144) at_135 (XT.i0_eq_t rfl) (by decide) (by decide) ?_
  refine Wk.aload (pc' := 146) at_144 rfl rfl rfl ?_
  refine Wk.callV (pc' := 149) (argsL := []) (st := []) at_146 (wd23 hw) (wd24 hw) (Wk.nfSel (wd26 hw)) (wd26 hw) (wd25 hw) (wd3 hw) (wd27 hw) (by decide) (lenOf pd_4 rfl) (fun _ P => P.exa rfl) (m_add l Z a0 hw hB (4 : Int32) (4 : Int32) [0, 0, 0, 0, 0, 0, 0, 0] [0, 0, 0, 0, 0, 0, 0, 0] [0, 1, 2, 3, 0, 0, 0, 0, 0, 0, 0, 0, 0, 0, 0, 0] [0, 1, 2, 3, 0, 0, 0, 0, 0, 0, 0, 0, 0, 0, 0, 0] [0, 1, 2, 3, 0, 0, 0, 0, 0, 0, 0, 0, 0, 0, 0, 0] ([0, 1, 2, 3, 4, 0, 0, 0, 0, 0, 0, 0, 0, 0, 0, 0], [0, 1, 2, 3, 4, 0, 0, 0, 0, 0, 0, 0, 0, 0, 0, 0], [0, 1, 2, 3, 4, 0, 0, 0, 0, 0, 0, 0, 0, 0, 0, 0], (5 : Int32), (5 : Int32)) (by decide +kernel)) rfl (Nat.le_of_ble_eq_true rfl) (Nat.le_of_ble_eq_true rfl) (Nat.le_of_ble_eq_true rfl) (Nat.le_of_ble_eq_true rfl) rfl rfl ?_
  rintro _ _ ⟨rfl, hH⟩; obtain rfl := hH.symm
  show WP l Z hB _ _ _ _ _ _ _ _ [obj "com/example/dissect/dissect/ReachedRanges" ksRR [(rf hB 3), (.int (5 : Int32)), (rf hB 4), (rf hB 5), (.int (5 : Int32)), (rf hB 1), (rf hB 2)], ints [0, 0, 0, 0, 0, 0, 0, 0], ints [0, 0, 0, 0, 0, 0, 0, 0], ints [0, 1, 2, 3, 4, 0, 0, 0, 0, 0, 0, 0, 0, 0, 0, 0], ints [0, 1, 2, 3, 4, 0, 0, 0, 0, 0, 0, 0, 0, 0, 0, 0], ints [0, 1, 2, 3, 4, 0, 0, 0, 0, 0, 0, 0, 0, 0, 0, 0]] _ _ []
  refine Wk.iload (pc' := 151) at_149 rfl rfl ?_
  refine Wk.ifN (pc' := 154) at_151 (XT.i0_eq_f (by decide)) rfl ?_
  refine Wk.aload (pc' := 156) at_154 rfl rfl rfl ?_
  refine Wk.iconst (pc' := 157) (3 : Int32) at_156 (by decide) rfl ?_
  refine Wk.callV (pc' := 160) (argsL := [(.int (3 : Int32))]) (st := []) at_157 (wd56 hw) (wd57 hw) (Wk.nfSel (wd59 hw)) (wd59 hw) (wd58 hw) (wd3 hw) (wd60 hw) (by decide) (lenOf pd_5 rfl) (fun _ P => P.exa rfl) (m_reach l Z a0 hw hB (5 : Int32) (5 : Int32) [0, 0, 0, 0, 0, 0, 0, 0] [0, 0, 0, 0, 0, 0, 0, 0] [0, 1, 2, 3, 4, 0, 0, 0, 0, 0, 0, 0, 0, 0, 0, 0] [0, 1, 2, 3, 4, 0, 0, 0, 0, 0, 0, 0, 0, 0, 0, 0] [0, 1, 2, 3, 4, 0, 0, 0, 0, 0, 0, 0, 0, 0, 0, 0] (3 : Int32) ((5 : Int32), [3, 0, 0, 0, 0, 0, 0, 0], [4, 0, 0, 0, 0, 0, 0, 0], [0, 1, 2, 3, 3, 0, 0, 0, 0, 0, 0, 0, 0, 0, 0, 0], [0, 1, 2, 3, 4, 0, 0, 0, 0, 0, 0, 0, 0, 0, 0, 0]) (by decide +kernel)) rfl (Nat.le_of_ble_eq_true rfl) (Nat.le_of_ble_eq_true rfl) (Nat.le_of_ble_eq_true rfl) (Nat.le_of_ble_eq_true rfl) rfl rfl ?_
  rintro _ _ ⟨rfl, hH⟩; obtain rfl := hH.symm
  show WP l Z hB _ _ _ _ _ _ _ _ [obj "com/example/dissect/dissect/ReachedRanges" ksRR [(rf hB 3), (.int (5 : Int32)), (rf hB 4), (rf hB 5), (.int (5 : Int32)), (rf hB 1), (rf hB 2)], ints [3, 0, 0, 0, 0, 0, 0, 0], ints [4, 0, 0, 0, 0, 0, 0, 0], ints [0, 1, 2, 3, 4, 0, 0, 0, 0, 0, 0, 0, 0, 0, 0, 0], ints [0, 1, 2, 3, 3, 0, 0, 0, 0, 0, 0, 0, 0, 0, 0, 0], ints [0, 1, 2, 3, 4, 0, 0, 0, 0, 0, 0, 0, 0, 0, 0, 0]] _ _ []
  refine Wk.iload (pc' := 162) at_160 rfl rfl ?_
  refine Wk.ifY (pc' := 171) at_162 (XT.i0_eq_t rfl) (by decide) (by decide) ?_
  exact m_B l Z a0 hw hB x0 x1 x2 (0 : Int32) (0 : Int32) (1 : Int32) (0 : Int32) wd f t [obj "com/example/dissect/dissect/ReachedRanges" ksRR [(rf hB 3), (.int (5 : Int32)), (rf hB 4), (rf hB 5), (.int (5 : Int32)), (rf hB 1), (rf hB 2)], ints [3, 0, 0, 0, 0, 0, 0, 0], ints [4, 0, 0, 0, 0, 0, 0, 0], ints [0, 1, 2, 3, 4, 0, 0, 0, 0, 0, 0, 0, 0, 0, 0, 0], ints [0, 1, 2, 3, 3, 0, 0, 0, 0, 0, 0, 0, 0, 0, 0, 0], ints [0, 1, 2, 3, 4, 0, 0, 0, 0, 0, 0, 0, 0, 0, 0, 0]] _ rfl (Nat.le_of_ble_eq_true rfl) _ (Nat.le_of_ble_eq_true rfl) (by have h := m_may l Z a0 hw hB (5 : Int32) (5 : Int32) [3, 0, 0, 0, 0, 0, 0, 0] [4, 0, 0, 0, 0, 0, 0, 0] [0, 1, 2, 3, 4, 0, 0, 0, 0, 0, 0, 0, 0, 0, 0, 0] [0, 1, 2, 3, 3, 0, 0, 0, 0, 0, 0, 0, 0, 0, 0, 0] [0, 1, 2, 3, 4, 0, 0, 0, 0, 0, 0, 0, 0, 0, 0, 0] f t _ (ok_0010 f t hf0 hf4); rw [expB_nar] at h; exact h)
set_option maxRecDepth 65536 in
set_option maxHeartbeats 40000000 in
theorem m_94_0011 (l : Launch) (Z : State) (a0 : Array Value) (hw : ∀ d ∈ tables_1, d.before a0 Z = true) (hB : Heap) (x0 x1 x2 wd f t : Int32) (no : Addr) (cl : Cell) (sN : Sta Z hB "com/example/dissect/dissect/ReachedRanges" "NO_INTS" "[I" (.ref no)) (A : Arr Z hB no cl .int) (hz : cl.slots.size = 0) (hf0 : 0 ≤ f.toInt) (hf4 : f.toInt ≤ 4) : WP l Z hB x code maxLocals ret room_1 0 (fun v _ => v = some (.int 1)) 0 [] 94 #[.val (.int x0), .val (.int x1), .val (.int x2), .val (.int (0 : Int32)), .val (.int (0 : Int32)), .val (.int (1 : Int32)), .val (.int (1 : Int32)), .val (.int wd), .val (.int f), .val (.int t), .unset, .unset, .unset, .unset, .unset, .unset] [] := by
  refine Wk.newObj (pc' := 97) (i := 0) (H' := [obj "com/example/dissect/dissect/ReachedRanges" ksRR [.null, (.int (0 : Int32)), .null, .null, (.int (0 : Int32)), .null, .null]]) at_94 (wd1 hw) (wd2 hw) (wd3 hw) (ksRR_laid hw) (ksRR_dist hw) (Nat.le_of_ble_eq_true rfl) (Nat.le_of_ble_eq_true rfl) rfl rfl rfl ?_
  refine Wk.dup (pc' := 98) at_97 rfl rfl ?_
  refine Wk.callI (pc' := 101) (argsL := []) (st := [(rf hB 0)]) at_98 rfl (wd4 hw) (wd5 hw) (wd3 hw) (wd6 hw) (by decide) (lenOf pd_4 rfl) (m_init l Z a0 hw hB no cl sN A hz) rfl (Nat.le_of_ble_eq_true rfl) (Nat.le_of_ble_eq_true rfl) (Nat.le_of_ble_eq_true rfl) (Nat.le_of_ble_eq_true rfl) rfl rfl ?_
  rintro _ _ ⟨rfl, hH⟩; obtain rfl := hH.symm
  show WP l Z hB _ _ _ _ _ _ _ _ [obj "com/example/dissect/dissect/ReachedRanges" ksRR [(.ref no), (.int (0 : Int32)), (.ref no), (.ref no), (.int (0 : Int32)), (rf hB 1), (rf hB 2)], ints [0, 0, 0, 0, 0, 0, 0, 0], ints [0, 0, 0, 0, 0, 0, 0, 0]] _ _ [(rf hB 0)]
  refine Wk.astore (pc' := 103) (Ls' := #[.val (.int x0), .val (.int x1), .val (.int x2), .val (.int (0 : Int32)), .val (.int (0 : Int32)), .val (.int (1 : Int32)), .val (.int (1 : Int32)), .val (.int wd), .val (.int f), .val (.int t), .val (rf hB 0), .unset, .unset, .unset, .unset, .unset]) at_101 rfl rfl rfl ?_
  refine Wk.aload (pc' := 105) at_103 rfl rfl rfl ?_
  refine Wk.callV (pc' := 108) (argsL := []) (st := []) at_105 (wd23 hw) (wd24 hw) (Wk.nfSel (wd26 hw)) (wd26 hw) (wd25 hw) (wd3 hw) (wd27 hw) (by decide) (lenOf pd_4 rfl) (fun _ P => P.exa rfl) (m_add0 l Z a0 hw hB no cl sN A hz) rfl (Nat.le_of_ble_eq_true rfl) (Nat.le_of_ble_eq_true rfl) (Nat.le_of_ble_eq_true rfl) (Nat.le_of_ble_eq_true rfl) rfl rfl ?_
  rintro _ _ ⟨rfl, hH⟩; obtain rfl := hH.symm
  show WP l Z hB _ _ _ _ _ _ _ _ [obj "com/example/dissect/dissect/ReachedRanges" ksRR [(rf hB 3), (.int (1 : Int32)), (rf hB 4), (rf hB 5), (.int (1 : Int32)), (rf hB 1), (rf hB 2)], ints [0, 0, 0, 0, 0, 0, 0, 0], ints [0, 0, 0, 0, 0, 0, 0, 0], ints [0, 0, 0, 0, 0, 0, 0, 0, 0, 0, 0, 0, 0, 0, 0, 0], ints [0, 0, 0, 0, 0, 0, 0, 0, 0, 0, 0, 0, 0, 0, 0, 0], ints [0, 0, 0, 0, 0, 0, 0, 0, 0, 0, 0, 0, 0, 0, 0, 0]] _ _ []
  refine Wk.aload (pc' := 110) at_108 rfl rfl rfl ?_
  refine Wk.callV (pc' := 113) (argsL := []) (st := []) at_110 (wd23 hw) (wd24 hw) (Wk.nfSel (wd26 hw)) (wd26 hw) (wd25 hw) (wd3 hw) (wd27 hw) (by decide) (lenOf pd_4 rfl) (fun _ P => P.exa rfl) (m_add l Z a0 hw hB (1 : Int32) (1 : Int32) [0, 0, 0, 0, 0, 0, 0, 0] [0, 0, 0, 0, 0, 0, 0, 0] [0, 0, 0, 0, 0, 0, 0, 0, 0, 0, 0, 0, 0, 0, 0, 0] [0, 0, 0, 0, 0, 0, 0, 0, 0, 0, 0, 0, 0, 0, 0, 0] [0, 0, 0, 0, 0, 0, 0, 0, 0, 0, 0, 0, 0, 0, 0, 0] ([0, 1, 0, 0, 0, 0, 0, 0, 0, 0, 0, 0, 0, 0, 0, 0], [0, 1, 0, 0, 0, 0, 0, 0, 0, 0, 0, 0, 0, 0, 0, 0], [0, 1, 0, 0, 0, 0, 0, 0, 0, 0, 0, 0, 0, 0, 0, 0], (2 : Int32), (2 : Int32)) (by decide +kernel)) rfl (Nat.le_of_ble_eq_true rfl) (Nat.le_of_ble_eq_true rfl) (Nat.le_of_ble_eq_true rfl) (Nat.le_of_ble_eq_true rfl) rfl rfl ?_
  rintro _ _ ⟨rfl, hH⟩; obtain rfl := hH.symm
  show WP l Z hB _ _ _ _ _ _ _ _ [obj "com/example/dissect/dissect/ReachedRanges" ksRR [(rf hB 3), (.int (2 : Int32)), (rf hB 4), (rf hB 5), (.int (2 : Int32)), (rf hB 1), (rf hB 2)], ints [0, 0, 0, 0, 0, 0, 0, 0], ints [0, 0, 0, 0, 0, 0, 0, 0], ints [0, 1, 0, 0, 0, 0, 0, 0, 0, 0, 0, 0, 0, 0, 0, 0], ints [0, 1, 0, 0, 0, 0, 0, 0, 0, 0, 0, 0, 0, 0, 0, 0], ints [0, 1, 0, 0, 0, 0, 0, 0, 0, 0, 0, 0, 0, 0, 0, 0]] _ _ []
  refine Wk.aload (pc' := 115) at_113 rfl rfl rfl ?_
  refine Wk.callV (pc' := 118) (argsL := []) (st := []) at_115 (wd23 hw) (wd24 hw) (Wk.nfSel (wd26 hw)) (wd26 hw) (wd25 hw) (wd3 hw) (wd27 hw) (by decide) (lenOf pd_4 rfl) (fun _ P => P.exa rfl) (m_add l Z a0 hw hB (2 : Int32) (2 : Int32) [0, 0, 0, 0, 0, 0, 0, 0] [0, 0, 0, 0, 0, 0, 0, 0] [0, 1, 0, 0, 0, 0, 0, 0, 0, 0, 0, 0, 0, 0, 0, 0] [0, 1, 0, 0, 0, 0, 0, 0, 0, 0, 0, 0, 0, 0, 0, 0] [0, 1, 0, 0, 0, 0, 0, 0, 0, 0, 0, 0, 0, 0, 0, 0] ([0, 1, 2, 0, 0, 0, 0, 0, 0, 0, 0, 0, 0, 0, 0, 0], [0, 1, 2, 0, 0, 0, 0, 0, 0, 0, 0, 0, 0, 0, 0, 0], [0, 1, 2, 0, 0, 0, 0, 0, 0, 0, 0, 0, 0, 0, 0, 0], (3 : Int32), (3 : Int32)) (by decide +kernel)) rfl (Nat.le_of_ble_eq_true rfl) (Nat.le_of_ble_eq_true rfl) (Nat.le_of_ble_eq_true rfl) (Nat.le_of_ble_eq_true rfl) rfl rfl ?_
  rintro _ _ ⟨rfl, hH⟩; obtain rfl := hH.symm
  show WP l Z hB _ _ _ _ _ _ _ _ [obj "com/example/dissect/dissect/ReachedRanges" ksRR [(rf hB 3), (.int (3 : Int32)), (rf hB 4), (rf hB 5), (.int (3 : Int32)), (rf hB 1), (rf hB 2)], ints [0, 0, 0, 0, 0, 0, 0, 0], ints [0, 0, 0, 0, 0, 0, 0, 0], ints [0, 1, 2, 0, 0, 0, 0, 0, 0, 0, 0, 0, 0, 0, 0, 0], ints [0, 1, 2, 0, 0, 0, 0, 0, 0, 0, 0, 0, 0, 0, 0, 0], ints [0, 1, 2, 0, 0, 0, 0, 0, 0, 0, 0, 0, 0, 0, 0, 0]] _ _ []
  refine Wk.iloadN (pc' := 119) at_118 rfl rfl ?_
  refine Wk.ifY (pc' := 128) at_119 (XT.i0_eq_t rfl) (by decide) (by decide) ?_
  refine Wk.aload (pc' := 130) at_128 rfl rfl rfl ?_
  refine Wk.callV (pc' := 133) (argsL := []) (st := []) at_130 (wd23 hw) (wd24 hw) (Wk.nfSel (wd26 hw)) (wd26 hw) (wd25 hw) (wd3 hw) (wd27 hw) (by decide) (lenOf pd_4 rfl) (fun _ P => P.exa rfl) (m_add l Z a0 hw hB (3 : Int32) (3 : Int32) [0, 0, 0, 0, 0, 0, 0, 0] [0, 0, 0, 0, 0, 0, 0, 0] [0, 1, 2, 0, 0, 0, 0, 0, 0, 0, 0, 0, 0, 0, 0, 0] [0, 1, 2, 0, 0, 0, 0, 0, 0, 0, 0, 0, 0, 0, 0, 0] [0, 1, 2, 0, 0, 0, 0, 0, 0, 0, 0, 0, 0, 0, 0, 0] ([0, 1, 2, 3, 0, 0, 0, 0, 0, 0, 0, 0, 0, 0, 0, 0], [0, 1, 2, 3, 0, 0, 0, 0, 0, 0, 0, 0, 0, 0, 0, 0], [0, 1, 2, 3, 0, 0, 0, 0, 0, 0, 0, 0, 0, 0, 0, 0], (4 : Int32), (4 : Int32)) (by decide +kernel)) rfl (Nat.le_of_ble_eq_true rfl) (Nat.le_of_ble_eq_true rfl) (Nat.le_of_ble_eq_true rfl) (Nat.le_of_ble_eq_true rfl) rfl rfl ?_
  rintro _ _ ⟨rfl, hH⟩; obtain rfl := hH.symm
  show WP l Z hB _ _ _ _ _ _ _ _ [obj "com/example/dissect/dissect/ReachedRanges" ksRR [(rf hB 3), (.int (4 : Int32)), (rf hB 4), (rf hB 5), (.int (4 : Int32)), (rf hB 1), (rf hB 2)], ints [0, 0, 0, 0, 0, 0, 0, 0], ints [0, 0, 0, 0, 0, 0, 0, 0], ints [0, 1, 2, 3, 0, 0, 0, 0, 0, 0, 0, 0, 0, 0, 0, 0], ints [0, 1, 2, 3, 0, 0, 0, 0, 0, 0, 0, 0, 0, 0, 0, 0], ints [0, 1, 2, 3, 0, 0, 0, 0, 0, 0, 0, 0, 0, 0, 0, 0]] _ _ []
  refine Wk.iload (pc' := 135) at_133 rfl rfl ?_
  refine Wk.ifY (pc' := 144) at_135 (XT.i0_eq_t rfl) (by decide) (by decide) ?_
  refine Wk.aload (pc' := 146) at_144 rfl rfl rfl ?_
  refine Wk.callV (pc' := 149) (argsL := []) (st := []) at_146 (wd23 hw) (wd24 hw) (Wk.nfSel (wd26 hw)) (wd26 hw) (wd25 hw) (wd3 hw) (wd27 hw) (by decide) (lenOf pd_4 rfl) (fun _ P => P.exa rfl) (m_add l Z a0 hw hB (4 : Int32) (4 : Int32) [0, 0, 0, 0, 0, 0, 0, 0] [0, 0, 0, 0, 0, 0, 0, 0] [0, 1, 2, 3, 0, 0, 0, 0, 0, 0, 0, 0, 0, 0, 0, 0] [0, 1, 2, 3, 0, 0, 0, 0, 0, 0, 0, 0, 0, 0, 0, 0] [0, 1, 2, 3, 0, 0, 0, 0, 0, 0, 0, 0, 0, 0, 0, 0] ([0, 1, 2, 3, 4, 0, 0, 0, 0, 0, 0, 0, 0, 0, 0, 0], [0, 1, 2, 3, 4, 0, 0, 0, 0, 0, 0, 0, 0, 0, 0, 0], [0, 1, 2, 3, 4, 0, 0, 0, 0, 0, 0, 0, 0, 0, 0, 0], (5 : Int32), (5 : Int32)) (by decide +kernel)) rfl (Nat.le_of_ble_eq_true rfl) (Nat.le_of_ble_eq_true rfl) (Nat.le_of_ble_eq_true rfl) (Nat.le_of_ble_eq_true rfl) rfl rfl ?_
  rintro _ _ ⟨rfl, hH⟩; obtain rfl := hH.symm
  show WP l Z hB _ _ _ _ _ _ _ _ [obj "com/example/dissect/dissect/ReachedRanges" ksRR [(rf hB 3), (.int (5 : Int32)), (rf hB 4), (rf hB 5), (.int (5 : Int32)), (rf hB 1), (rf hB 2)], ints [0, 0, 0, 0, 0, 0, 0, 0], ints [0, 0, 0, 0, 0, 0, 0, 0], ints [0, 1, 2, 3, 4, 0, 0, 0, 0, 0, 0, 0, 0, 0, 0, 0], ints [0, 1, 2, 3, 4, 0, 0, 0, 0, 0, 0, 0, 0, 0, 0, 0], ints [0, 1, 2, 3, 4, 0, 0, 0, 0, 0, 0, 0, 0, 0, 0, 0]] _ _ []
  refine Wk.iload (pc' := 151) at_149 rfl rfl ?_
  refine Wk.ifN (pc' := 154) at_151 (XT.i0_eq_f (by decide)) rfl ?_
  refine Wk.aload (pc' := 156) at_154 rfl rfl rfl ?_
  refine Wk.iconst (pc' := 157) (3 : Int32) at_156 (by decide) rfl ?_
  refine Wk.callV (pc' := 160) (argsL := [(.int (3 : Int32))]) (st := []) at_157 (wd56 hw) (wd57 hw) (Wk.nfSel (wd59 hw)) (wd59 hw) (wd58 hw) (wd3 hw) (wd60 hw) (by decide) (lenOf pd_5 rfl) (fun _ P => P.exa rfl) (m_reach l Z a0 hw hB (5 : Int32) (5 : Int32) [0, 0, 0, 0, 0, 0, 0, 0] [0, 0, 0, 0, 0, 0, 0, 0] [0, 1, 2, 3, 4, 0, 0, 0, 0, 0, 0, 0, 0, 0, 0, 0] [0, 1, 2, 3, 4, 0, 0, 0, 0, 0, 0, 0, 0, 0, 0, 0] [0, 1, 2, 3, 4, 0, 0, 0, 0, 0, 0, 0, 0, 0, 0, 0] (3 : Int32) ((5 : Int32), [3, 0, 0, 0, 0, 0, 0, 0], [4, 0, 0, 0, 0, 0, 0, 0], [0, 1, 2, 3, 3, 0, 0, 0, 0, 0, 0, 0, 0, 0, 0, 0], [0, 1, 2, 3, 4, 0, 0, 0, 0, 0, 0, 0, 0, 0, 0, 0]) (by decide +kernel)) rfl (Nat.le_of_ble_eq_true rfl) (Nat.le_of_ble_eq_true rfl) (Nat.le_of_ble_eq_true rfl) (Nat.le_of_ble_eq_true rfl) rfl rfl ?_
  rintro _ _ ⟨rfl, hH⟩; obtain rfl := hH.symm
  show WP l Z hB _ _ _ _ _ _ _ _ [obj "com/example/dissect/dissect/ReachedRanges" ksRR [(rf hB 3), (.int (5 : Int32)), (rf hB 4), (rf hB 5), (.int (5 : Int32)), (rf hB 1), (rf hB 2)], ints [3, 0, 0, 0, 0, 0, 0, 0], ints [4, 0, 0, 0, 0, 0, 0, 0], ints [0, 1, 2, 3, 4, 0, 0, 0, 0, 0, 0, 0, 0, 0, 0, 0], ints [0, 1, 2, 3, 3, 0, 0, 0, 0, 0, 0, 0, 0, 0, 0, 0], ints [0, 1, 2, 3, 4, 0, 0, 0, 0, 0, 0, 0, 0, 0, 0, 0]] _ _ []
  refine Wk.iload (pc' := 162) at_160 rfl rfl ?_
  refine Wk.ifN (pc' := 165) at_162 (XT.i0_eq_f (by decide)) rfl ?_
  refine Wk.aload (pc' := 167) at_165 rfl rfl rfl ?_
  refine Wk.iconst (pc' := 168) (2 : Int32) at_167 (by decide) rfl ?_
  refine Wk.callV (pc' := 171) (argsL := [(.int (2 : Int32))]) (st := []) at_168 (wd56 hw) (wd57 hw) (Wk.nfSel (wd59 hw)) (wd59 hw) (wd58 hw) (wd3 hw) (wd60 hw) (by decide) (lenOf pd_5 rfl) (fun _ P => P.exa rfl) (m_reach l Z a0 hw hB (5 : Int32) (5 : Int32) [3, 0, 0, 0, 0, 0, 0, 0] [4, 0, 0, 0, 0, 0, 0, 0] [0, 1, 2, 3, 4, 0, 0, 0, 0, 0, 0, 0, 0, 0, 0, 0] [0, 1, 2, 3, 3, 0, 0, 0, 0, 0, 0, 0, 0, 0, 0, 0] [0, 1, 2, 3, 4, 0, 0, 0, 0, 0, 0, 0, 0, 0, 0, 0] (2 : Int32) ((5 : Int32), [2, 0, 0, 0, 0, 0, 0, 0], [4, 0, 0, 0, 0, 0, 0, 0], [0, 1, 2, 3, 2, 0, 0, 0, 0, 0, 0, 0, 0, 0, 0, 0], [0, 1, 2, 3, 4, 0, 0, 0, 0, 0, 0, 0, 0, 0, 0, 0]) (by decide +kernel)) rfl (Nat.le_of_ble_eq_true rfl) (Nat.le_of_ble_eq_true rfl) (Nat.le_of_ble_eq_true rfl) (Nat.le_of_ble_eq_true rfl) rfl rfl ?_
  rintro _ _ ⟨rfl, hH⟩; obtain rfl := hH.symm
  show WP l Z hB _ _ _ _ _ _ _ _ [obj "com/example/dissect/dissect/ReachedRanges" ksRR [(rf hB 3), (.int (5 : Int32)), (rf hB 4), (rf hB 5), (.int (5 : Int32)), (rf hB 1), (rf hB 2)], ints [2, 0, 0, 0, 0, 0, 0, 0], ints [4, 0, 0, 0, 0, 0, 0, 0], ints [0, 1, 2, 3, 4, 0, 0, 0, 0, 0, 0, 0, 0, 0, 0, 0], ints [0, 1, 2, 3, 2, 0, 0, 0, 0, 0, 0, 0, 0, 0, 0, 0], ints [0, 1, 2, 3, 4, 0, 0, 0, 0, 0, 0, 0, 0, 0, 0, 0]] _ _ []
  exact m_B l Z a0 hw hB x0 x1 x2 (0 : Int32) (0 : Int32) (1 : Int32) (1 : Int32) wd f t [obj "com/example/dissect/dissect/ReachedRanges" ksRR [(rf hB 3), (.int (5 : Int32)), (rf hB 4), (rf hB 5), (.int (5 : Int32)), (rf hB 1), (rf hB 2)], ints [2, 0, 0, 0, 0, 0, 0, 0], ints [4, 0, 0, 0, 0, 0, 0, 0], ints [0, 1, 2, 3, 4, 0, 0, 0, 0, 0, 0, 0, 0, 0, 0, 0], ints [0, 1, 2, 3, 2, 0, 0, 0, 0, 0, 0, 0, 0, 0, 0, 0], ints [0, 1, 2, 3, 4, 0, 0, 0, 0, 0, 0, 0, 0, 0, 0, 0]] _ rfl (Nat.le_of_ble_eq_true rfl) _ (Nat.le_of_ble_eq_true rfl) (by have h := m_may l Z a0 hw hB (5 : Int32) (5 : Int32) [2, 0, 0, 0, 0, 0, 0, 0] [4, 0, 0, 0, 0, 0, 0, 0] [0, 1, 2, 3, 4, 0, 0, 0, 0, 0, 0, 0, 0, 0, 0, 0] [0, 1, 2, 3, 2, 0, 0, 0, 0, 0, 0, 0, 0, 0, 0, 0] [0, 1, 2, 3, 4, 0, 0, 0, 0, 0, 0, 0, 0, 0, 0, 0] f t _ (ok_0011 f t hf0 hf4); rw [expB_nar] at h; exact h)
set_option maxRecDepth 65536 in
set_option maxHeartbeats 40000000 in
theorem m_94_0100 (l : Launch) (Z : State) (a0 : Array Value) (hw : ∀ d ∈ tables_1, d.before a0 Z = true) (hB : Heap) (x0 x1 x2 wd f t : Int32) (no : Addr) (cl : Cell) (sN : Sta Z hB "com/example/dissect/dissect/ReachedRanges" "NO_INTS" "[I" (.ref no)) (A : Arr Z hB no cl .int) (hz : cl.slots.size = 0) (hf0 : 0 ≤ f.toInt) (hf4 : f.toInt ≤ 4) : WP l Z hB x code maxLocals ret room_1 0 (fun v _ => v = some (.int 1)) 0 [] 94 #[.val (.int x0), .val (.int x1), .val (.int x2), .val (.int (0 : Int32)), .val (.int (1 : Int32)), .val (.int (0 : Int32)), .val (.int (0 : Int32)), .val (.int wd), .val (.int f), .val (.int t), .unset, .unset, .unset, .unset, .unset, .unset] [] := by
  refine Wk.newObj (pc' := 97) (i := 0) (H' := [obj "com/example/dissect/dissect/ReachedRanges" ksRR [.null, (.int (0 : Int32)), .null, .null, (.int (0 : Int32)), .null, .null]]) at_94 (wd1 hw) (wd2 hw) (wd3 hw) (ksRR_laid hw) (ksRR_dist hw) (Nat.le_of_ble_eq_true rfl) (Nat.le_of_ble_eq_true rfl) rfl rfl rfl ?_
  refine Wk.dup (pc' := 98) at_97 rfl rfl ?_
  refine Wk.callI (pc' := 101) (argsL := []) (st := [(rf hB 0)]) at_98 rfl (wd4 hw) (wd5 hw) (wd3 hw) (wd6 hw) (by decide) (lenOf pd_4 rfl) (m_init l Z a0 hw hB no cl sN A hz) rfl (Nat.le_of_ble_eq_true rfl) (Nat.le_of_ble_eq_true rfl) (Nat.le_of_ble_eq_true rfl) (Nat.le_of_ble_eq_true rfl) rfl rfl ?_
  rintro _ _ ⟨rfl, hH⟩; obtain rfl := hH.symm
  show WP l Z hB _ _ _ _ _ _ _ _ [obj "com/example/dissect/dissect/ReachedRanges" ksRR [(.ref no), (.int (0 : Int32)), (.ref no), (.ref no), (.int (0 : Int32)), (rf hB 1), (rf hB 2)], ints [0, 0, 0, 0, 0, 0, 0, 0], ints [0, 0, 0, 0, 0, 0, 0, 0]] _ _ [(rf hB 0)]
  refine Wk.astore (pc' := 103) (Ls' := #[.val (.int x0), .val (.int x1), .val (.int x2), .val (.int (0 : Int32)), .val (.int (1 : Int32)), .val (.int (0 : Int32)), .val (.int (0 : Int32)), .val (.int wd), .val (.int f), .val (.int t), .val (rf hB 0), .unset, .unset, .unset, .unset, .unset]) at_101 rfl rfl rfl ?_
  refine Wk.aload (pc' := 105) at_103 rfl rfl rfl ?_
  refine Wk.callV (pc' := 108) (argsL := []) (st := []) at_105 (wd23 hw) (wd24 hw) (Wk.nfSel (wd26 hw)) (wd26 hw) (wd25 hw) (wd3 hw) (wd27 hw) (by decide) (lenOf pd_4 rfl) (fun _ P => P.exa rfl) (m_add0 l Z a0 hw hB no cl sN A hz) rfl (Nat.le_of_ble_eq_true rfl) (Nat.le_of_ble_eq_true rfl) (Nat.le_of_ble_eq_true rfl) (Nat.le_of_ble_eq_true rfl) rfl rfl ?_
  rintro _ _ ⟨rfl, hH⟩; obtain rfl := hH.symm
  show WP l Z hB _ _ _ _ _ _ _ _ [obj "com/example/dissect/dissect/ReachedRanges" ksRR [(rf hB 3), (.int (1 : Int32)), (rf hB 4), (rf hB 5), (.int (1 : Int32)), (rf hB 1), (rf hB 2)], ints [0, 0, 0, 0, 0, 0, 0, 0], ints [0, 0, 0, 0, 0, 0, 0, 0], ints [0, 0, 0, 0, 0, 0, 0, 0, 0, 0, 0, 0, 0, 0, 0, 0], ints [0, 0, 0, 0, 0, 0, 0, 0, 0, 0, 0, 0, 0, 0, 0, 0], ints [0, 0, 0, 0, 0, 0, 0, 0, 0, 0, 0, 0, 0, 0, 0, 0]] _ _ []
  refine Wk.aload (pc' := 110) at_108 rfl rfl rfl ?_
  refine Wk.callV (pc' := 113) (argsL := []) (st := []) at_110 (wd23 hw) (wd24 hw) (Wk.nfSel (wd26 hw)) (wd26 hw) (wd25 hw) (wd3 hw) (wd27 hw) (by decide) (lenOf pd_4 rfl) (fun _ P => P.exa rfl) (m_add l Z a0 hw hB (1 : Int32) (1 : Int32) [0, 0, 0, 0, 0, 0, 0, 0] [0, 0, 0, 0, 0, 0, 0, 0] [0, 0, 0, 0, 0, 0, 0, 0, 0, 0, 0, 0, 0, 0, 0, 0] [0, 0, 0, 0, 0, 0, 0, 0, 0, 0, 0, 0, 0, 0, 0, 0] [0, 0, 0, 0, 0, 0, 0, 0, 0, 0, 0, 0, 0, 0, 0, 0] ([0, 1, 0, 0, 0, 0, 0, 0, 0, 0, 0, 0, 0, 0, 0, 0], [0, 1, 0, 0, 0, 0, 0, 0, 0, 0, 0, 0, 0, 0, 0, 0], [0, 1, 0, 0, 0, 0, 0, 0, 0, 0, 0, 0, 0, 0, 0, 0], (2 : Int32), (2 : Int32)) (by decide +kernel)) rfl (Nat.le_of_ble_eq_true rfl) (Nat.le_of_ble_eq_true rfl) (Nat.le_of_ble_eq_true rfl) (Nat.le_of_ble_eq_true rfl) rfl rfl ?_
  rintro _ _ ⟨rfl, hH⟩; obtain rfl := hH.symm
  show WP l Z hB _ _ _ _ _ _ _ _ [obj "com/example/dissect/dissect/ReachedRanges" ksRR [(rf hB 3), (.int (2 : Int32)), (rf hB 4), (rf hB 5), (.int (2 : Int32)), (rf hB 1), (rf hB 2)], ints [0, 0, 0, 0, 0, 0, 0, 0], ints [0, 0, 0, 0, 0, 0, 0, 0], ints [0, 1, 0, 0, 0, 0, 0, 0, 0, 0, 0, 0, 0, 0, 0, 0], ints [0, 1, 0, 0, 0, 0, 0, 0, 0, 0, 0, 0, 0, 0, 0, 0], ints [0, 1, 0, 0, 0, 0, 0, 0, 0, 0, 0, 0, 0, 0, 0, 0]] _ _ []
  refine Wk.aload (pc' := 115) at_113 rfl rfl rfl ?_
  refine Wk.callV (pc' := 118) (argsL := []) (st := []) at_115 (wd23 hw) (wd24 hw) (Wk.nfSel (wd26 hw)) (wd26 hw) (wd25 hw) (wd3 hw) (wd27 hw) (by decide) (lenOf pd_4 rfl) (fun _ P => P.exa rfl) (m_add l Z a0 hw hB (2 : Int32) (2 : Int32) [0, 0, 0, 0, 0, 0, 0, 0] [0, 0, 0, 0, 0, 0, 0, 0] [0, 1, 0, 0, 0, 0, 0, 0, 0, 0, 0, 0, 0, 0, 0, 0] [0, 1, 0, 0, 0, 0, 0, 0, 0, 0, 0, 0, 0, 0, 0, 0] [0, 1, 0, 0, 0, 0, 0, 0, 0, 0, 0, 0, 0, 0, 0, 0] ([0, 1, 2, 0, 0, 0, 0, 0, 0, 0, 0, 0, 0, 0, 0, 0], [0, 1, 2, 0, 0, 0, 0, 0, 0, 0, 0, 0, 0, 0, 0, 0], [0, 1, 2, 0, 0, 0, 0, 0, 0, 0, 0, 0, 0, 0, 0, 0], (3 : Int32), (3 : Int32)) (by decide +kernel)) rfl (Nat.le_of_ble_eq_true rfl) (Nat.le_of_ble_eq_true rfl) (Nat.le_of_ble_eq_true rfl) (Nat.le_of_ble_eq_true rfl) rfl rfl ?_
  rintro _ _ ⟨rfl, hH⟩; obtain rfl := hH.symm
  show WP l Z hB _ _ _ _ _ _ _ _ [obj "com/example/dissect/dissect/ReachedRanges" ksRR [(rf hB 3), (.int (3 : Int32)), (rf hB 4), (rf hB 5), (.int (3 : Int32)), (rf hB 1), (rf hB 2)], ints [0, 0, 0, 0, 0, 0, 0, 0], ints [0, 0, 0, 0, 0, 0, 0, 0], ints [0, 1, 2, 0, 0, 0, 0, 0, 0, 0, 0, 0, 0, 0, 0, 0], ints [0, 1, 2, 0, 0, 0, 0, 0, 0, 0, 0, 0, 0, 0, 0, 0], ints [0, 1, 2, 0, 0, 0, 0, 0, 0, 0, 0, 0, 0, 0, 0, 0]] _ _ []
  refine Wk.iloadN (pc' := 119) at_118 rfl rfl ?_
  refine Wk.ifY (pc' := 128) at_119 (XT.i0_eq_t rfl) (by decide) (by decide) ?_
  refine Wk.aload (pc' := 130) at_128 rfl rfl rfl ?_
  refine Wk.callV (pc' := 133) (argsL := []) (st := []) at_130 (wd23 hw) (wd24 hw) (Wk.nfSel (wd26 hw)) (wd26 hw) (wd25 hw) (wd3 hw) (wd27 hw) (by decide) (lenOf pd_4 rfl) (fun _ P => P.exa rfl) (m_add l Z a0 hw hB (3 : Int32) (3 : Int32) [0, 0, 0, 0, 0, 0, 0, 0] [0, 0, 0, 0, 0, 0, 0, 0] [0, 1, 2, 0, 0, 0, 0, 0, 0, 0, 0, 0, 0, 0, 0, 0] [0, 1, 2, 0, 0, 0, 0, 0, 0, 0, 0, 0, 0, 0, 0, 0] [0, 1, 2, 0, 0, 0, 0, 0, 0, 0, 0, 0, 0, 0, 0, 0] ([0, 1, 2, 3, 0, 0, 0, 0, 0, 0, 0, 0, 0, 0, 0, 0], [0, 1, 2, 3, 0, 0, 0, 0, 0, 0, 0, 0, 0, 0, 0, 0], [0, 1, 2, 3, 0, 0, 0, 0, 0, 0, 0, 0, 0, 0, 0, 0], (4 : Int32), (4 : Int32)) (by decide +kernel)) rfl (Nat.le_of_ble_eq_true rfl) (Nat.le_of_ble_eq_true rfl) (Nat.le_of_ble_eq_true rfl) (Nat.le_of_ble_eq_true rfl) rfl rfl ?_
  rintro _ _ ⟨rfl, hH⟩; obtain rfl := hH.symm
  show WP l Z hB _ _ _ _ _ _ _ _ [obj "com/example/dissect/dissect/ReachedRanges" ksRR [(rf hB 3), (.int (4 : Int32)), (rf hB 4), (rf hB 5), (.int (4 : Int32)), (rf hB 1), (rf hB 2)], ints [0, 0, 0, 0, 0, 0, 0, 0], ints [0, 0, 0, 0, 0, 0, 0, 0], ints [0, 1, 2, 3, 0, 0, 0, 0, 0, 0, 0, 0, 0, 0, 0, 0], ints [0, 1, 2, 3, 0, 0, 0, 0, 0, 0, 0, 0, 0, 0, 0, 0], ints [0, 1, 2, 3, 0, 0, 0, 0, 0, 0, 0, 0, 0, 0, 0, 0]] _ _ []
  refine Wk.iload (pc' := 135) at_133 rfl rfl ?_
  refine Wk.ifN (pc' := 138) at_135 (XT.i0_eq_f (by decide)) rfl ?_
  refine Wk.aload (pc' := 140) at_138 rfl rfl rfl ?_
  refine Wk.iconst (pc' := 141) (1 : Int32) at_140 (by decide) rfl ?_
  refine Wk.callV (pc' := 144) (argsL := [(.int (1 : Int32))]) (st := []) at_141 (wd56 hw) (wd57 hw) (Wk.nfSel (wd59 hw)) (wd59 hw) (wd58 hw) (wd3 hw) (wd60 hw) (by decide) (lenOf pd_5 rfl) (fun _ P => P.exa rfl) (m_reach l Z a0 hw hB (4 : Int32) (4 : Int32) [0, 0, 0, 0, 0, 0, 0, 0] [0, 0, 0, 0, 0, 0, 0, 0] [0, 1, 2, 3, 0, 0, 0, 0, 0, 0, 0, 0, 0, 0, 0, 0] [0, 1, 2, 3, 0, 0, 0, 0, 0, 0, 0, 0, 0, 0, 0, 0] [0, 1, 2, 3, 0, 0, 0, 0, 0, 0, 0, 0, 0, 0, 0, 0] (1 : Int32) ((5 : Int32), [1, 3, 0, 0, 0, 0, 0, 0], [1, 3, 0, 0, 0, 0, 0, 0], [0, 1, 2, 1, 3, 0, 0, 0, 0, 0, 0, 0, 0, 0, 0, 0], [0, 1, 2, 1, 3, 0, 0, 0, 0, 0, 0, 0, 0, 0, 0, 0]) (by decide +kernel)) rfl (Nat.le_of_ble_eq_true rfl) (Nat.le_of_ble_eq_true rfl) (Nat.le_of_ble_eq_true rfl) (Nat.le_of_ble_eq_true rfl) rfl rfl ?_
  rintro _ _ ⟨rfl, hH⟩; obtain rfl := hH.symm
  show WP l Z hB _ _ _ _ _ _ _ _ [obj "com/example/dissect/dissect/ReachedRanges" ksRR [(rf hB 3), (.int (4 : Int32)), (rf hB 4), (rf hB 5), (.int (5 : Int32)), (rf hB 1), (rf hB 2)], ints [1, 3, 0, 0, 0, 0, 0, 0], ints [1, 3, 0, 0, 0, 0, 0, 0], ints [0, 1, 2, 3, 0, 0, 0, 0, 0, 0, 0, 0, 0, 0, 0, 0], ints [0, 1, 2, 1, 3, 0, 0, 0, 0, 0, 0, 0, 0, 0, 0, 0], ints [0, 1, 2, 1, 3, 0, 0, 0, 0, 0, 0, 0, 0, 0, 0, 0]] _ _ []
  refine Wk.aload (pc' := 146) at_144 rfl rfl rfl ?_
  refine Wk.callV (pc' := 149) (argsL := []) (st := []) at_146 (wd23 hw) (wd24 hw) (Wk.nfSel (wd26 hw)) (wd26 hw) (wd25 hw) (wd3 hw) (wd27 hw) (by decide) (lenOf pd_4 rfl) (fun _ P => P.exa rfl) (m_add l Z a0 hw hB (4 : Int32) (5 : Int32) [1, 3, 0, 0, 0, 0, 0, 0] [1, 3, 0, 0, 0, 0, 0, 0] [0, 1, 2, 3, 0, 0, 0, 0, 0, 0, 0, 0, 0, 0, 0, 0] [0, 1, 2, 1, 3, 0, 0, 0, 0, 0, 0, 0, 0, 0, 0, 0] [0, 1, 2, 1, 3, 0, 0, 0, 0, 0, 0, 0, 0, 0, 0, 0] ([0, 1, 2, 3, 5, 0, 0, 0, 0, 0, 0, 0, 0, 0, 0, 0], [0, 1, 2, 1, 3, 4, 0, 0, 0, 0, 0, 0, 0, 0, 0, 0], [0, 1, 2, 1, 3, 4, 0, 0, 0, 0, 0, 0, 0, 0, 0, 0], (6 : Int32), (5 : Int32)) (by decide +kernel)) rfl (Nat.le_of_ble_eq_true rfl) (Nat.le_of_ble_eq_true rfl) (Nat.le_of_ble_eq_true rfl) (Nat.le_of_ble_eq_true rfl) rfl rfl ?_
  rintro _ _ ⟨rfl, hH⟩; obtain rfl := hH.symm
  show WP l Z hB _ _ _ _ _ _ _ _ [obj "com/example/dissect/dissect/ReachedRanges" ksRR [(rf hB 3), (.int (5 : Int32)), (rf hB 4), (rf hB 5), (.int (6 : Int32)), (rf hB 1), (rf hB 2)], ints [1, 3, 0, 0, 0, 0, 0, 0], ints [1, 3, 0, 0, 0, 0, 0, 0], ints [0, 1, 2, 3, 5, 0, 0, 0, 0, 0, 0, 0, 0, 0, 0, 0], ints [0, 1, 2, 1, 3, 4, 0, 0, 0, 0, 0, 0, 0, 0, 0, 0], ints [0, 1, 2, 1, 3, 4, 0, 0, 0, 0, 0, 0, 0, 0, 0, 0]] _ _ []
  refine Wk.iload (pc' := 151) at_149 rfl rfl ?_
  refine Wk.ifY (pc' := 160) at_151 (XT.i0_eq_t rfl) (by decide) (by decide) ?_
  refine Wk.iload (pc' := 162) at_160 rfl rfl ?_
  refine Wk.ifY (pc' := 171) at_162 (XT.i0_eq_t rfl) (by decide) (by decide) ?_
  exact m_B l Z a0 hw hB x0 x1 x2 (0 : Int32) (1 : Int32) (0 : Int32) (0 : Int32) wd f t [obj "com/example/dissect/dissect/ReachedRanges" ksRR [(rf hB 3), (.int (5 : Int32)), (rf hB 4), (rf hB 5), (.int (6 : Int32)), (rf hB 1), (rf hB 2)], ints [1, 3, 0, 0, 0, 0, 0, 0], ints [1, 3, 0, 0, 0, 0, 0, 0], ints [0, 1, 2, 3, 5, 0, 0, 0, 0, 0, 0, 0, 0, 0, 0, 0], ints [0, 1, 2, 1, 3, 4, 0, 0, 0, 0, 0, 0, 0, 0, 0, 0], ints [0, 1, 2, 1, 3, 4, 0, 0, 0, 0, 0, 0, 0, 0, 0, 0]] _ rfl (Nat.le_of_ble_eq_true rfl) _ (Nat.le_of_ble_eq_true rfl) (by have h := m_may l Z a0 hw hB (5 : Int32) (6 : Int32) [1, 3, 0, 0, 0, 0, 0, 0] [1, 3, 0, 0, 0, 0, 0, 0] [0, 1, 2, 3, 5, 0, 0, 0, 0, 0, 0, 0, 0, 0, 0, 0] [0, 1, 2, 1, 3, 4, 0, 0, 0, 0, 0, 0, 0, 0, 0, 0] [0, 1, 2, 1, 3, 4, 0, 0, 0, 0, 0, 0, 0, 0, 0, 0] f t _ (ok_0100 f t hf0 hf4); rw [expB_nar] at h; exact h)
set_option maxRecDepth 65536 in
set_option maxHeartbeats 40000000 in
theorem m_94_0101 (l : Launch) (Z : State) (a0 : Array Value) (hw : ∀ d ∈ tables_1, d.before a0 Z = true) (hB : Heap) (x0 x1 x2 wd f t : Int32) (no : Addr) (cl : Cell) (sN : Sta Z hB "com/example/dissect/dissect/ReachedRanges" "NO_INTS" "[I" (.ref no)) (A : Arr Z hB no cl .int) (hz : cl.slots.size = 0) (hf0 : 0 ≤ f.toInt) (hf4 : f.toInt ≤ 4) : WP l Z hB x code maxLocals ret room_1 0 (fun v _ => v = some (.int 1)) 0 [] 94 #[.val (.int x0), .val (.int x1), .val (.int x2), .val (.int (0 : Int32)), .val (.int (1 : Int32)), .val (.int (0 : Int32)), .val (.int (1 : Int32)), .val (.int wd), .val (.int f), .val (.int t), .unset, .unset, .unset, .unset, .unset, .unset] [] := by
  refine Wk.newObj (pc' := 97) (i := 0) (H' := [obj "com/example/dissect/dissect/ReachedRanges" ksRR [.null, (.int (0 : Int32)), .null, .null, (.int (0 : Int32)), .null, .null]]) at_94 (wd1 hw) (wd2 hw) (wd3 hw) (ksRR_laid hw) (ksRR_dist hw) (Nat.le_of_ble_eq_true rfl) (Nat.le_of_ble_eq_true rfl) rfl rfl rfl ?_
  refine Wk.dup (pc' := 98) at_97 rfl rfl ?_
  refine Wk.callI (pc' := 101) (argsL := []) (st := [(rf hB 0)]) at_98 rfl (wd4 hw) (wd5 hw) (wd3 hw) (wd6 hw) (by decide) (lenOf pd_4 rfl) (m_init l Z a0 hw hB no cl sN A hz) rfl (Nat.le_of_ble_eq_true rfl) (Nat.le_of_ble_eq_true rfl) (Nat.le_of_ble_eq_true rfl) (Nat.le_of_ble_eq_true rfl) rfl rfl ?_
  rintro _ _ ⟨rfl, hH⟩; obtain rfl := hH.symm
  show WP l Z hB _ _ _ _ _ _ _ _ [obj "com/example/dissect/dissect/ReachedRanges" ksRR [(.ref no), (.int (0 : Int32)), (.ref no), (.ref no), (.int (0 : Int32)), (rf hB 1), (rf hB 2)], ints [0, 0, 0, 0, 0, 0, 0, 0], ints [0, 0, 0, 0, 0, 0, 0, 0]] _ _ [(rf hB 0)]
  refine Wk.astore (pc' := 103) (Ls' := #[.val (.int x0), .val (.int x1), .val (.int x2), .val (.int (0 : Int32)), .val (.int (1 : Int32)), .val (.int (0 : Int32)), .val (.int (1 : Int32)), .val (.int wd), .val (.int f), .val (.int t), .val (rf hB 0), .unset, .unset, .unset, .unset, .unset]) at_101 rfl rfl rfl ?_
  refine Wk.aload (pc' := 105) at_103 rfl rfl rfl ?_
  refine Wk.callV (pc' := 108) (argsL := []) (st := []) at_105 (wd23 hw) (wd24 hw) (Wk.nfSel (wd26 hw)) (wd26 hw) (wd25 hw) (wd3 hw) (wd27 hw) (by decide) (lenOf pd_4 rfl) (fun _ P => P.exa rfl) (m_add0 l Z a0 hw hB no cl sN A hz) rfl (Nat.le_of_ble_eq_true rfl) (Nat.le_of_ble_eq_true rfl) (Nat.le_of_ble_eq_true rfl) (Nat.le_of_ble_eq_true rfl) rfl rfl ?_
  rintro _ _ ⟨rfl, hH⟩; obtain rfl := hH.symm
  show WP l Z hB _ _ _ _ _ _ _ _ [obj "com/example/dissect/dissect/ReachedRanges" ksRR [(rf hB 3), (.int (1 : Int32)), (rf hB 4), (rf hB 5), (.int (1 : Int32)), (rf hB 1), (rf hB 2)], ints [0, 0, 0, 0, 0, 0, 0, 0], ints [0, 0, 0, 0, 0, 0, 0, 0], ints [0, 0, 0, 0, 0, 0, 0, 0, 0, 0, 0, 0, 0, 0, 0, 0], ints [0, 0, 0, 0, 0, 0, 0, 0, 0, 0, 0, 0, 0, 0, 0, 0], ints [0, 0, 0, 0, 0, 0, 0, 0, 0, 0, 0, 0, 0, 0, 0, 0]] _ _ []
  refine Wk.aload (pc' := 110) at_108 rfl rfl rfl ?_
  refine Wk.callV (pc' := 113) (argsL := []) (st := []) at_110 (wd23 hw) (wd24 hw) (Wk.nfSel (wd26 hw)) (wd26 hw) (wd25 hw) (wd3 hw) (wd27 hw) (by decide) (lenOf pd_4 rfl) (fun _ P => P.exa rfl) (m_add l Z a0 hw hB (1 : Int32) (1 : Int32) [0, 0, 0, 0, 0, 0, 0, 0] [0, 0, 0, 0, 0, 0, 0, 0] [0, 0, 0, 0, 0, 0, 0, 0, 0, 0, 0, 0, 0, 0, 0, 0] [0, 0, 0, 0, 0, 0, 0, 0, 0, 0, 0, 0, 0, 0, 0, 0] [0, 0, 0, 0, 0, 0, 0, 0, 0, 0, 0, 0, 0, 0, 0, 0] ([0, 1, 0, 0, 0, 0, 0, 0, 0, 0, 0, 0, 0, 0, 0, 0], [0, 1, 0, 0, 0, 0, 0, 0, 0, 0, 0, 0, 0, 0, 0, 0], [0, 1, 0, 0, 0, 0, 0, 0, 0, 0, 0, 0, 0, 0, 0, 0], (2 : Int32), (2 : Int32)) (by decide +kernel)) rfl (Nat.le_of_ble_eq_true rfl) (Nat.le_of_ble_eq_true rfl) (Nat.le_of_ble_eq_true rfl) (Nat.le_of_ble_eq_true rfl) rfl rfl ?_
  rintro _ _ ⟨rfl, hH⟩; obtain rfl := hH.symm
  show WP l Z hB _ _ _ _ _ _ _ _ [obj "com/example/dissect/dissect/ReachedRanges" ksRR [(rf hB 3), (.int (2 : Int32)), (rf hB 4), (rf hB 5), (.int (2 : Int32)), (rf hB 1), (rf hB 2)], ints [0, 0, 0, 0, 0, 0, 0, 0], ints [0, 0, 0, 0, 0, 0, 0, 0], ints [0, 1, 0, 0, 0, 0, 0, 0, 0, 0, 0, 0, 0, 0, 0, 0], ints [0, 1, 0, 0, 0, 0, 0, 0, 0, 0, 0, 0, 0, 0, 0, 0], ints [0, 1, 0, 0, 0, 0, 0, 0, 0, 0, 0, 0, 0, 0, 0, 0]] _ _ []
  refine Wk.aload (pc' := 115) at_113 rfl rfl rfl ?_
  refine Wk.callV (pc' := 118) (argsL := []) (st := []) at_115 (wd23 hw) (wd24 hw) (Wk.nfSel (wd26 hw)) (wd26 hw) (wd25 hw) (wd3 hw) (wd27 hw) (by decide) (lenOf pd_4 rfl) (fun _ P => P.exa rfl) (m_add l Z a0 hw hB (2 : Int32) (2 : Int32) [0, 0, 0, 0, 0, 0, 0, 0] [0, 0, 0, 0, 0, 0, 0, 0] [0, 1, 0, 0, 0, 0, 0, 0, 0, 0, 0, 0, 0, 0, 0, 0] [0, 1, 0, 0, 0, 0, 0, 0, 0, 0, 0, 0, 0, 0, 0, 0] [0, 1, 0, 0, 0, 0, 0, 0, 0, 0, 0, 0, 0, 0, 0, 0] ([0, 1, 2, 0, 0, 0, 0, 0, 0, 0, 0, 0, 0, 0, 0, 0], [0, 1, 2, 0, 0, 0, 0, 0, 0, 0, 0, 0, 0, 0, 0, 0], [0, 1, 2, 0, 0, 0, 0, 0, 0, 0, 0, 0, 0, 0, 0, 0], (3 : Int32), (3 : Int32)) (by decide +kernel)) rfl (Nat.le_of_ble_eq_true rfl) (Nat.le_of_ble_eq_true rfl) (Nat.le_of_ble_eq_true rfl) (Nat.le_of_ble_eq_true rfl) rfl rfl ?_
  rintro _ _ ⟨rfl, hH⟩; obtain rfl := hH.symm
  show WP l Z hB _ _ _ _ _ _ _ _ [obj "com/example/dissect/dissect/ReachedRanges" ksRR [(rf hB 3), (.int (3 : Int32)), (rf hB 4), (rf hB 5), (.int (3 : Int32)), (rf hB 1), (rf hB 2)], ints [0, 0, 0, 0, 0, 0, 0, 0], ints [0, 0, 0, 0, 0, 0, 0, 0], ints [0, 1, 2, 0, 0, 0, 0, 0, 0, 0, 0, 0, 0, 0, 0, 0], ints [0, 1, 2, 0, 0, 0, 0, 0, 0, 0, 0, 0, 0, 0, 0, 0], ints [0, 1, 2, 0, 0, 0, 0, 0, 0, 0, 0, 0, 0, 0, 0, 0]] _ _ []
  refine Wk.iloadN (pc' := 119) at_118 rfl rfl ?_
  refine Wk.ifY (pc' := 128) at_119 (XT.i0_eq_t rfl) (by decide) (by decide) ?_
  refine Wk.aload (pc' := 130) at_128 rfl rfl rfl ?_
  refine Wk.callV (pc' := 133) (argsL := []) (st := []) at_130 (wd23 hw) (wd24 hw) (Wk.nfSel (wd26 hw)) (wd26 hw) (wd25 hw) (wd3 hw) (wd27 hw) (by decide) (lenOf pd_4 rfl) (fun _ P => P.exa rfl) (m_add l Z a0 hw hB (3 : Int32) (3 : Int32) [0, 0, 0, 0, 0, 0, 0, 0] [0, 0, 0, 0, 0, 0, 0, 0] [0, 1, 2, 0, 0, 0, 0, 0, 0, 0, 0, 0, 0, 0, 0, 0] [0, 1, 2, 0, 0, 0, 0, 0, 0, 0, 0, 0, 0, 0, 0, 0] [0, 1, 2, 0, 0, 0, 0, 0, 0, 0, 0, 0, 0, 0, 0, 0] ([0, 1, 2, 3, 0, 0, 0, 0, 0, 0, 0, 0, 0, 0, 0, 0], [0, 1, 2, 3, 0, 0, 0, 0, 0, 0, 0, 0, 0, 0, 0, 0], [0, 1, 2, 3, 0, 0, 0, 0, 0, 0, 0, 0, 0, 0, 0, 0], (4 : Int32), (4 : Int32)) (by decide +kernel)) rfl (Nat.le_of_ble_eq_true rfl) (Nat.le_of_ble_eq_true rfl) (Nat.le_of_ble_eq_true rfl) (Nat.le_of_ble_eq_true rfl) rfl rfl ?_
  rintro _ _ ⟨rfl, hH⟩; obtain rfl := hH.symm
  show WP l Z hB _ _ _ _ _ _ _ _ [obj "com/example/dissect/dissect/ReachedRanges" ksRR [(rf hB 3), (.int (4 : Int32)), (rf hB 4), (rf hB 5), (.int (4 : Int32)), (rf hB 1), (rf hB 2)], ints [0, 0, 0, 0, 0, 0, 0, 0], ints [0, 0, 0, 0, 0, 0, 0, 0], ints [0, 1, 2, 3, 0, 0, 0, 0, 0, 0, 0, 0, 0, 0, 0, 0], ints [0, 1, 2, 3, 0, 0, 0, 0, 0, 0, 0, 0, 0, 0, 0, 0], ints [0, 1, 2, 3, 0, 0, 0, 0, 0, 0, 0, 0, 0, 0, 0, 0]] _ _ []
  refine Wk.iload (pc' := 135) at_133 rfl rfl ?_
  refine Wk.ifN (pc' := 138) at_135 (XT.i0_eq_f (by decide)) rfl ?_
  refine Wk.aload (pc' := 140) at_138 rfl rfl rfl ?_
  refine Wk.iconst (pc' := 141) (1 : Int32) at_140 (by decide) rfl ?_
  refine Wk.callV (pc' := 144) (argsL := [(.int (1 : Int32))]) (st := []) at_141 (wd56 hw) (wd57 hw) (Wk.nfSel (wd59 hw)) (wd59 hw) (wd58 hw) (wd3 hw) (wd60 hw) (by decide) (lenOf pd_5 rfl) (fun _ P => P.exa rfl) (m_reach l Z a0 hw hB (4 : Int32) (4 : Int32) [0, 0, 0, 0, 0, 0, 0, 0] [0, 0, 0, 0, 0, 0, 0, 0] [0, 1, 2, 3, 0, 0, 0, 0, 0, 0, 0, 0, 0, 0, 0, 0] [0, 1, 2, 3, 0, 0, 0, 0, 0, 0, 0, 0, 0, 0, 0, 0] [0, 1, 2, 3, 0, 0, 0, 0, 0, 0, 0, 0, 0, 0, 0, 0] (1 : Int32) ((5 : Int32), [1, 3, 0, 0, 0, 0, 0, 0], [1, 3, 0, 0, 0, 0, 0, 0], [0, 1, 2, 1, 3, 0, 0, 0, 0, 0, 0, 0, 0, 0, 0, 0], [0, 1, 2, 1, 3, 0, 0, 0, 0, 0, 0, 0, 0, 0, 0, 0]) (by decide +kernel)) rfl (Nat.le_of_ble_eq_true rfl) (Nat.le_of_ble_eq_true rfl) (Nat.le_of_ble_eq_true rfl) (Nat.le_of_ble_eq_true rfl) rfl rfl ?_
  rintro _ _ ⟨rfl, hH⟩; obtain rfl := hH.symm
  show WP l Z hB _ _ _ _ _ _ _ _ [obj "com/example/dissect/dissect/ReachedRanges" ksRR [(rf hB 3), (.int (4 : Int32)), (rf hB 4), (rf hB 5), (.int (5 : Int32)), (rf hB 1), (rf hB 2)], ints [1, 3, 0, 0, 0, 0, 0, 0], ints [1, 3, 0, 0, 0, 0, 0, 0], ints [0, 1, 2, 3, 0, 0, 0, 0, 0, 0, 0, 0, 0, 0, 0, 0], ints [0, 1, 2, 1, 3, 0, 0, 0, 0, 0, 0, 0, 0, 0, 0, 0], ints [0, 1, 2, 1, 3, 0, 0, 0, 0, 0, 0, 0, 0, 0, 0, 0]] _ _ []
  refine Wk.aload (pc' := 146) at_144 rfl rfl rfl ?_
  refine Wk.callV (pc' := 149) (argsL := []) (st := []) at_146 (wd23 hw) (wd24 hw) (Wk.nfSel (wd26 hw)) (wd26 hw) (wd25 hw) (wd3 hw) (wd27 hw) (by decide) (lenOf pd_4 rfl) (fun _ P => P.exa rfl) (m_add l Z a0 hw hB (4 : Int32) (5 : Int32) [1, 3, 0, 0, 0, 0, 0, 0] [1, 3, 0, 0, 0, 0, 0, 0] [0, 1, 2, 3, 0, 0, 0, 0, 0, 0, 0, 0, 0, 0, 0, 0] [0, 1, 2, 1, 3, 0, 0, 0, 0, 0, 0, 0, 0, 0, 0, 0] [0, 1, 2, 1, 3, 0, 0, 0, 0, 0, 0, 0, 0, 0, 0, 0] ([0, 1, 2, 3, 5, 0, 0, 0, 0, 0, 0, 0, 0, 0, 0, 0], [0, 1, 2, 1, 3, 4, 0, 0, 0, 0, 0, 0, 0, 0, 0, 0], [0, 1, 2, 1, 3, 4, 0, 0, 0, 0, 0, 0, 0, 0, 0, 0], (6 : Int32), (5 : Int32)) (by decide +kernel)) rfl (Nat.le_of_ble_eq_true rfl) (Nat.le_of_ble_eq_true rfl) (Nat.le_of_ble_eq_true rfl) (Nat.le_of_ble_eq_true rfl) rfl rfl ?_
  rintro _ _ ⟨rfl, hH⟩; obtain rfl := hH.symm
  show WP l Z hB _ _ _ _ _ _ _ _ [obj "com/example/dissect/dissect/ReachedRanges" ksRR [(rf hB 3), (.int (5 : Int32)), (rf hB 4), (rf hB 5), (.int (6 : Int32)), (rf hB 1), (rf hB 2)], ints [1, 3, 0, 0, 0, 0, 0, 0], ints [1, 3, 0, 0, 0, 0, 0, 0], ints [0, 1, 2, 3, 5, 0, 0, 0, 0, 0, 0, 0, 0, 0, 0, 0], ints [0, 1, 2, 1, 3, 4, 0, 0, 0, 0, 0, 0, 0, 0, 0, 0], ints [0, 1, 2, 1, 3, 4, 0, 0, 0, 0, 0, 0, 0, 0, 0, 0]] _ _ []
  refine Wk.iload (pc' := 151) at_149 rfl rfl ?_
  refine Wk.ifY (pc' := 160) at_151 (XT.i0_eq_t rfl) (by decide) (by decide) ?_
  refine Wk.iload (pc' := 162) at_160 rfl rfl ?_
  refine Wk.ifN (pc' := 165) at_162 (XT.i0_eq_f (by decide)) rfl ?_
  refine Wk.aload (pc' := 167) at_165 rfl rfl rfl ?_
  refine Wk.iconst (pc' := 168) (2 : Int32) at_167 (by decide) rfl ?_
  refine Wk.callV (pc' := 171) (argsL := [(.int (2 : Int32))]) (st := []) at_168 (wd56 hw) (wd57 hw) (Wk.nfSel (wd59 hw)) (wd59 hw) (wd58 hw) (wd3 hw) (wd60 hw) (by decide) (lenOf pd_5 rfl) (fun _ P => P.exa rfl) (m_reach l Z a0 hw hB (5 : Int32) (6 : Int32) [1, 3, 0, 0, 0, 0, 0, 0] [1, 3, 0, 0, 0, 0, 0, 0] [0, 1, 2, 3, 5, 0, 0, 0, 0, 0, 0, 0, 0, 0, 0, 0] [0, 1, 2, 1, 3, 4, 0, 0, 0, 0, 0, 0, 0, 0, 0, 0] [0, 1, 2, 1, 3, 4, 0, 0, 0, 0, 0, 0, 0, 0, 0, 0] (2 : Int32) ((7 : Int32), [2, 4, 0, 0, 0, 0, 0, 0], [2, 4, 0, 0, 0, 0, 0, 0], [0, 1, 2, 1, 3, 2, 4, 0, 0, 0, 0, 0, 0, 0, 0, 0], [0, 1, 2, 1, 3, 2, 4, 0, 0, 0, 0, 0, 0, 0, 0, 0]) (by decide +kernel)) rfl (Nat.le_of_ble_eq_true rfl) (Nat.le_of_ble_eq_true rfl) (Nat.le_of_ble_eq_true rfl) (Nat.le_of_ble_eq_true rfl) rfl rfl ?_
  rintro _ _ ⟨rfl, hH⟩; obtain rfl := hH.symm
  show WP l Z hB _ _ _ _ _ _ _ _ [obj "com/example/dissect/dissect/ReachedRanges" ksRR [(rf hB 3), (.int (5 : Int32)), (rf hB 4), (rf hB 5), (.int (7 : Int32)), (rf hB 1), (rf hB 2)], ints [2, 4, 0, 0, 0, 0, 0, 0], ints [2, 4, 0, 0, 0, 0, 0, 0], ints [0, 1, 2, 3, 5, 0, 0, 0, 0, 0, 0, 0, 0, 0, 0, 0], ints [0, 1, 2, 1, 3, 2, 4, 0, 0, 0, 0, 0, 0, 0, 0, 0], ints [0, 1, 2, 1, 3, 2, 4, 0, 0, 0, 0, 0, 0, 0, 0, 0]] _ _ []
  exact m_B l Z a0 hw hB x0 x1 x2 (0 : Int32) (1 : Int32) (0 : Int32) (1 : Int32) wd f t [obj "com/example/dissect/dissect/ReachedRanges" ksRR [(rf hB 3), (.int (5 : Int32)), (rf hB 4), (rf hB 5), (.int (7 : Int32)), (rf hB 1), (rf hB 2)], ints [2, 4, 0, 0, 0, 0, 0, 0], ints [2, 4, 0, 0, 0, 0, 0, 0], ints [0, 1, 2, 3, 5, 0, 0, 0, 0, 0, 0, 0, 0, 0, 0, 0], ints [0, 1, 2, 1, 3, 2, 4, 0, 0, 0, 0, 0, 0, 0, 0, 0], ints [0, 1, 2, 1, 3, 2, 4, 0, 0, 0, 0, 0, 0, 0, 0, 0]] _ rfl (Nat.le_of_ble_eq_true rfl) _ (Nat.le_of_ble_eq_true rfl) (by have h := m_may l Z a0 hw hB (5 : Int32) (7 : Int32) [2, 4, 0, 0, 0, 0, 0, 0] [2, 4, 0, 0, 0, 0, 0, 0] [0, 1, 2, 3, 5, 0, 0, 0, 0, 0, 0, 0, 0, 0, 0, 0] [0, 1, 2, 1, 3, 2, 4, 0, 0, 0, 0, 0, 0, 0, 0, 0] [0, 1, 2, 1, 3, 2, 4, 0, 0, 0, 0, 0, 0, 0, 0, 0] f t _ (ok_0101 f t hf0 hf4); rw [expB_nar] at h; exact h)
set_option maxRecDepth 65536 in
set_option maxHeartbeats 40000000 in
theorem m_94_0110 (l : Launch) (Z : State) (a0 : Array Value) (hw : ∀ d ∈ tables_1, d.before a0 Z = true) (hB : Heap) (x0 x1 x2 wd f t : Int32) (no : Addr) (cl : Cell) (sN : Sta Z hB "com/example/dissect/dissect/ReachedRanges" "NO_INTS" "[I" (.ref no)) (A : Arr Z hB no cl .int) (hz : cl.slots.size = 0) (hf0 : 0 ≤ f.toInt) (hf4 : f.toInt ≤ 4) : WP l Z hB x code maxLocals ret room_1 0 (fun v _ => v = some (.int 1)) 0 [] 94 #[.val (.int x0), .val (.int x1), .val (.int x2), .val (.int (0 : Int32)), .val (.int (1 : Int32)), .val (.int (1 : Int32)), .val (.int (0 : Int32)), .val (.int wd), .val (.int f), .val (.int t), .unset, .unset, .unset, .unset, .unset, .unset] [] := by
  refine Wk.newObj (pc' := 97) (i := 0) (H' := [obj "com/example/dissect/dissect/ReachedRanges" ksRR [.null, (.int (0 : Int32)), .null, .null, (.int (0 : Int32)), .null, .null]]) at_94 (wd1 hw) (wd2 hw) (wd3 hw) (ksRR_laid hw) (ksRR_dist hw) (Nat.le_of_ble_eq_true rfl) (Nat.le_of_ble_eq_true rfl) rfl rfl rfl ?_
  refine Wk.dup (pc' := 98) at_97 rfl rfl ?_
  refine Wk.callI (pc' := 101) (argsL := []) (st := [(rf hB 0)]) at_98 rfl (wd4 hw) (wd5 hw) (wd3 hw) (wd6 hw) (by decide) (lenOf pd_4 rfl) (m_init l Z a0 hw hB no cl sN A hz) rfl (Nat.le_of_ble_eq_true rfl) (Nat.le_of_ble_eq_true rfl) (Nat.le_of_ble_eq_true rfl) (Nat.le_of_ble_eq_true rfl) rfl rfl ?_
  rintro _ _ ⟨rfl, hH⟩; obtain rfl := hH.symm
  show WP l Z hB _ _ _ _ _ _ _ _ [obj "com/example/dissect/dissect/ReachedRanges" ksRR [(.ref no), (.int (0 : Int32)), (.ref no), (.ref no), (.int (0 : Int32)), (rf hB 1), (rf hB 2)], ints [0, 0, 0, 0, 0, 0, 0, 0], ints [0, 0, 0, 0, 0, 0, 0, 0]] _ _ [(rf hB 0)]
  refine Wk.astore (pc' := 103) (Ls' := #[.val (.int x0), .val (.int x1), .val (.int x2), .val (.int (0 : Int32)), .val (.int (1 : Int32)), .val (.int (1 : Int32)), .val (.int (0 : Int32)), .val (.int wd), .val (.int f), .val (.int t), .val (rf hB 0), .unset, .unset, .unset, .unset, .unset]) at_101 rfl rfl rfl ?_
  refine Wk.aload (pc' := 105) at_103 rfl rfl rfl ?_
  refine Wk.callV (pc' := 108) (argsL := []) (st := []) at_105 (wd23 hw) (wd24 hw) (Wk.nfSel (wd26 hw)) (wd26 hw) (wd25 hw) (wd3 hw) (wd27 hw) (by decide) (lenOf pd_4 rfl) (fun _ P => P.exa rfl) (m_add0 l Z a0 hw hB no cl sN A hz) rfl (Nat.le_of_ble_eq_true rfl) (Nat.le_of_ble_eq_true rfl) (Nat.le_of_ble_eq_true rfl) (Nat.le_of_ble_eq_true rfl) rfl rfl ?_
  rintro _ _ ⟨rfl, hH⟩; obtain rfl := hH.symm
  show WP l Z hB _ _ _ _ _ _ _ _ [obj "com/example/dissect/dissect/ReachedRanges" ksRR [(rf hB 3), (.int (1 : Int32)), (rf hB 4), (rf hB 5), (.int (1 : Int32)), (rf hB 1), (rf hB 2)], ints [0, 0, 0, 0, 0, 0, 0, 0], ints [0, 0, 0, 0, 0, 0, 0, 0], ints [0, 0, 0, 0, 0, 0, 0, 0, 0, 0, 0, 0, 0, 0, 0, 0], ints [0, 0, 0, 0, 0, 0, 0, 0, 0, 0, 0, 0, 0, 0, 0, 0], ints [0, 0, 0, 0, 0, 0, 0, 0, 0, 0, 0, 0, 0, 0, 0, 0]] _ _ []
  refine Wk.aload (pc' := 110) at_108 rfl rfl rfl ?_
  refine Wk.callV (pc' := 113) (argsL := []) (st := []) at_110 (wd23 hw) (wd24 hw) (Wk.nfSel (wd26 hw)) (wd26 hw) (wd25 hw) (wd3 hw) (wd27 hw) (by decide) (lenOf pd_4 rfl) (fun _ P => P.exa rfl) (m_add l Z a0 hw hB (1 : Int32) (1 : Int32) [0, 0, 0, 0, 0, 0, 0, 0] [0, 0, 0, 0, 0, 0, 0, 0] [0, 0, 0, 0, 0, 0, 0, 0, 0, 0, 0, 0, 0, 0, 0, 0] [0, 0, 0, 0, 0, 0, 0, 0, 0, 0, 0, 0, 0, 0, 0, 0] [0, 0, 0, 0, 0, 0, 0, 0, 0, 0, 0, 0, 0, 0, 0, 0] ([0, 1, 0, 0, 0, 0, 0, 0, 0, 0, 0, 0, 0, 0, 0, 0], [0, 1, 0, 0, 0, 0, 0, 0, 0, 0, 0, 0, 0, 0, 0, 0], [0, 1, 0, 0, 0, 0, 0, 0, 0, 0, 0, 0, 0, 0, 0, 0], (2 : Int32), (2 : Int32)) (by decide +kernel)) rfl (Nat.le_of_ble_eq_true rfl) (Nat.le_of_ble_eq_true rfl) (Nat.le_of_ble_eq_true rfl) (Nat.le_of_ble_eq_true rfl) rfl rfl ?_
  rintro _ _ ⟨rfl, hH⟩; obtain rfl := hH.symm
  show WP l Z hB _ _ _ _ _ _ _ _ [obj "com/example/dissect/dissect/ReachedRanges" ksRR [(rf hB 3), (.int (2 : Int32)), (rf hB 4), (rf hB 5), (.int (2 : Int32)), (rf hB 1), (rf hB 2)], ints [0, 0, 0, 0, 0, 0, 0, 0], ints [0, 0, 0, 0, 0, 0, 0, 0], ints [0, 1, 0, 0, 0, 0, 0, 0, 0, 0, 0, 0, 0, 0, 0, 0], ints [0, 1, 0, 0, 0, 0, 0, 0, 0, 0, 0, 0, 0, 0, 0, 0], ints [0, 1, 0, 0, 0, 0, 0, 0, 0, 0, 0, 0, 0, 0, 0, 0]] _ _ []
  refine Wk.aload (pc' := 115) at_113 rfl rfl rfl ?_
  refine Wk.callV (pc' := 118) (argsL := []) (st := []) at_115 (wd23 hw) (wd24 hw) (Wk.nfSel (wd26 hw)) (wd26 hw) (wd25 hw) (wd3 hw) (wd27 hw) (by decide) (lenOf pd_4 rfl) (fun _ P => P.exa rfl) (m_add l Z a0 hw hB (2 : Int32) (2 : Int32) [0, 0, 0, 0, 0, 0, 0, 0] [0, 0, 0, 0, 0, 0, 0, 0] [0, 1, 0, 0, 0, 0, 0, 0, 0, 0, 0, 0, 0, 0, 0, 0] [0, 1, 0, 0, 0, 0, 0, 0, 0, 0, 0, 0, 0, 0, 0, 0] [0, 1, 0, 0, 0, 0, 0, 0, 0, 0, 0, 0, 0, 0, 0, 0] ([0, 1, 2, 0, 0, 0, 0, 0, 0, 0, 0, 0, 0, 0, 0, 0], [0, 1, 2, 0, 0, 0, 0, 0, 0, 0, 0, 0, 0, 0, 0, 0], [0, 1, 2, 0, 0, 0, 0, 0, 0, 0, 0, 0, 0, 0, 0, 0], (3 : Int32), (3 : Int32)) (by decide +kernel)) rfl (Nat.le_of_ble_eq_true rfl) (Nat.le_of_ble_eq_true rfl) (Nat.le_of_ble_eq_true rfl) (Nat.le_of_ble_eq_true rfl) rfl rfl ?_
  rintro _ _ ⟨rfl, hH⟩; obtain rfl := hH.symm
  show WP l Z hB _ _ _ _ _ _ _ _ [obj "com/example/dissect/dissect/ReachedRanges" ksRR [(rf hB 3), (.int (3 : Int32)), (rf hB 4), (rf hB 5), (.int (3 : Int32)), (rf hB 1), (rf hB 2)], ints [0, 0, 0, 0, 0, 0, 0, 0], ints [0, 0, 0, 0, 0, 0, 0, 0], ints [0, 1, 2, 0, 0, 0, 0, 0, 0, 0, 0, 0, 0, 0, 0, 0], ints [0, 1, 2, 0, 0, 0, 0, 0, 0, 0, 0, 0, 0, 0, 0, 0], ints [0, 1, 2, 0, 0, 0, 0, 0, 0, 0, 0, 0, 0, 0, 0, 0]] _ _ []
  refine Wk.iloadN (pc' := 119) at_118 rfl rfl ?_
  refine Wk.ifY (pc' := 128) at_119 (XT.i0_eq_t rfl) (by decide) (by decide) ?_
  refine Wk.aload (pc' := 130) at_128 rfl rfl rfl ?_
  refine Wk.callV (pc' := 133) (argsL := []) (st := []) at_130 (wd23 hw) (wd24 hw) (Wk.nfSel (wd26 hw)) (wd26 hw) (wd25 hw) (wd3 hw) (wd27 hw) (by decide) (lenOf pd_4 rfl) (fun _ P => P.exa rfl) (m_add l Z a0 hw hB (3 : Int32) (3 : Int32) [0, 0, 0, 0, 0, 0, 0, 0] [0, 0, 0, 0, 0, 0, 0, 0] [0, 1, 2, 0, 0, 0, 0, 0, 0, 0, 0, 0, 0, 0, 0, 0] [0, 1, 2, 0, 0, 0, 0, 0, 0, 0, 0, 0, 0, 0, 0, 0] [0, 1, 2, 0, 0, 0, 0, 0, 0, 0, 0, 0, 0, 0, 0, 0] ([0, 1, 2, 3, 0, 0, 0, 0, 0, 0, 0, 0, 0, 0, 0, 0], [0, 1, 2, 3, 0, 0, 0, 0, 0, 0, 0, 0, 0, 0, 0, 0], [0, 1, 2, 3, 0, 0, 0, 0, 0, 0, 0, 0, 0, 0, 0, 0], (4 : Int32), (4 : Int32)) (by decide +kernel)) rfl (Nat.le_of_ble_eq_true rfl) (Nat.le_of_ble_eq_true rfl) (Nat.le_of_ble_eq_true rfl) (Nat.le_of_ble_eq_true rfl) rfl rfl ?_
  rintro _ _ ⟨rfl, hH⟩; obtain rfl := hH.symm
  show WP l Z hB _ _ _ _ _ _ _ _ [obj "com/example/dissect/dissect/ReachedRanges" ksRR [(rf hB 3), (.int (4 : Int32)), (rf hB 4), (rf hB 5), (.int (4 : Int32)), (rf hB 1), (rf hB 2)], ints [0, 0, 0, 0, 0, 0, 0, 0], ints [0, 0, 0, 0, 0, 0, 0, 0], ints [0, 1, 2, 3, 0, 0, 0, 0, 0, 0, 0, 0, 0, 0, 0, 0], ints [0, 1, 2, 3, 0, 0, 0, 0, 0, 0, 0, 0, 0, 0, 0, 0], ints [0, 1, 2, 3, 0, 0, 0, 0, 0, 0, 0, 0, 0, 0, 0, 0]] _ _ []
  refine Wk.iload (pc' := 135) at_133 rfl rfl ?_
  refine Wk.ifN (pc' := 138) at_135 (XT.i0_eq_f (by decide)) rfl ?_
  refine Wk.aload (pc' := 140) at_138 rfl rfl rfl ?_
  refine Wk.iconst (pc' := 141) (1 : Int32) at_140 (by decide) rfl ?_
  refine Wk.callV (pc' := 144) (argsL := [(.int (1 : Int32))]) (st := []) at_141 (wd56 hw) (wd57 hw) (Wk.nfSel (wd59 hw)) (wd59 hw) (wd58 hw) (wd3 hw) (wd60 hw) (by decide) (lenOf pd_5 rfl) (fun _ P => P.exa rfl) (m_reach l Z a0 hw hB (4 : Int32) (4 : Int32) [0, 0, 0, 0, 0, 0, 0, 0] [0, 0, 0, 0, 0, 0, 0, 0] [0, 1, 2, 3, 0, 0, 0, 0, 0, 0, 0, 0, 0, 0, 0, 0] [0, 1, 2, 3, 0, 0, 0, 0, 0, 0, 0, 0, 0, 0, 0, 0] [0, 1, 2, 3, 0, 0, 0, 0, 0, 0, 0, 0, 0, 0, 0, 0] (1 : Int32) ((5 : Int32), [1, 3, 0, 0, 0, 0, 0, 0], [1, 3, 0, 0, 0, 0, 0, 0], [0, 1, 2, 1, 3, 0, 0, 0, 0, 0, 0, 0, 0, 0, 0, 0], [0, 1, 2, 1, 3, 0, 0, 0, 0, 0, 0, 0, 0, 0, 0, 0]) (by decide +kernel)) rfl (Nat.le_of_ble_eq_true rfl) (Nat.le_of_ble_eq_true rfl) (Nat.le_of_ble_eq_true rfl) (Nat.le_of_ble_eq_true rfl) rfl rfl ?_
  rintro _ _ ⟨rfl, hH⟩; obtain rfl := hH.symm
  show WP l Z hB _ _ _ _ _ _ _ _ [obj "com/example/dissect/dissect/ReachedRanges" ksRR [(rf hB 3), (.int (4 : Int32)), (rf hB 4), (rf hB 5), (.int (5 : Int32)), (rf hB 1), (rf hB 2)], ints [1, 3, 0, 0, 0, 0, 0, 0], ints [1, 3, 0, 0, 0, 0, 0, 0], ints [0, 1, 2, 3, 0, 0, 0, 0, 0, 0, 0, 0, 0, 0, 0, 0], ints [0, 1, 2, 1, 3, 0, 0, 0, 0, 0, 0, 0, 0, 0, 0, 0], ints [0, 1, 2, 1, 3, 0, 0, 0, 0, 0, 0, 0, 0, 0, 0, 0]] _ _ []
  refine Wk.aload (pc' := 146) at_144 rfl rfl rfl ?_
  refine Wk.callV (pc' := 149) (argsL := []) (st := []) at_146 (wd23 hw) (wd24 hw) (Wk.nfSel (wd26 hw)) (wd26 hw) (wd25 hw) (wd3 hw) (wd27 hw) (by decide) (lenOf pd_4 rfl) (fun _ P => P.exa rfl) (m_add l Z a0 hw hB (4 : Int32) (5 : Int32) [1, 3, 0, 0, 0, 0, 0, 0] [1, 3, 0, 0, 0, 0, 0, 0] [0, 1, 2, 3, 0, 0, 0, 0, 0, 0, 0, 0, 0, 0, 0, 0] [0, 1, 2, 1, 3, 0, 0, 0, 0, 0, 0, 0, 0, 0, 0, 0] [0, 1, 2, 1, 3, 0, 0, 0, 0, 0, 0, 0, 0, 0, 0, 0] ([0, 1, 2, 3, 5, 0, 0, 0, 0, 0, 0, 0, 0, 0, 0, 0], [0, 1, 2, 1, 3, 4, 0, 0, 0, 0, 0, 0, 0, 0, 0, 0], [0, 1, 2, 1, 3, 4, 0, 0, 0, 0, 0, 0, 0, 0, 0, 0], (6 : Int32), (5 : Int32)) (by decide +kernel)) rfl (Nat.le_of_ble_eq_true rfl) (Nat.le_of_ble_eq_true rfl) (Nat.le_of_ble_eq_true rfl) (Nat.le_of_ble_eq_true rfl) rfl rfl ?_
  rintro _ _ ⟨rfl, hH⟩; obtain rfl := hH.symm
  show WP l Z hB _ _ _ _ _ _ _ _ [obj "com/example/dissect/dissect/ReachedRanges" ksRR [(rf hB 3), (.int (5 : Int32)), (rf hB 4), (rf hB 5), (.int (6 : Int32)), (rf hB 1), (rf hB 2)], ints [1, 3, 0, 0, 0, 0, 0, 0], ints [1, 3, 0, 0, 0, 0, 0, 0], ints [0, 1, 2, 3, 5, 0, 0, 0, 0, 0, 0, 0, 0, 0, 0, 0], ints [0, 1, 2, 1, 3, 4, 0, 0, 0, 0, 0, 0, 0, 0, 0, 0], ints [0, 1, 2, 1, 3, 4, 0, 0, 0, 0, 0, 0, 0, 0, 0, 0]] _ _ []
  refine Wk.iload (pc' := 151) at_149 rfl rfl ?_
  refine Wk.ifN (pc' := 154) at_151 (XT.i0_eq_f (by decide)) rfl ?_
  refine Wk.aload (pc' := 156) at_154 rfl rfl rfl ?_
  refine Wk.iconst (pc' := 157) (3 : Int32) at_156 (by decide) rfl ?_
  refine Wk.callV (pc' := 160) (argsL := [(.int (3 : Int32))]) (st := []) at_157 (wd56 hw) (wd57 hw) (Wk.nfSel (wd59 hw)) (wd59 hw) (wd58 hw) (wd3 hw) (wd60 hw) (by decide) (lenOf pd_5 rfl) (fun _ P => P.exa rfl) (m_reach l Z a0 hw hB (5 : Int32) (6 : Int32) [1, 3, 0, 0, 0, 0, 0, 0] [1, 3, 0, 0, 0, 0, 0, 0] [0, 1, 2, 3, 5, 0, 0, 0, 0, 0, 0, 0, 0, 0, 0, 0] [0, 1, 2, 1, 3, 4, 0, 0, 0, 0, 0, 0, 0, 0, 0, 0] [0, 1, 2, 1, 3, 4, 0, 0, 0, 0, 0, 0, 0, 0, 0, 0] (3 : Int32) ((7 : Int32), [1, 3, 0, 0, 0, 0, 0, 0], [1, 4, 0, 0, 0, 0, 0, 0], [0, 1, 2, 1, 3, 1, 3, 0, 0, 0, 0, 0, 0, 0, 0, 0], [0, 1, 2, 1, 3, 1, 4, 0, 0, 0, 0, 0, 0, 0, 0, 0]) (by decide +kernel)) rfl (Nat.le_of_ble_eq_true rfl) (Nat.le_of_ble_eq_true rfl) (Nat.le_of_ble_eq_true rfl) (Nat.le_of_ble_eq_true rfl) rfl rfl ?_
  rintro _ _ ⟨rfl, hH⟩; obtain rfl := hH.symm
  show WP l Z hB _ _ _ _ _ _ _ _ [obj "com/example/dissect/dissect/ReachedRanges" ksRR [(rf hB 3), (.int (5 : Int32)), (rf hB 4), (rf hB 5), (.int (7 : Int32)), (rf hB 1), (rf hB 2)], ints [1, 3, 0, 0, 0, 0, 0, 0], ints [1, 4, 0, 0, 0, 0, 0, 0], ints [0, 1, 2, 3, 5, 0, 0, 0, 0, 0, 0, 0, 0, 0, 0, 0], ints [0, 1, 2, 1, 3, 1, 3, 0, 0, 0, 0, 0, 0, 0, 0, 0], ints [0, 1, 2, 1, 3, 1, 4, 0, 0, 0, 0, 0, 0, 0, 0, 0]] _ _ []
  refine Wk.iload (pc' := 162) at_160 rfl rfl ?_
  refine Wk.ifY (pc' := 171) at_162 (XT.i0_eq_t rfl) (by decide) (by decide) ?_
  exact m_B l Z a0 hw hB x0 x1 x2 (0 : Int32) (1 : Int32) (1 : Int32) (0 : Int32) wd f t [obj "com/example/dissect/dissect/ReachedRanges" ksRR [(rf hB 3), (.int (5 : Int32)), (rf hB 4), (rf hB 5), (.int (7 : Int32)), (rf hB 1), (rf hB 2)], ints [1, 3, 0, 0, 0, 0, 0, 0], ints [1, 4, 0, 0, 0, 0, 0, 0], ints [0, 1, 2, 3, 5, 0, 0, 0, 0, 0, 0, 0, 0, 0, 0, 0], ints [0, 1, 2, 1, 3, 1, 3, 0, 0, 0, 0, 0, 0, 0, 0, 0], ints [0, 1, 2, 1, 3, 1, 4, 0, 0, 0, 0, 0, 0, 0, 0, 0]] _ rfl (Nat.le_of_ble_eq_true rfl) _ (Nat.le_of_ble_eq_true rfl) (by have h := m_may l Z a0 hw hB (5 : Int32) (7 : Int32) [1, 3, 0, 0, 0, 0, 0, 0] [1, 4, 0, 0, 0, 0, 0, 0] [0, 1, 2, 3, 5, 0, 0, 0, 0, 0, 0, 0, 0, 0, 0, 0] [0, 1, 2, 1, 3, 1, 3, 0, 0, 0, 0, 0, 0, 0, 0, 0] [0, 1, 2, 1, 3, 1, 4, 0, 0, 0, 0, 0, 0, 0, 0, 0] f t _ (ok_0110 f t hf0 hf4); rw [expB_nar] at h; exact h)
set_option maxRecDepth 65536 in
set_option maxHeartbeats 40000000 in
theorem m_94_0111 (l : Launch) (Z : State) (a0 : Array Value) (hw : ∀ d ∈ tables_1, d.before a0 Z = true) (hB : Heap) (x0 x1 x2 wd f t : Int32) (no : Addr) (cl : Cell) (sN : Sta Z hB "com/example/dissect/dissect/ReachedRanges" "NO_INTS" "[I" (.ref no)) (A : Arr Z hB no cl .int) (hz : cl.slots.size = 0) (hf0 : 0 ≤ f.toInt) (hf4 : f.toInt ≤ 4) : WP l Z hB x code maxLocals ret room_1 0 (fun v _ => v = some (.int 1)) 0 [] 94 #[.val (.int x0), .val (.int x1), .val (.int x2), .val (.int (0 : Int32)), .val (.int (1 : Int32)), .val (.int (1 : Int32)), .val (.int (1 : Int32)), .val (.int wd), .val (.int f), .val (.int t), .unset, .unset, .unset, .unset, .unset, .unset] [] := by
  refine Wk.newObj (pc' := 97) (i := 0) (H' := [obj "com/example/dissect/dissect/ReachedRanges" ksRR [.null, (.int (0 : Int32)), .null, .null, (.int (0 : Int32)), .null, .null]]) at_94 (wd1 hw) (wd2 hw) (wd3 hw) (ksRR_laid hw) (ksRR_dist hw) (Nat.le_of_ble_eq_true rfl) (Nat.le_of_ble_eq_true rfl) rfl rfl rfl ?_
  refine Wk.dup (pc' := 98) at_97 rfl rfl ?_
  refine Wk.callI (pc' := 101) (argsL := []) (st := [(rf hB 0)]) at_98 rfl (wd4 hw) (wd5 hw) (wd3 hw) (wd6 hw) (by decide) (lenOf pd_4 rfl) (m_init l Z a0 hw hB no cl sN A hz) rfl (Nat.le_of_ble_eq_true rfl) (Nat.le_of_ble_eq_true rfl) (Nat.le_of_ble_eq_true rfl) (Nat.le_of_ble_eq_true rfl) rfl rfl ?_
  rintro _ _ ⟨rfl, hH⟩; obtain rfl := hH.symm
  show WP l Z hB _ _ _ _ _ _ _ _ [obj "com/example/dissect/dissect/ReachedRanges" ksRR [(.ref no), (.int (0 : Int32)), (.ref no), (.ref no), (.int (0 : Int32)), (rf hB 1), (rf hB 2)], ints [0, 0, 0, 0, 0, 0, 0, 0], ints [0, 0, 0, 0, 0, 0, 0, 0]] _ _ [(rf hB 0)]
  refine Wk.astore (pc' := 103) (Ls' := #[.val (.int x0), .val (.int x1), .val (.int x2), .val (.int (0 : Int32)), .val (.int (1 : Int32)), .val (.int (1 : Int32)), .val (.int (1 : Int32)), .val (.int wd), .val (.int f), .val (.int t), .val (rf hB 0), .unset, .unset, .unset, .unset, .unset]) at_101 rfl rfl rfl ?_
  refine Wk.aload (pc' := 105) at_103 rfl rfl rfl ?_
  refine Wk.callV (pc' := 108) (argsL := []) (st := []) at_105 (wd23 hw) (wd24 hw) (Wk.nfSel (wd26 hw)) (wd26 hw) (wd25 hw) (wd3 hw) (wd27 hw) (by decide) (lenOf pd_4 rfl) (fun _ P => P.exa rfl) (m_add0 l Z a0 hw hB no cl sN A hz) rfl (Nat.le_of_ble_eq_true rfl) (Nat.le_of_ble_eq_true rfl) (Nat.le_of_ble_eq_true rfl) (Nat.le_of_ble_eq_true rfl) rfl rfl ?_
  rintro _ _ ⟨rfl, hH⟩; obtain rfl := hH.symm
  show WP l Z hB _ _ _ _ _ _ _ _ [obj "com/example/dissect/dissect/ReachedRanges" ksRR [(rf hB 3), (.int (1 : Int32)), (rf hB 4), (rf hB 5), (.int (1 : Int32)), (rf hB 1), (rf hB 2)], ints [0, 0, 0, 0, 0, 0, 0, 0], ints [0, 0, 0, 0, 0, 0, 0, 0], ints [0, 0, 0, 0, 0, 0, 0, 0, 0, 0, 0, 0, 0, 0, 0, 0], ints [0, 0, 0, 0, 0, 0, 0, 0, 0, 0, 0, 0, 0, 0, 0, 0], ints [0, 0, 0, 0, 0, 0, 0, 0, 0, 0, 0, 0, 0, 0, 0, 0]] _ _ []
  refine Wk.aload (pc' := 110) at_108 rfl rfl rfl ?_
  refine Wk.callV (pc' := 113) (argsL := []) (st := []) at_110 (wd23 hw) (wd24 hw) (Wk.nfSel (wd26 hw)) (wd26 hw) (wd25 hw) (wd3 hw) (wd27 hw) (by decide) (lenOf pd_4 rfl) (fun _ P => P.exa rfl) (m_add l Z a0 hw hB (1 : Int32) (1 : Int32) [0, 0, 0, 0, 0, 0, 0, 0] [0, 0, 0, 0, 0, 0, 0, 0] [0, 0, 0, 0, 0, 0, 0, 0, 0, 0, 0, 0, 0, 0, 0, 0] [0, 0, 0, 0, 0, 0, 0, 0, 0, 0, 0, 0, 0, 0, 0, 0] [0, 0, 0, 0, 0, 0, 0, 0, 0, 0, 0, 0, 0, 0, 0, 0] ([0, 1, 0, 0, 0, 0, 0, 0, 0, 0, 0, 0, 0, 0, 0, 0], [0, 1, 0, 0, 0, 0, 0, 0, 0, 0, 0, 0, 0, 0, 0, 0], [0, 1, 0, 0, 0, 0, 0, 0, 0, 0, 0, 0, 0, 0, 0, 0], (2 : Int32), (2 : Int32)) (by decide +kernel)) rfl (Nat.le_of_ble_eq_true rfl) (Nat.le_of_ble_eq_true rfl) (Nat.le_of_ble_eq_true rfl) (Nat.le_of_ble_eq_true rfl) rfl rfl ?_
  rintro _ _ ⟨rfl, hH⟩; obtain rfl := hH.symm
  show WP l Z hB _ _ _ _ _ _ _ _ [obj "com/example/dissect/dissect/ReachedRanges" ksRR [(rf hB 3), (.int (2 : Int32)), (rf hB 4), (rf hB 5), (.int (2 : Int32)), (rf hB 1), (rf hB 2)], ints [0, 0, 0, 0, 0, 0, 0, 0], ints [0, 0, 0, 0, 0, 0, 0, 0], ints [0, 1, 0, 0, 0, 0, 0, 0, 0, 0, 0, 0, 0, 0, 0, 0], ints [0, 1, 0, 0, 0, 0, 0, 0, 0, 0, 0, 0, 0, 0, 0, 0], ints [0, 1, 0, 0, 0, 0, 0, 0, 0, 0, 0, 0, 0, 0, 0, 0]] _ _ []
  refine Wk.aload (pc' := 115) at_113 rfl rfl rfl ?_
  refine Wk.callV (pc' := 118) (argsL := []) (st := []) at_115 (wd23 hw) (wd24 hw) (Wk.nfSel (wd26 hw)) (wd26 hw) (wd25 hw) (wd3 hw) (wd27 hw) (by decide) (lenOf pd_4 rfl) (fun _ P => P.exa rfl) (m_add l Z a0 hw hB (2 : Int32) (2 : Int32) [0, 0, 0, 0, 0, 0, 0, 0] [0, 0, 0, 0, 0, 0, 0, 0] [0, 1, 0, 0, 0, 0, 0, 0, 0, 0, 0, 0, 0, 0, 0, 0] [0, 1, 0, 0, 0, 0, 0, 0, 0, 0, 0, 0, 0, 0, 0, 0] [0, 1, 0, 0, 0, 0, 0, 0, 0, 0, 0, 0, 0, 0, 0, 0] ([0, 1, 2, 0, 0, 0, 0, 0, 0, 0, 0, 0, 0, 0, 0, 0], [0, 1, 2, 0, 0, 0, 0, 0, 0, 0, 0, 0, 0, 0, 0, 0], [0, 1, 2, 0, 0, 0, 0, 0, 0, 0, 0, 0, 0, 0, 0, 0], (3 : Int32), (3 : Int32)) (by decide +kernel)) rfl (Nat.le_of_ble_eq_true rfl) (Nat.le_of_ble_eq_true rfl) (Nat.le_of_ble_eq_true rfl) (Nat.le_of_ble_eq_true rfl) rfl rfl ?_
  rintro _ _ ⟨rfl, hH⟩; obtain rfl := hH.symm
  show WP l Z hB _ _ _ _ _ _ _ _ [obj "com/example/dissect/dissect/ReachedRanges" ksRR [(rf hB 3), (.int (3 : Int32)), (rf hB 4), (rf hB 5), (.int (3 : Int32)), (rf hB 1), (rf hB 2)], ints [0, 0, 0, 0, 0, 0, 0, 0], ints [0, 0, 0, 0, 0, 0, 0, 0], ints [0, 1, 2, 0, 0, 0, 0, 0, 0, 0, 0, 0, 0, 0, 0, 0], ints [0, 1, 2, 0, 0, 0, 0, 0, 0, 0, 0, 0, 0, 0, 0, 0], ints [0, 1, 2, 0, 0, 0, 0, 0, 0, 0, 0, 0, 0, 0, 0, 0]] _ _ []
  refine Wk.iloadN (pc' := 119) at_118 rfl rfl ?_
  refine Wk.ifY (pc' := 128) at_119 (XT.i0_eq_t rfl) (by decide) (by decide) ?_
  refine Wk.aload (pc' := 130) at_128 rfl rfl rfl ?_
  refine Wk.callV (pc' := 133) (argsL := []) (st := []) at_130 (wd23 hw) (wd24 hw) (Wk.nfSel (wd26 hw)) (wd26 hw) (wd25 hw) (wd3 hw) (wd27 hw) (by decide) (lenOf pd_4 rfl) (fun _ P => P.exa rfl) (m_add l Z a0 hw hB (3 : Int32) (3 : Int32) [0, 0, 0, 0, 0, 0, 0, 0] [0, 0, 0, 0, 0, 0, 0, 0] [0, 1, 2, 0, 0, 0, 0, 0, 0, 0, 0, 0, 0, 0, 0, 0] [0, 1, 2, 0, 0, 0, 0, 0, 0, 0, 0, 0, 0, 0, 0, 0] [0, 1, 2, 0, 0, 0, 0, 0, 0, 0, 0, 0, 0, 0, 0, 0] ([0, 1, 2, 3, 0, 0, 0, 0, 0, 0, 0, 0, 0, 0, 0, 0], [0, 1, 2, 3, 0, 0, 0, 0, 0, 0, 0, 0, 0, 0, 0, 0], [0, 1, 2, 3, 0, 0, 0, 0, 0, 0, 0, 0, 0, 0, 0, 0], (4 : Int32), (4 : Int32)) (by decide +kernel)) rfl (Nat.le_of_ble_eq_true rfl) (Nat.le_of_ble_eq_true rfl) (Nat.le_of_ble_eq_true rfl) (Nat.le_of_ble_eq_true rfl) rfl rfl ?_
  rintro _ _ ⟨rfl, hH⟩; obtain rfl := hH.symm
  show WP l Z hB _ _ _ _ _ _ _ _ [obj "com/example/dissect/dissect/ReachedRanges" ksRR [(rf hB 3), (.int (4 : Int32)), (rf hB 4), (rf hB 5), (.int (4 : Int32)), (rf hB 1), (rf hB 2)], ints [0, 0, 0, 0, 0, 0, 0, 0], ints [0, 0, 0, 0, 0, 0, 0, 0], ints [0, 1, 2, 3, 0, 0, 0, 0, 0, 0, 0, 0, 0, 0, 0, 0], ints [0, 1, 2, 3, 0, 0, 0, 0, 0, 0, 0, 0, 0, 0, 0, 0], ints [0, 1, 2, 3, 0, 0, 0, 0, 0, 0, 0, 0, 0, 0, 0, 0]] _ _ []
  refine Wk.iload (pc' := 135) at_133 rfl rfl ?_
  refine Wk.ifN (pc' := 138) at_135 (XT.i0_eq_f (by decide)) rfl ?_
  refine Wk.aload (pc' := 140) at_138 rfl rfl rfl ?_
  refine Wk.iconst (pc' := 141) (1 : Int32) at_140 (by decide) rfl ?_
  refine Wk.callV (pc' := 144) (argsL := [(.int (1 : Int32))]) (st := []) at_141 (wd56 hw) (wd57 hw) (Wk.nfSel (wd59 hw)) (wd59 hw) (wd58 hw) (wd3 hw) (wd60 hw) (by decide) (lenOf pd_5 rfl) (fun _ P => P.exa rfl) (m_reach l Z a0 hw hB (4 : Int32) (4 : Int32) [0, 0, 0, 0, 0, 0, 0, 0] [0, 0, 0, 0, 0, 0, 0, 0] [0, 1, 2, 3, 0, 0, 0, 0, 0, 0, 0, 0, 0, 0, 0, 0] [0, 1, 2, 3, 0, 0, 0, 0, 0, 0, 0, 0, 0, 0, 0, 0] [0, 1, 2, 3, 0, 0, 0, 0, 0, 0, 0, 0, 0, 0, 0, 0] (1 : Int32) ((5 : Int32), [1, 3, 0, 0, 0, 0, 0, 0], [1, 3, 0, 0, 0, 0, 0, 0], [0, 1, 2, 1, 3, 0, 0, 0, 0, 0, 0, 0, 0, 0, 0, 0], [0, 1, 2, 1, 3, 0, 0, 0, 0, 0, 0, 0, 0, 0, 0, 0]) (by decide +kernel)) rfl (Nat.le_of_ble_eq_true rfl) (Nat.le_of_ble_eq_true rfl) (Nat.le_of_ble_eq_true rfl) (Nat.le_of_ble_eq_true rfl) rfl rfl ?_
  rintro _ _ ⟨rfl, hH⟩; obtain rfl := hH.symm
  show WP l Z hB _ _ _ _ _ _ _ _ [obj "com/example/dissect/dissect/ReachedRanges" ksRR [(rf hB 3), (.int (4 : Int32)), (rf hB 4), (rf hB 5), (.int (5 : Int32)), (rf hB 1), (rf hB 2)], ints [1, 3, 0, 0, 0, 0, 0, 0], ints [1, 3, 0, 0, 0, 0, 0, 0], ints [0, 1, 2, 3, 0, 0, 0, 0, 0, 0, 0, 0, 0, 0, 0, 0], ints [0, 1, 2, 1, 3, 0, 0, 0, 0, 0, 0, 0, 0, 0, 0, 0], ints [0, 1, 2, 1, 3, 0, 0, 0, 0, 0, 0, 0, 0, 0, 0, 0]] _ _ []
  refine Wk.aload (pc' := 146) at_144 rfl rfl rfl ?_
  refine Wk.callV (pc' := 149) (argsL := []) (st := []) at_146 (wd23 hw) (wd24 hw) (Wk.nfSel (wd26 hw)) (wd26 hw) (wd25 hw) (wd3 hw) (wd27 hw) (by decide) (lenOf pd_4 rfl) (fun _ P => P.exa rfl) (m_add l Z a0 hw hB (4 : Int32) (5 : Int32) [1, 3, 0, 0, 0, 0, 0, 0] [1, 3, 0, 0, 0, 0, 0, 0] [0, 1, 2, 3, 0, 0, 0, 0, 0, 0, 0, 0, 0, 0, 0, 0] [0, 1, 2, 1, 3, 0, 0, 0, 0, 0, 0, 0, 0, 0, 0, 0] [0, 1, 2, 1, 3, 0, 0, 0, 0, 0, 0, 0, 0, 0, 0, 0] ([0, 1, 2, 3, 5, 0, 0, 0, 0, 0, 0, 0, 0, 0, 0, 0], [0, 1, 2, 1, 3, 4, 0, 0, 0, 0, 0, 0, 0, 0, 0, 0], [0, 1, 2, 1, 3, 4, 0, 0, 0, 0, 0, 0, 0, 0, 0, 0], (6 : Int32), (5 : Int32)) (by decide +kernel)) rfl (Nat.le_of_ble_eq_true rfl) (Nat.le_of_ble_eq_true rfl) (Nat.le_of_ble_eq_true rfl) (Nat.le_of_ble_eq_true rfl) rfl rfl ?_
  rintro _ _ ⟨rfl, hH⟩; obtain rfl := hH.symm
  show WP l Z hB _ _ _ _ _ _ _ _ [obj "com/example/dissect/dissect/ReachedRanges" ksRR [(rf hB 3), (.int (5 : Int32)), (rf hB 4), (rf hB 5), (.int (6 : Int32)), (rf hB 1), (rf hB 2)], ints [1, 3, 0, 0, 0, 0, 0, 0], ints [1, 3, 0, 0, 0, 0, 0, 0], ints [0, 1, 2, 3, 5, 0, 0, 0, 0, 0, 0, 0, 0, 0, 0, 0], ints [0, 1, 2, 1, 3, 4, 0, 0, 0, 0, 0, 0, 0, 0, 0, 0], ints [0, 1, 2, 1, 3, 4, 0, 0, 0, 0, 0, 0, 0, 0, 0, 0]] _ _ []
  refine Wk.iload (pc' := 151) at_149 rfl rfl ?_
  refine Wk.ifN (pc' := 154) at_151 (XT.i0_eq_f (by decide)) rfl ?_
  refine Wk.aload (pc' := 156) at_154 rfl rfl rfl ?_
  refine Wk.iconst (pc' := 157) (3 : Int32) at_156 (by decide) rfl ?_
  refine Wk.callV (pc' := 160) (argsL := [(.int (3 : Int32))]) (st := []) at_157 (wd56 hw) (wd57 hw) (Wk.nfSel (wd59 hw)) (wd59 hw) (wd58 hw) (wd3 hw) (wd60 hw) (by decide) (lenOf pd_5 rfl) (fun _ P => P.exa rfl) (m_reach l Z a0 hw hB (5 : Int32) (6 : Int32) [1, 3, 0, 0, 0, 0, 0, 0] [1, 3, 0, 0, 0, 0, 0, 0] [0, 1, 2, 3, 5, 0, 0, 0, 0, 0, 0, 0, 0, 0, 0, 0] [0, 1, 2, 1, 3, 4, 0, 0, 0, 0, 0, 0, 0, 0, 0, 0] [0, 1, 2, 1, 3, 4, 0, 0, 0, 0, 0, 0, 0, 0, 0, 0] (3 : Int32) ((7 : Int32), [1, 3, 0, 0, 0, 0, 0, 0], [1, 4, 0, 0, 0, 0, 0, 0], [0, 1, 2, 1, 3, 1, 3, 0, 0, 0, 0, 0, 0, 0, 0, 0], [0, 1, 2, 1, 3, 1, 4, 0, 0, 0, 0, 0, 0, 0, 0, 0]) (by decide +kernel)) rfl (Nat.le_of_ble_eq_true rfl) (Nat.le_of_ble_eq_true rfl) (Nat.le_of_ble_eq_true rfl) (Nat.le_of_ble_eq_true rfl) rfl rfl ?_
  rintro _ _ ⟨rfl, hH⟩; obtain rfl := hH.symm
  show WP l Z hB _ _ _ _ _ _ _ _ [obj "com/example/dissect/dissect/ReachedRanges" ksRR [(rf hB 3), (.int (5 : Int32)), (rf hB 4), (rf hB 5), (.int (7 : Int32)), (rf hB 1), (rf hB 2)], ints [1, 3, 0, 0, 0, 0, 0, 0], ints [1, 4, 0, 0, 0, 0, 0, 0], ints [0, 1, 2, 3, 5, 0, 0, 0, 0, 0, 0, 0, 0, 0, 0, 0], ints [0, 1, 2, 1, 3, 1, 3, 0, 0, 0, 0, 0, 0, 0, 0, 0], ints [0, 1, 2, 1, 3, 1, 4, 0, 0, 0, 0, 0, 0, 0, 0, 0]] _ _ []
  refine Wk.iload (pc' := 162) at_160 rfl rfl ?_
  refine Wk.ifN (pc' := 165) at_162 (XT.i0_eq_f (by decide)) rfl ?_
  refine Wk.aload (pc' := 167) at_165 rfl rfl rfl ?_
  refine Wk.iconst (pc' := 168) (2 : Int32) at_167 (by decide) rfl ?_
  refine Wk.callV (pc' := 171) (argsL := [(.int (2 : Int32))]) (st := []) at_168 (wd56 hw) (wd57 hw) (Wk.nfSel (wd59 hw)) (wd59 hw) (wd58 hw) (wd3 hw) (wd60 hw) (by decide) (lenOf pd_5 rfl) (fun _ P => P.exa rfl) (m_reach l Z a0 hw hB (5 : Int32) (7 : Int32) [1, 3, 0, 0, 0, 0, 0, 0] [1, 4, 0, 0, 0, 0, 0, 0] [0, 1, 2, 3, 5, 0, 0, 0, 0, 0, 0, 0, 0, 0, 0, 0] [0, 1, 2, 1, 3, 1, 3, 0, 0, 0, 0, 0, 0, 0, 0, 0] [0, 1, 2, 1, 3, 1, 4, 0, 0, 0, 0, 0, 0, 0, 0, 0] (2 : Int32) ((6 : Int32), [1, 3, 0, 0, 0, 0, 0, 0], [4, 4, 0, 0, 0, 0, 0, 0], [0, 1, 2, 1, 3, 1, 3, 0, 0, 0, 0, 0, 0, 0, 0, 0], [0, 1, 2, 1, 3, 4, 4, 0, 0, 0, 0, 0, 0, 0, 0, 0]) (by decide +kernel)) rfl (Nat.le_of_ble_eq_true rfl) (Nat.le_of_ble_eq_true rfl) (Nat.le_of_ble_eq_true rfl) (Nat.le_of_ble_eq_true rfl) rfl rfl ?_
  rintro _ _ ⟨rfl, hH⟩; obtain rfl := hH.symm
  show WP l Z hB _ _ _ _ _ _ _ _ [obj "com/example/dissect/dissect/ReachedRanges" ksRR [(rf hB 3), (.int (5 : Int32)), (rf hB 4), (rf hB 5), (.int (6 : Int32)), (rf hB 1), (rf hB 2)], ints [1, 3, 0, 0, 0, 0, 0, 0], ints [4, 4, 0, 0, 0, 0, 0, 0], ints [0, 1, 2, 3, 5, 0, 0, 0, 0, 0, 0, 0, 0, 0, 0, 0], ints [0, 1, 2, 1, 3, 1, 3, 0, 0, 0, 0, 0, 0, 0, 0, 0], ints [0, 1, 2, 1, 3, 4, 4, 0, 0, 0, 0, 0, 0, 0, 0, 0]] _ _ []
  exact m_B l Z a0 hw hB x0 x1 x2 (0 : Int32) (1 : Int32) (1 : Int32) (1 : Int32) wd f t [obj "com/example/dissect/dissect/ReachedRanges" ksRR [(rf hB 3), (.int (5 : Int32)), (rf hB 4), (rf hB 5), (.int (6 : Int32)), (rf hB 1), (rf hB 2)], ints [1, 3, 0, 0, 0, 0, 0, 0], ints [4, 4, 0, 0, 0, 0, 0, 0], ints [0, 1, 2, 3, 5, 0, 0, 0, 0, 0, 0, 0, 0, 0, 0, 0], ints [0, 1, 2, 1, 3, 1, 3, 0, 0, 0, 0, 0, 0, 0, 0, 0], ints [0, 1, 2, 1, 3, 4, 4, 0, 0, 0, 0, 0, 0, 0, 0, 0]] _ rfl (Nat.le_of_ble_eq_true rfl) _ (Nat.le_of_ble_eq_true rfl) (by have h := m_may l Z a0 hw hB (5 : Int32) (6 : Int32) [1, 3, 0, 0, 0, 0, 0, 0] [4, 4, 0, 0, 0, 0, 0, 0] [0, 1, 2, 3, 5, 0, 0, 0, 0, 0, 0, 0, 0, 0, 0, 0] [0, 1, 2, 1, 3, 1, 3, 0, 0, 0, 0, 0, 0, 0, 0, 0] [0, 1, 2, 1, 3, 4, 4, 0, 0, 0, 0, 0, 0, 0, 0, 0] f t _ (ok_0111 f t hf0 hf4); rw [expB_nar] at h; exact h)
set_option maxRecDepth 65536 in
set_option maxHeartbeats 40000000 in
theorem m_94_1000 (l : Launch) (Z : State) (a0 : Array Value) (hw : ∀ d ∈ tables_1, d.before a0 Z = true) (hB : Heap) (x0 x1 x2 wd f t : Int32) (no : Addr) (cl : Cell) (sN : Sta Z hB "com/example/dissect/dissect/ReachedRanges" "NO_INTS" "[I" (.ref no)) (A : Arr Z hB no cl .int) (hz : cl.slots.size = 0) (hf0 : 0 ≤ f.toInt) (hf4 : f.toInt ≤ 4) : WP l Z hB x code maxLocals ret room_1 0 (fun v _ => v = some (.int 1)) 0 [] 94 #[.val (.int x0), .val (.int x1), .val (.int x2), .val (.int (1 : Int32)), .val (.int (0 : Int32)), .val (.int (0 : Int32)), .val (.int (0 : Int32)), .val (.int wd), .val (.int f), .val (.int t), .unset, .unset, .unset, .unset, .unset, .unset] [] := by
  refine Wk.newObj (pc' := 97) (i := 0) (H' := [obj "com/example/dissect/dissect/ReachedRanges" ksRR [.null, (.int (0 : Int32)), .null, .null, (.int (0 : Int32)), .null, .null]]) at_94 (wd1 hw) (wd2 hw) (wd3 hw) (ksRR_laid hw) (ksRR_dist hw) (Nat.le_of_ble_eq_true rfl) (Nat.le_of_ble_eq_true rfl) rfl rfl rfl ?_
  refine Wk.dup (pc' := 98) at_97 rfl rfl ?_
  refine Wk.callI (pc' := 101) (argsL := []) (st := [(rf hB 0)]) at_98 rfl (wd4 hw) (wd5 hw) (wd3 hw) (wd6 hw) (by decide) (lenOf pd_4 rfl) (m_init l Z a0 hw hB no cl sN A hz) rfl (Nat.le_of_ble_eq_true rfl) (Nat.le_of_ble_eq_true rfl) (Nat.le_of_ble_eq_true rfl) (Nat.le_of_ble_eq_true rfl) rfl rfl ?_
  rintro _ _ ⟨rfl, hH⟩; obtain rfl := hH.symm
  show WP l Z hB _ _ _ _ _ _ _ _ [obj "com/example/dissect/dissect/ReachedRanges" ksRR [(.ref no), (.int (0 : Int32)), (.ref no), (.ref no), (.int (0 : Int32)), (rf hB 1), (rf hB 2)], ints [0, 0, 0, 0, 0, 0, 0, 0], ints [0, 0, 0, 0, 0, 0, 0, 0]] _ _ [(rf hB 0)]
  refine Wk.astore (pc' := 103) (Ls' := #[.val (.int x0), .val (.int x1), .val (.int x2), .val (.int (1 : Int32)), .val (.int (0 : Int32)), .val (.int (0 : Int32)), .val (.int (0 : Int32)), .val (.int wd), .val (.int f), .val (.int t), .val (rf hB 0), .unset, .unset, .unset, .unset, .unset]) at_101 rfl rfl rfl ?_
  refine Wk.aload (pc' := 105) at_103 rfl rfl rfl ?_
  refine Wk.callV (pc' := 108) (argsL := []) (st := []) at_105 (wd23 hw) (wd24 hw) (Wk.nfSel (wd26 hw)) (wd26 hw) (wd25 hw) (wd3 hw) (wd27 hw) (by decide) (lenOf pd_4 rfl) (fun _ P => P.exa rfl) (m_add0 l Z a0 hw hB no cl sN A hz) rfl (Nat.le_of_ble_eq_true rfl) (Nat.le_of_ble_eq_true rfl) (Nat.le_of_ble_eq_true rfl) (Nat.le_of_ble_eq_true rfl) rfl rfl ?_
  rintro _ _ ⟨rfl, hH⟩; obtain rfl := hH.symm
  show WP l Z hB _ _ _ _ _ _ _ _ [obj "com/example/dissect/dissect/ReachedRanges" ksRR [(rf hB 3), (.int (1 : Int32)), (rf hB 4), (rf hB 5), (.int (1 : Int32)), (rf hB 1), (rf hB 2)], ints [0, 0, 0, 0, 0, 0, 0, 0], ints [0, 0, 0, 0, 0, 0, 0, 0], ints [0, 0, 0, 0, 0, 0, 0, 0, 0, 0, 0, 0, 0, 0, 0, 0], ints [0, 0, 0, 0, 0, 0, 0, 0, 0, 0, 0, 0, 0, 0, 0, 0], ints [0, 0, 0, 0, 0, 0, 0, 0, 0, 0, 0, 0, 0, 0, 0, 0]] _ _ []
  refine Wk.aload (pc' := 110) at_108 rfl rfl rfl ?_
  refine Wk.callV (pc' := 113) (argsL := []) (st := []) at_110 (wd23 hw) (wd24 hw) (Wk.nfSel (wd26 hw)) (wd26 hw) (wd25 hw) (wd3 hw) (wd27 hw) (by decide) (lenOf pd_4 rfl) (fun _ P => P.exa rfl) (m_add l Z a0 hw hB (1 : Int32) (1 : Int32) [0, 0, 0, 0, 0, 0, 0, 0] [0, 0, 0, 0, 0, 0, 0, 0] [0, 0, 0, 0, 0, 0, 0, 0, 0, 0, 0, 0, 0, 0, 0, 0] [0, 0, 0, 0, 0, 0, 0, 0, 0, 0, 0, 0, 0, 0, 0, 0] [0, 0, 0, 0, 0, 0, 0, 0, 0, 0, 0, 0, 0, 0, 0, 0] ([0, 1, 0, 0, 0, 0, 0, 0, 0, 0, 0, 0, 0, 0, 0, 0], [0, 1, 0, 0, 0, 0, 0, 0, 0, 0, 0, 0, 0, 0, 0, 0], [0, 1, 0, 0, 0, 0, 0, 0, 0, 0, 0, 0, 0, 0, 0, 0], (2 : Int32), (2 : Int32)) (by decide +kernel)) rfl (Nat.le_of_ble_eq_true rfl) (Nat.le_of_ble_eq_true rfl) (Nat.le_of_ble_eq_true rfl) (Nat.le_of_ble_eq_true rfl) rfl rfl ?_
  rintro _ _ ⟨rfl, hH⟩; obtain rfl := hH.symm
  show WP l Z hB _ _ _ _ _ _ _ _ [obj "com/example/dissect/dissect/ReachedRanges" ksRR [(rf hB 3), (.int (2 : Int32)), (rf hB 4), (rf hB 5), (.int (2 : Int32)), (rf hB 1), (rf hB 2)], ints [0, 0, 0, 0, 0, 0, 0, 0], ints [0, 0, 0, 0, 0, 0, 0, 0], ints [0, 1, 0, 0, 0, 0, 0, 0, 0, 0, 0, 0, 0, 0, 0, 0], ints [0, 1, 0, 0, 0, 0, 0, 0, 0, 0, 0, 0, 0, 0, 0, 0], ints [0, 1, 0, 0, 0, 0, 0, 0, 0, 0, 0, 0, 0, 0, 0, 0]] _ _ []
  refine Wk.aload (pc' := 115) at_113 rfl rfl rfl ?_
  refine Wk.callV (pc' := 118) (argsL := []) (st := []) at_115 (wd23 hw) (wd24 hw) (Wk.nfSel (wd26 hw)) (wd26 hw) (wd25 hw) (wd3 hw) (wd27 hw) (by decide) (lenOf pd_4 rfl) (fun _ P => P.exa rfl) (m_add l Z a0 hw hB (2 : Int32) (2 : Int32) [0, 0, 0, 0, 0, 0, 0, 0] [0, 0, 0, 0, 0, 0, 0, 0] [0, 1, 0, 0, 0, 0, 0, 0, 0, 0, 0, 0, 0, 0, 0, 0] [0, 1, 0, 0, 0, 0, 0, 0, 0, 0, 0, 0, 0, 0, 0, 0] [0, 1, 0, 0, 0, 0, 0, 0, 0, 0, 0, 0, 0, 0, 0, 0] ([0, 1, 2, 0, 0, 0, 0, 0, 0, 0, 0, 0, 0, 0, 0, 0], [0, 1, 2, 0, 0, 0, 0, 0, 0, 0, 0, 0, 0, 0, 0, 0], [0, 1, 2, 0, 0, 0, 0, 0, 0, 0, 0, 0, 0, 0, 0, 0], (3 : Int32), (3 : Int32)) (by decide +kernel)) rfl (Nat.le_of_ble_eq_true rfl) (Nat.le_of_ble_eq_true rfl) (Nat.le_of_ble_eq_true rfl) (Nat.le_of_ble_eq_true rfl) rfl rfl ?_
  rintro _ _ ⟨rfl, hH⟩; obtain rfl := hH.symm
  show WP l Z hB _ _ _ _ _ _ _ _ [obj "com/example/dissect/dissect/ReachedRanges" ksRR [(rf hB 3), (.int (3 : Int32)), (rf hB 4), (rf hB 5), (.int (3 : Int32)), (rf hB 1), (rf hB 2)], ints [0, 0, 0, 0, 0, 0, 0, 0], ints [0, 0, 0, 0, 0, 0, 0, 0], ints [0, 1, 2, 0, 0, 0, 0, 0, 0, 0, 0, 0, 0, 0, 0, 0], ints [0, 1, 2, 0, 0, 0, 0, 0, 0, 0, 0, 0, 0, 0, 0, 0], ints [0, 1, 2, 0, 0, 0, 0, 0, 0, 0, 0, 0, 0, 0, 0, 0]] _ _ []
  refine Wk.iloadN (pc' := 119) at_118 rfl rfl ?_
  refine Wk.ifN (pc' := 122) at_119 (XT.i0_eq_f (by decide)) rfl ?_
  refine Wk.aload (pc' := 124) at_122 rfl rfl rfl ?_
  refine Wk.iconst (pc' := 125) (0 : Int32) at_124 (by decide) rfl ?_
  refine Wk.callV (pc' := 128) (argsL := [(.int (0 : Int32))]) (st := []) at_125 (wd56 hw) (wd57 hw) (Wk.nfSel (wd59 hw)) (wd59 hw) (wd58 hw) (wd3 hw) (wd60 hw) (by decide) (lenOf pd_5 rfl) (fun _ P => P.exa rfl) (m_reach l Z a0 hw hB (3 : Int32) (3 : Int32) [0, 0, 0, 0, 0, 0, 0, 0] [0, 0, 0, 0, 0, 0, 0, 0] [0, 1, 2, 0, 0, 0, 0, 0, 0, 0, 0, 0, 0, 0, 0, 0] [0, 1, 2, 0, 0, 0, 0, 0, 0, 0, 0, 0, 0, 0, 0, 0] [0, 1, 2, 0, 0, 0, 0, 0, 0, 0, 0, 0, 0, 0, 0, 0] (0 : Int32) ((4 : Int32), [0, 2, 0, 0, 0, 0, 0, 0], [0, 2, 0, 0, 0, 0, 0, 0], [0, 1, 0, 2, 0, 0, 0, 0, 0, 0, 0, 0, 0, 0, 0, 0], [0, 1, 0, 2, 0, 0, 0, 0, 0, 0, 0, 0, 0, 0, 0, 0]) (by decide +kernel)) rfl (Nat.le_of_ble_eq_true rfl) (Nat.le_of_ble_eq_true rfl) (Nat.le_of_ble_eq_true rfl) (Nat.le_of_ble_eq_true rfl) rfl rfl ?_
  rintro _ _ ⟨rfl, hH⟩; obtain rfl := hH.symm
  show WP l Z hB _ _ _ _ _ _ _ _ [obj "com/example/dissect/dissect/ReachedRanges" ksRR [(rf hB 3), (.int (3 : Int32)), (rf hB 4), (rf hB 5), (.int (4 : Int32)), (rf hB 1), (rf hB 2)], ints [0, 2, 0, 0, 0, 0, 0, 0], ints [0, 2, 0, 0, 0, 0, 0, 0], ints [0, 1, 2, 0, 0, 0, 0, 0, 0, 0, 0, 0, 0, 0, 0, 0], ints [0, 1, 0, 2, 0, 0, 0, 0, 0, 0, 0, 0, 0, 0, 0, 0], ints [0, 1, 0, 2, 0, 0, 0, 0, 0, 0, 0, 0, 0, 0, 0, 0]] _ _ []
  refine Wk.aload (pc' := 130) at_128 rfl rfl rfl ?_
  refine Wk.callV (pc' := 133) (argsL := []) (st := []) at_130 (wd23 hw) (wd24 hw) (Wk.nfSel (wd26 hw)) (wd26 hw) (wd25 hw) (wd3 hw) (wd27 hw) (by decide) (lenOf pd_4 rfl) (fun _ P => P.exa rfl) (m_add l Z a0 hw hB (3 : Int32) (4 : Int32) [0, 2, 0, 0, 0, 0, 0, 0] [0, 2, 0, 0, 0, 0, 0, 0] [0, 1, 2, 0, 0, 0, 0, 0, 0, 0, 0, 0, 0, 0, 0, 0] [0, 1, 0, 2, 0, 0, 0, 0, 0, 0, 0, 0, 0, 0, 0, 0] [0, 1, 0, 2, 0, 0, 0, 0, 0, 0, 0, 0, 0, 0, 0, 0] ([0, 1, 2, 4, 0, 0, 0, 0, 0, 0, 0, 0, 0, 0, 0, 0], [0, 1, 0, 2, 3, 0, 0, 0, 0, 0, 0, 0, 0, 0, 0, 0], [0, 1, 0, 2, 3, 0, 0, 0, 0, 0, 0, 0, 0, 0, 0, 0], (5 : Int32), (4 : Int32)) (by decide +kernel)) rfl (Nat.le_of_ble_eq_true rfl) (Nat.le_of_ble_eq_true rfl) (Nat.le_of_ble_eq_true rfl) (Nat.le_of_ble_eq_true rfl) rfl rfl ?_
  rintro _ _ ⟨rfl, hH⟩; obtain rfl := hH.symm
  show WP l Z hB _ _ _ _ _ _ _ _ [obj "com/example/dissect/dissect/ReachedRanges" ksRR [(rf hB 3), (.int (4 : Int32)), (rf hB 4), (rf hB 5), (.int (5 : Int32)), (rf hB 1), (rf hB 2)], ints [0, 2, 0, 0, 0, 0, 0, 0], ints [0, 2, 0, 0, 0, 0, 0, 0], ints [0, 1, 2, 4, 0, 0, 0, 0, 0, 0, 0, 0, 0, 0, 0, 0], ints [0, 1, 0, 2, 3, 0, 0, 0, 0, 0, 0, 0, 0, 0, 0, 0], ints [0, 1, 0, 2, 3, 0, 0, 0, 0, 0, 0, 0, 0, 0, 0, 0]] _ _ []
  refine Wk.iload (pc' := 135) at_133 rfl rfl ?_
  refine Wk.ifY (pc' := 144) at_135 (XT.i0_eq_t rfl) (by decide) (by decide) ?_
  refine Wk.aload (pc' := 146) at_144 rfl rfl rfl ?_
  refine Wk.callV (pc' := 149) (argsL := []) (st := []) at_146 (wd23 hw) (wd24 hw) (Wk.nfSel (wd26 hw)) (wd26 hw) (wd25 hw) (wd3 hw) (wd27 hw) (by decide) (lenOf pd_4 rfl) (fun _ P => P.exa rfl) (m_add l Z a0 hw hB (4 : Int32) (5 : Int32) [0, 2, 0, 0, 0, 0, 0, 0] [0, 2, 0, 0, 0, 0, 0, 0] [0, 1, 2, 4, 0, 0, 0, 0, 0, 0, 0, 0, 0, 0, 0, 0] [0, 1, 0, 2, 3, 0, 0, 0, 0, 0, 0, 0, 0, 0, 0, 0] [0, 1, 0, 2, 3, 0, 0, 0, 0, 0, 0, 0, 0, 0, 0, 0] ([0, 1, 2, 4, 5, 0, 0, 0, 0, 0, 0, 0, 0, 0, 0, 0], [0, 1, 0, 2, 3, 4, 0, 0, 0, 0, 0, 0, 0, 0, 0, 0], [0, 1, 0, 2, 3, 4, 0, 0, 0, 0, 0, 0, 0, 0, 0, 0], (6 : Int32), (5 : Int32)) (by decide +kernel)) rfl (Nat.le_of_ble_eq_true rfl) (Nat.le_of_ble_eq_true rfl) (Nat.le_of_ble_eq_true rfl) (Nat.le_of_ble_eq_true rfl) rfl rfl ?_
  rintro _ _ ⟨rfl, hH⟩; obtain rfl := hH.symm
  show WP l Z hB _ _ _ _ _ _ _ _ [obj "com/example/dissect/dissect/ReachedRanges" ksRR [(rf hB 3), (.int (5 : Int32)), (rf hB 4), (rf hB 5), (.int (6 : Int32)), (rf hB 1), (rf hB 2)], ints [0, 2, 0, 0, 0, 0, 0, 0], ints [0, 2, 0, 0, 0, 0, 0, 0], ints [0, 1, 2, 4, 5, 0, 0, 0, 0, 0, 0, 0, 0, 0, 0, 0], ints [0, 1, 0, 2, 3, 4, 0, 0, 0, 0, 0, 0, 0, 0, 0, 0], ints [0, 1, 0, 2, 3, 4, 0, 0, 0, 0, 0, 0, 0, 0, 0, 0]] _ _ []
  refine Wk.iload (pc' := 151) at_149 rfl rfl ?_
  refine Wk.ifY (pc' := 160) at_151 (XT.i0_eq_t rfl) (by decide) (by decide) ?_
  refine Wk.iload (pc' := 162) at_160 rfl rfl ?_
  refine Wk.ifY (pc' := 171) at_162 (XT.i0_eq_t rfl) (by decide) (by decide) ?_
  exact m_B l Z a0 hw hB x0 x1 x2 (1 : Int32) (0 : Int32) (0 : Int32) (0 : Int32) wd f t [obj "com/example/dissect/dissect/ReachedRanges" ksRR [(rf hB 3), (.int (5 : Int32)), (rf hB 4), (rf hB 5), (.int (6 : Int32)), (rf hB 1), (rf hB 2)], ints [0, 2, 0, 0, 0, 0, 0, 0], ints [0, 2, 0, 0, 0, 0, 0, 0], ints [0, 1, 2, 4, 5, 0, 0, 0, 0, 0, 0, 0, 0, 0, 0, 0], ints [0, 1, 0, 2, 3, 4, 0, 0, 0, 0, 0, 0, 0, 0, 0, 0], ints [0, 1, 0, 2, 3, 4, 0, 0, 0, 0, 0, 0, 0, 0, 0, 0]] _ rfl (Nat.le_of_ble_eq_true rfl) _ (Nat.le_of_ble_eq_true rfl) (by have h := m_may l Z a0 hw hB (5 : Int32) (6 : Int32) [0, 2, 0, 0, 0, 0, 0, 0] [0, 2, 0, 0, 0, 0, 0, 0] [0, 1, 2, 4, 5, 0, 0, 0, 0, 0, 0, 0, 0, 0, 0, 0] [0, 1, 0, 2, 3, 4, 0, 0, 0, 0, 0, 0, 0, 0, 0, 0] [0, 1, 0, 2, 3, 4, 0, 0, 0, 0, 0, 0, 0, 0, 0, 0] f t _ (ok_1000 f t hf0 hf4); rw [expB_nar] at h; exact h)
set_option maxRecDepth 65536 in
set_option maxHeartbeats 40000000 in
theorem m_94_1001 (l : Launch) (Z : State) (a0 : Array Value) (hw : ∀ d ∈ tables_1, d.before a0 Z = true) (hB : Heap) (x0 x1 x2 wd f t : Int32) (no : Addr) (cl : Cell) (sN : Sta Z hB "com/example/dissect/dissect/ReachedRanges" "NO_INTS" "[I" (.ref no)) (A : Arr Z hB no cl .int) (hz : cl.slots.size = 0) (hf0 : 0 ≤ f.toInt) (hf4 : f.toInt ≤ 4) : WP l Z hB x code maxLocals ret room_1 0 (fun v _ => v = some (.int 1)) 0 [] 94 #[.val (.int x0), .val (.int x1), .val (.int x2), .val (.int (1 : Int32)), .val (.int (0 : Int32)), .val (.int (0 : Int32)), .val (.int (1 : Int32)), .val (.int wd), .val (.int f), .val (.int t), .unset, .unset, .unset, .unset, .unset, .unset] [] := by
  refine Wk.newObj (pc' := 97) (i := 0) (H' := [obj "com/example/dissect/dissect/ReachedRanges" ksRR [.null, (.int (0 : Int32)), .null, .null, (.int (0 : Int32)), .null, .null]]) at_94 (wd1 hw) (wd2 hw) (wd3 hw) (ksRR_laid hw) (ksRR_dist hw) (Nat.le_of_ble_eq_true rfl) (Nat.le_of_ble_eq_true rfl) rfl rfl rfl ?_
  refine Wk.dup (pc' := 98) at_97 rfl rfl ?_
  refine Wk.callI (pc' := 101) (argsL := []) (st := [(rf hB 0)]) at_98 rfl (wd4 hw) (wd5 hw) (wd3 hw) (wd6 hw) (by decide) (lenOf pd_4 rfl) (m_init l Z a0 hw hB no cl sN A hz) rfl (Nat.le_of_ble_eq_true rfl) (Nat.le_of_ble_eq_true rfl) (Nat.le_of_ble_eq_true rfl) (Nat.le_of_ble_eq_true rfl) rfl rfl ?_
  rintro _ _ ⟨rfl, hH⟩; obtain rfl := hH.symm
  show WP l Z hB _ _ _ _ _ _ _ _ [obj "com/example/dissect/dissect/ReachedRanges" ksRR [(.ref no), (.int (0 : Int32)), (.ref no), (.ref no), (.int (0 : Int32)), (rf hB 1), (rf hB 2)], ints [0, 0, 0, 0, 0, 0, 0, 0], ints [0, 0, 0, 0, 0, 0, 0, 0]] _ _ [(rf hB 0)]
  refine Wk.astore (pc' := 103) (Ls' := #[.val (.int x0), .val (.int x1), .val (.int x2), .val (.int (1 : Int32)), .val (.int (0 : Int32)), .val (.int (0 : Int32)), .val (.int (1 : Int32)), .val (.int wd), .val (.int f), .val (.int t), .val (rf hB 0), .unset, .unset, .unset, .unset, .unset]) at_101 rfl rfl rfl ?_
  refine Wk.aload (pc' := 105) at_103 rfl rfl rfl ?_
  refine Wk.callV (pc' := 108) (argsL := []) (st := []) at_105 (wd23 hw) (wd24 hw) (Wk.nfSel (wd26 hw)) (wd26 hw) (wd25 hw) (wd3 hw) (wd27 hw) (by decide) (lenOf pd_4 rfl) (fun _ P => P.exa rfl) (m_add0 l Z a0 hw hB no cl sN A hz) rfl (Nat.le_of_ble_eq_true rfl) (Nat.le_of_ble_eq_true rfl) (Nat.le_of_ble_eq_true rfl) (Nat.le_of_ble_eq_true rfl) rfl rfl ?_
  rintro _ _ ⟨rfl, hH⟩; obtain rfl := hH.symm
  show WP l Z hB _ _ _ _ _ _ _ _ [obj "com/example/dissect/dissect/ReachedRanges" ksRR [(rf hB 3), (.int (1 : Int32)), (rf hB 4), (rf hB 5), (.int (1 : Int32)), (rf hB 1), (rf hB 2)], ints [0, 0, 0, 0, 0, 0, 0, 0], ints [0, 0, 0, 0, 0, 0, 0, 0], ints [0, 0, 0, 0, 0, 0, 0, 0, 0, 0, 0, 0, 0, 0, 0, 0], ints [0, 0, 0, 0, 0, 0, 0, 0, 0, 0, 0, 0, 0, 0, 0, 0], ints [0, 0, 0, 0, 0, 0, 0, 0, 0, 0, 0, 0, 0, 0, 0, 0]] _ _ []
  refine Wk.aload (pc' := 110) at_108 rfl rfl rfl ?_
  refine Wk.callV (pc' := 113) (argsL := []) (st := []) at_110 (wd23 hw) (wd24 hw) (Wk.nfSel (wd26 hw)) (wd26 hw) (wd25 hw) (wd3 hw) (wd27 hw) (by decide) (lenOf pd_4 rfl) (fun _ P => P.exa rfl) (m_add l Z a0 hw hB (1 : Int32) (1 : Int32) [0, 0, 0, 0, 0, 0, 0, 0] [0, 0, 0, 0, 0, 0, 0, 0] [0, 0, 0, 0, 0, 0, 0, 0, 0, 0, 0, 0, 0, 0, 0, 0] [0, 0, 0, 0, 0, 0, 0, 0, 0, 0, 0, 0, 0, 0, 0, 0] [0, 0, 0, 0, 0, 0, 0, 0, 0, 0, 0, 0, 0, 0, 0, 0] ([0, 1, 0, 0, 0, 0, 0, 0, 0, 0, 0, 0, 0, 0, 0, 0], [0, 1, 0, 0, 0, 0, 0, 0, 0, 0, 0, 0, 0, 0, 0, 0], [0, 1, 0, 0, 0, 0, 0, 0, 0, 0, 0, 0, 0, 0, 0, 0], (2 : Int32), (2 : Int32)) (by decide +kernel)) rfl (Nat.le_of_ble_eq_true rfl) (Nat.le_of_ble_eq_true rfl) (Nat.le_of_ble_eq_true rfl) (Nat.le_of_ble_eq_true rfl) rfl rfl ?_
  rintro _ _ ⟨rfl, hH⟩; obtain rfl := hH.symm
  show WP l Z hB _ _ _ _ _ _ _ _ [obj "com/example/dissect/dissect/ReachedRanges" ksRR [(rf hB 3), (.int (2 : Int32)), (rf hB 4), (rf hB 5), (.int (2 : Int32)), (rf hB 1), (rf hB 2)], ints [0, 0, 0, 0, 0, 0, 0, 0], ints [0, 0, 0, 0, 0, 0, 0, 0], ints [0, 1, 0, 0, 0, 0, 0, 0, 0, 0, 0, 0, 0, 0, 0, 0], ints [0, 1, 0, 0, 0, 0, 0, 0, 0, 0, 0, 0, 0, 0, 0, 0], ints [0, 1, 0, 0, 0, 0, 0, 0, 0, 0, 0, 0, 0, 0, 0, 0]] _ _ []
  refine Wk.aload (pc' := 115) at_113 rfl rfl rfl ?_
  refine Wk.callV (pc' := 118) (argsL := []) (st := []) at_115 (wd23 hw) (wd24 hw) (Wk.nfSel (wd26 hw)) (wd26 hw) (wd25 hw) (wd3 hw) (wd27 hw) (by decide) (lenOf pd_4 rfl) (fun _ P => P.exa rfl) (m_add l Z a0 hw hB (2 : Int32) (2 : Int32) [0, 0, 0, 0, 0, 0, 0, 0] [0, 0, 0, 0, 0, 0, 0, 0] [0, 1, 0, 0, 0, 0, 0, 0, 0, 0, 0, 0, 0, 0, 0, 0] [0, 1, 0, 0, 0, 0, 0, 0, 0, 0, 0, 0, 0, 0, 0, 0] [0, 1, 0, 0, 0, 0, 0, 0, 0, 0, 0, 0, 0, 0, 0, 0] ([0, 1, 2, 0, 0, 0, 0, 0, 0, 0, 0, 0, 0, 0, 0, 0], [0, 1, 2, 0, 0, 0, 0, 0, 0, 0, 0, 0, 0, 0, 0, 0], [0, 1, 2, 0, 0, 0, 0, 0, 0, 0, 0, 0, 0, 0, 0, 0], (3 : Int32), (3 : Int32)) (by decide +kernel)) rfl (Nat.le_of_ble_eq_true rfl) (Nat.le_of_ble_eq_true rfl) (Nat.le_of_ble_eq_true rfl) (Nat.le_of_ble_eq_true rfl) rfl rfl ?_
  rintro _ _ ⟨rfl, hH⟩; obtain rfl := hH.symm
  show WP l Z hB _ _ _ _ _ _ _ _ [obj "com/example/dissect/dissect/ReachedRanges" ksRR [(rf hB 3), (.int (3 : Int32)), (rf hB 4), (rf hB 5), (.int (3 : Int32)), (rf hB 1), (rf hB 2)], ints [0, 0, 0, 0, 0, 0, 0, 0], ints [0, 0, 0, 0, 0, 0, 0, 0], ints [0, 1, 2, 0, 0, 0, 0, 0, 0, 0, 0, 0, 0, 0, 0, 0], ints [0, 1, 2, 0, 0, 0, 0, 0, 0, 0, 0, 0, 0, 0, 0, 0], ints [0, 1, 2, 0, 0, 0, 0, 0, 0, 0, 0, 0, 0, 0, 0, 0]] _ _ []
  refine Wk.iloadN (pc' := 119) at_118 rfl rfl ?_
  refine Wk.ifN (pc' := 122) at_119 (XT.i0_eq_f (by decide)) rfl ?_
  refine Wk.aload (pc' := 124) at_122 rfl rfl rfl ?_
  refine Wk.iconst (pc' := 125) (0 : Int32) at_124 (by decide) rfl ?_
  refine Wk.callV (pc' := 128) (argsL := [(.int (0 : Int32))]) (st := []) at_125 (wd56 hw) (wd57 hw) (Wk.nfSel (wd59 hw)) (wd59 hw) (wd58 hw) (wd3 hw) (wd60 hw) (by decide) (lenOf pd_5 rfl) (fun _ P => P.exa rfl) (m_reach l Z a0 hw hB (3 : Int32) (3 : Int32) [0, 0, 0, 0, 0, 0, 0, 0] [0, 0, 0, 0, 0, 0, 0, 0] [0, 1, 2, 0, 0, 0, 0, 0, 0, 0, 0, 0, 0, 0, 0, 0] [0, 1, 2, 0, 0, 0, 0, 0, 0, 0, 0, 0, 0, 0, 0, 0] [0, 1, 2, 0, 0, 0, 0, 0, 0, 0, 0, 0, 0, 0, 0, 0] (0 : Int32) ((4 : Int32), [0, 2, 0, 0, 0, 0, 0, 0], [0, 2, 0, 0, 0, 0, 0, 0], [0, 1, 0, 2, 0, 0, 0, 0, 0, 0, 0, 0, 0, 0, 0, 0], [0, 1, 0, 2, 0, 0, 0, 0, 0, 0, 0, 0, 0, 0, 0, 0]) (by decide +kernel)) rfl (Nat.le_of_ble_eq_true rfl) (Nat.le_of_ble_eq_true rfl) (Nat.le_of_ble_eq_true rfl) (Nat.le_of_ble_eq_true rfl) rfl rfl ?_
  rintro _ _ ⟨rfl, hH⟩; obtain rfl := hH.symm
  show WP l Z hB _ _ _ _ _ _ _ _ [obj "com/example/dissect/dissect/ReachedRanges" ksRR [(rf hB 3), (.int (3 : Int32)), (rf hB 4), (rf hB 5), (.int (4 : Int32)), (rf hB 1), (rf hB 2)], ints [0, 2, 0, 0, 0, 0, 0, 0], ints [0, 2, 0, 0, 0, 0, 0, 0], ints [0, 1, 2, 0, 0, 0, 0, 0, 0, 0, 0, 0, 0, 0, 0, 0], ints [0, 1, 0, 2, 0, 0, 0, 0, 0, 0, 0, 0, 0, 0, 0, 0], ints [0, 1, 0, 2, 0, 0, 0, 0, 0, 0, 0, 0, 0, 0, 0, 0]] _ _ []
  refine Wk.aload (pc' := 130) at_128 rfl rfl rfl ?_
  refine Wk.callV (pc' := 133) (argsL := []) (st := []) at_130 (wd23 hw) (wd24 hw) (Wk.nfSel (wd26 hw)) (wd26 hw) (wd25 hw) (wd3 hw) (wd27 hw) (by decide) (lenOf pd_4 rfl) (fun _ P => P.exa rfl) (m_add l Z a0 hw hB (3 : Int32) (4 : Int32) [0, 2, 0, 0, 0, 0, 0, 0] [0, 2, 0, 0, 0, 0, 0, 0] [0, 1, 2, 0, 0, 0, 0, 0, 0, 0, 0, 0, 0, 0, 0, 0] [0, 1, 0, 2, 0, 0, 0, 0, 0, 0, 0, 0, 0, 0, 0, 0] [0, 1, 0, 2, 0, 0, 0, 0, 0, 0, 0, 0, 0, 0, 0, 0] ([0, 1, 2, 4, 0, 0, 0, 0, 0, 0, 0, 0, 0, 0, 0, 0], [0, 1, 0, 2, 3, 0, 0, 0, 0, 0, 0, 0, 0, 0, 0, 0], [0, 1, 0, 2, 3, 0, 0, 0, 0, 0, 0, 0, 0, 0, 0, 0], (5 : Int32), (4 : Int32)) (by decide +kernel)) rfl (Nat.le_of_ble_eq_true rfl) (Nat.le_of_ble_eq_true rfl) (Nat.le_of_ble_eq_true rfl) (Nat.le_of_ble_eq_true rfl) rfl rfl ?_
  rintro _ _ ⟨rfl, hH⟩; obtain rfl := hH.symm
  show WP l Z hB _ _ _ _ _ _ _ _ [obj "com/example/dissect/dissect/ReachedRanges" ksRR [(rf hB 3), (.int (4 : Int32)), (rf hB 4), (rf hB 5), (.int (5 : Int32)), (rf hB 1), (rf hB 2)], ints [0, 2, 0, 0, 0, 0, 0, 0], ints [0, 2, 0, 0, 0, 0, 0, 0], ints [0, 1, 2, 4, 0, 0, 0, 0, 0, 0, 0, 0, 0, 0, 0, 0], ints [0, 1, 0, 2, 3, 0, 0, 0, 0, 0, 0, 0, 0, 0, 0, 0], ints [0, 1, 0, 2, 3, 0, 0, 0, 0, 0, 0, 0, 0, 0, 0, 0]] _ _ []
  refine Wk.iload (pc' := 135) at_133 rfl rfl ?_
  refine Wk.ifY (pc' := 144) at_135 (XT.i0_eq_t rfl) (by decide) (by decide) ?_
  refine Wk.aload (pc' := 146) at_144 rfl rfl rfl ?_
  refine Wk.callV (pc' := 149) (argsL := []) (st := []) at_146 (wd23 hw) (wd24 hw) (Wk.nfSel (wd26 hw)) (wd26 hw) (wd25 hw) (wd3 hw) (wd27 hw) (by decide) (lenOf pd_4 rfl) (fun _ P => P.exa rfl) (m_add l Z a0 hw hB (4 : Int32) (5 : Int32) [0, 2, 0, 0, 0, 0, 0, 0] [0, 2, 0, 0, 0, 0, 0, 0] [0, 1, 2, 4, 0, 0, 0, 0, 0, 0, 0, 0, 0, 0, 0, 0] [0, 1, 0, 2, 3, 0, 0, 0, 0, 0, 0, 0, 0, 0, 0, 0] [0, 1, 0, 2, 3, 0, 0, 0, 0, 0, 0, 0, 0, 0, 0, 0] ([0, 1, 2, 4, 5, 0, 0, 0, 0, 0, 0, 0, 0, 0, 0, 0], [0, 1, 0, 2, 3, 4, 0, 0, 0, 0, 0, 0, 0, 0, 0, 0], [0, 1, 0, 2, 3, 4, 0, 0, 0, 0, 0, 0, 0, 0, 0, 0], (6 : Int32), (5 : Int32)) (by decide +kernel)) rfl (Nat.le_of_ble_eq_true rfl) (Nat.le_of_ble_eq_true rfl) (Nat.le_of_ble_eq_true rfl) (Nat.le_of_ble_eq_true rfl) rfl rfl ?_
  rintro _ _ ⟨rfl, hH⟩; obtain rfl := hH.symm
  show WP l Z hB _ _ _ _ _ _ _ _ [obj "com/example/dissect/dissect/ReachedRanges" ksRR [(rf hB 3), (.int (5 : Int32)), (rf hB 4), (rf hB 5), (.int (6 : Int32)), (rf hB 1), (rf hB 2)], ints [0, 2, 0, 0, 0, 0, 0, 0], ints [0, 2, 0, 0, 0, 0, 0, 0], ints [0, 1, 2, 4, 5, 0, 0, 0, 0, 0, 0, 0, 0, 0, 0, 0], ints [0, 1, 0, 2, 3, 4, 0, 0, 0, 0, 0, 0, 0, 0, 0, 0], ints [0, 1, 0, 2, 3, 4, 0, 0, 0, 0, 0, 0, 0, 0, 0, 0]] _ _ []
  refine Wk.iload (pc' := 151) at_149 rfl rfl ?_
  refine Wk.ifY (pc' := 160) at_151 (XT.i0_eq_t rfl) (by decide) (by decide) ?_
  refine Wk.iload (pc' := 162) at_160 rfl rfl ?_
  refine Wk.ifN (pc' := 165) at_162 (XT.i0_eq_f (by decide)) rfl ?_
  refine Wk.aload (pc' := 167) at_165 rfl rfl rfl ?_
  refine Wk.iconst (pc' := 168) (2 : Int32) at_167 (by decide) rfl ?_
  refine Wk.callV (pc' := 171) (argsL := [(.int (2 : Int32))]) (st := []) at_168 (wd56 hw) (wd57 hw) (Wk.nfSel (wd59 hw)) (wd59 hw) (wd58 hw) (wd3 hw) (wd60 hw) (by decide) (lenOf pd_5 rfl) (fun _ P => P.exa rfl) (m_reach l Z a0 hw hB (5 : Int32) (6 : Int32) [0, 2, 0, 0, 0, 0, 0, 0] [0, 2, 0, 0, 0, 0, 0, 0] [0, 1, 2, 4, 5, 0, 0, 0, 0, 0, 0, 0, 0, 0, 0, 0] [0, 1, 0, 2, 3, 4, 0, 0, 0, 0, 0, 0, 0, 0, 0, 0] [0, 1, 0, 2, 3, 4, 0, 0, 0, 0, 0, 0, 0, 0, 0, 0] (2 : Int32) ((8 : Int32), [0, 2, 4, 0, 0, 0, 0, 0], [0, 2, 4, 0, 0, 0, 0, 0], [0, 1, 0, 2, 3, 0, 2, 4, 0, 0, 0, 0, 0, 0, 0, 0], [0, 1, 0, 2, 3, 0, 2, 4, 0, 0, 0, 0, 0, 0, 0, 0]) (by decide +kernel)) rfl (Nat.le_of_ble_eq_true rfl) (Nat.le_of_ble_eq_true rfl) (Nat.le_of_ble_eq_true rfl) (Nat.le_of_ble_eq_true rfl) rfl rfl ?_
  rintro _ _ ⟨rfl, hH⟩; obtain rfl := hH.symm
  show WP l Z hB _ _ _ _ _ _ _ _ [obj "com/example/dissect/dissect/ReachedRanges" ksRR [(rf hB 3), (.int (5 : Int32)), (rf hB 4), (rf hB 5), (.int (8 : Int32)), (rf hB 1), (rf hB 2)], ints [0, 2, 4, 0, 0, 0, 0, 0], ints [0, 2, 4, 0, 0, 0, 0, 0], ints [0, 1, 2, 4, 5, 0, 0, 0, 0, 0, 0, 0, 0, 0, 0, 0], ints [0, 1, 0, 2, 3, 0, 2, 4, 0, 0, 0, 0, 0, 0, 0, 0], ints [0, 1, 0, 2, 3, 0, 2, 4, 0, 0, 0, 0, 0, 0, 0, 0]] _ _ []
  exact m_B l Z a0 hw hB x0 x1 x2 (1 : Int32) (0 : Int32) (0 : Int32) (1 : Int32) wd f t [obj "com/example/dissect/dissect/ReachedRanges" ksRR [(rf hB 3), (.int (5 : Int32)), (rf hB 4), (rf hB 5), (.int (8 : Int32)), (rf hB 1), (rf hB 2)], ints [0, 2, 4, 0, 0, 0, 0, 0], ints [0, 2, 4, 0, 0, 0, 0, 0], ints [0, 1, 2, 4, 5, 0, 0, 0, 0, 0, 0, 0, 0, 0, 0, 0], ints [0, 1, 0, 2, 3, 0, 2, 4, 0, 0, 0, 0, 0, 0, 0, 0], ints [0, 1, 0, 2, 3, 0, 2, 4, 0, 0, 0, 0, 0, 0, 0, 0]] _ rfl (Nat.le_of_ble_eq_true rfl) _ (Nat.le_of_ble_eq_true rfl) (by have h := m_may l Z a0 hw hB (5 : Int32) (8 : Int32) [0, 2, 4, 0, 0, 0, 0, 0] [0, 2, 4, 0, 0, 0, 0, 0] [0, 1, 2, 4, 5, 0, 0, 0, 0, 0, 0, 0, 0, 0, 0, 0] [0, 1, 0, 2, 3, 0, 2, 4, 0, 0, 0, 0, 0, 0, 0, 0] [0, 1, 0, 2, 3, 0, 2, 4, 0, 0, 0, 0, 0, 0, 0, 0] f t _ (ok_1001 f t hf0 hf4); rw [expB_nar] at h; exact h)
set_option maxRecDepth 65536 in
set_option maxHeartbeats 40000000 in
theorem m_94_1010 (l : Launch) (Z : State) (a0 : Array Value) (hw : ∀ d ∈ tables_1, d.before a0 Z = true) (hB : Heap) (x0 x1 x2 wd f t : Int32) (no : Addr) (cl : Cell) (sN : Sta Z hB "com/example/dissect/dissect/ReachedRanges" "NO_INTS" "[I" (.ref no)) (A : Arr Z hB no cl .int) (hz : cl.slots.size = 0) (hf0 : 0 ≤ f.toInt) (hf4 : f.toInt ≤ 4) : WP l Z hB x code maxLocals ret room_1 0 (fun v _ => v = some (.int 1)) 0 [] 94 #[.val (.int x0), .val (.int x1), .val (.int x2), .val (.int (1 : Int32)), .val (.int (0 : Int32)), .val (.int (1 : Int32)), .val (.int (0 : Int32)), .val (.int wd), .val (.int f), .val (.int t), .unset, .unset, .unset, .unset, .unset, .unset] [] := by
  refine Wk.newObj (pc' := 97) (i := 0) (H' := [obj "com/example/dissect/dissect/ReachedRanges" ksRR [.null, (.int (0 : Int32)), .null, .null, (.int (0 : Int32)), .null, .null]]) at_94 (wd1 hw) (wd2 hw) (wd3 hw) (ksRR_laid hw) (ksRR_dist hw) (Nat.le_of_ble_eq_true rfl) (Nat.le_of_ble_eq_true rfl) rfl rfl rfl ?_
  refine Wk.dup (pc' := 98) at_97 rfl rfl ?_
  refine Wk.callI (pc' := 101) (argsL := []) (st := [(rf hB 0)]) at_98 rfl (wd4 hw) (wd5 hw) (wd3 hw) (wd6 hw) (by decide) (lenOf pd_4 rfl) (m_init l Z a0 hw hB no cl sN A hz) rfl (Nat.le_of_ble_eq_true rfl) (Nat.le_of_ble_eq_true rfl) (Nat.le_of_ble_eq_true rfl) (Nat.le_of_ble_eq_true rfl) rfl rfl ?_
  rintro _ _ ⟨rfl, hH⟩; obtain rfl := hH.symm
  show WP l Z hB _ _ _ _ _ _ _ _ [obj "com/example/dissect/dissect/ReachedRanges" ksRR [(.ref no), (.int (0 : Int32)), (.ref no), (.ref no), (.int (0 : Int32)), (rf hB 1), (rf hB 2)], ints [0, 0, 0, 0, 0, 0, 0, 0], ints [0, 0, 0, 0, 0, 0, 0, 0]] _ _ [(rf hB 0)]
  refine Wk.astore (pc' := 103) (Ls' := #[.val (.int x0), .val (.int x1), .val (.int x2), .val (.int (1 : Int32)), .val (.int (0 : Int32)), .val (.int (1 : Int32)), .val (.int (0 : Int32)), .val (.int wd), .val (.int f), .val (.int t), .val (rf hB 0), .unset, .unset, .unset, .unset, .unset]) at_101 rfl rfl rfl ?_
  refine Wk.aload (pc' := 105) at_103 rfl rfl rfl ?_
  refine Wk.callV (pc' := 108) (argsL := []) (st := []) at_105 (wd23 hw) (wd24 hw) (Wk.nfSel (wd26 hw)) (wd26 hw) (wd25 hw) (wd3 hw) (wd27 hw) (by decide) (lenOf pd_4 rfl) (fun _ P => P.exa rfl) (m_add0 l Z a0 hw hB no cl sN A hz) rfl (Nat.le_of_ble_eq_true rfl) (Nat.le_of_ble_eq_true rfl) (Nat.le_of_ble_eq_true rfl) (Nat.le_of_ble_eq_true rfl) rfl rfl ?_
  rintro _ _ ⟨rfl, hH⟩; obtain rfl := hH.symm
  show WP l Z hB _ _ _ _ _ _ _ _ [obj "com/example/dissect/dissect/ReachedRanges" ksRR [(rf hB 3), (.int (1 : Int32)), (rf hB 4), (rf hB 5), (.int (1 : Int32)), (rf hB 1), (rf hB 2)], ints [0, 0, 0, 0, 0, 0, 0, 0], ints [0, 0, 0, 0, 0, 0, 0, 0], ints [0, 0, 0, 0, 0, 0, 0, 0, 0, 0, 0, 0, 0, 0, 0, 0], ints [0, 0, 0, 0, 0, 0, 0, 0, 0, 0, 0, 0, 0, 0, 0, 0], ints [0, 0, 0, 0, 0, 0, 0, 0, 0, 0, 0, 0, 0, 0, 0, 0]] _ _ []
  refine Wk.aload (pc' := 110) at_108 rfl rfl rfl ?_
  refine Wk.callV (pc' := 113) (argsL := []) (st := []) at_110 (wd23 hw) (wd24 hw) (Wk.nfSel (wd26 hw)) (wd26 hw) (wd25 hw) (wd3 hw) (wd27 hw) (by decide) (lenOf pd_4 rfl) (fun _ P => P.exa rfl) (m_add l Z a0 hw hB (1 : Int32) (1 : Int32) [0, 0, 0, 0, 0, 0, 0, 0] [0, 0, 0, 0, 0, 0, 0, 0] [0, 0, 0, 0, 0, 0, 0, 0, 0, 0, 0, 0, 0, 0, 0, 0] [0, 0, 0, 0, 0, 0, 0, 0, 0, 0, 0, 0, 0, 0, 0, 0] [0, 0, 0, 0, 0, 0, 0, 0, 0, 0, 0, 0, 0, 0, 0, 0] ([0, 1, 0, 0, 0, 0, 0, 0, 0, 0, 0, 0, 0, 0, 0, 0], [0, 1, 0, 0, 0, 0, 0, 0, 0, 0, 0, 0, 0, 0, 0, 0], [0, 1, 0, 0, 0, 0, 0, 0, 0, 0, 0, 0, 0, 0, 0, 0], (2 : Int32), (2 : Int32)) (by decide +kernel)) rfl (Nat.le_of_ble_eq_true rfl) (Nat.le_of_ble_eq_true rfl) (Nat.le_of_ble_eq_true rfl) (Nat.le_of_ble_eq_true rfl) rfl rfl ?_
  rintro _ _ ⟨rfl, hH⟩; obtain rfl := hH.symm
  show WP l Z hB _ _ _ _ _ _ _ _ [obj "com/example/dissect/dissect/ReachedRanges" ksRR [(rf hB 3), (.int (2 : Int32)), (rf hB 4), (rf hB 5), (.int (2 : Int32)), (rf hB 1), (rf hB 2)], ints [0, 0, 0, 0, 0, 0, 0, 0], ints [0, 0, 0, 0, 0, 0, 0, 0], ints [0, 1, 0, 0, 0, 0, 0, 0, 0, 0, 0, 0, 0, 0, 0, 0], ints [0, 1, 0, 0, 0, 0, 0, 0, 0, 0, 0, 0, 0, 0, 0, 0], ints [0, 1, 0, 0, 0, 0, 0, 0, 0, 0, 0, 0, 0, 0, 0, 0]] _ _ []
  refine Wk.aload (pc' := 115) at_113 rfl rfl rfl ?_
  refine Wk.callV (pc' := 118) (argsL := []) (st := []) at_115 (wd23 hw) (wd24 hw) (Wk.nfSel (wd26 hw)) (wd26 hw) (wd25 hw) (wd3 hw) (wd27 hw) (by decide) (lenOf pd_4 rfl) (fun _ P => P.exa rfl) (m_add l Z a0 hw hB (2 : Int32) (2 : Int32) [0, 0, 0, 0, 0, 0, 0, 0] [0, 0, 0, 0, 0, 0, 0, 0] [0, 1, 0, 0, 0, 0, 0, 0, 0, 0, 0, 0, 0, 0, 0, 0] [0, 1, 0, 0, 0, 0, 0, 0, 0, 0, 0, 0, 0, 0, 0, 0] [0, 1, 0, 0, 0, 0, 0, 0, 0, 0, 0, 0, 0, 0, 0, 0] ([0, 1, 2, 0, 0, 0, 0, 0, 0, 0, 0, 0, 0, 0, 0, 0], [0, 1, 2, 0, 0, 0, 0, 0, 0, 0, 0, 0, 0, 0, 0, 0], [0, 1, 2, 0, 0, 0, 0, 0, 0, 0, 0, 0, 0, 0, 0, 0], (3 : Int32), (3 : Int32)) (by decide +kernel)) rfl (Nat.le_of_ble_eq_true rfl) (Nat.le_of_ble_eq_true rfl) (Nat.le_of_ble_eq_true rfl) (Nat.le_of_ble_eq_true rfl) rfl rfl ?_
  rintro _ _ ⟨rfl, hH⟩; obtain rfl := hH.symm
  show WP l Z hB _ _ _ _ _ _ _ _ [obj "com/example/dissect/dissect/ReachedRanges" ksRR [(rf hB 3), (.int (3 : Int32)), (rf hB 4), (rf hB 5), (.int (3 : Int32)), (rf hB 1), (rf hB 2)], ints [0, 0, 0, 0, 0, 0, 0, 0], ints [0, 0, 0, 0, 0, 0, 0, 0], ints [0, 1, 2, 0, 0, 0, 0, 0, 0, 0, 0, 0, 0, 0, 0, 0], ints [0, 1, 2, 0, 0, 0, 0, 0, 0, 0, 0, 0, 0, 0, 0, 0], ints [0, 1, 2, 0, 0, 0, 0, 0, 0, 0, 0, 0, 0, 0, 0, 0]] _ _ []
  refine Wk.iloadN (pc' := 119) at_118 rfl rfl ?_
  refine Wk.ifN (pc' := 122) at_119 (XT.i0_eq_f (by decide)) rfl ?_
  refine Wk.aload (pc' := 124) at_122 rfl rfl rfl ?_
  refine Wk.iconst (pc' := 125) (0 : Int32) at_124 (by decide) rfl ?_
  refine Wk.callV (pc' := 128) (argsL := [(.int (0 : Int32))]) (st := []) at_125 (wd56 hw) (wd57 hw) (Wk.nfSel (wd59 hw)) (wd59 hw) (wd58 hw) (wd3 hw) (wd60 hw) (by decide) (lenOf pd_5 rfl) (fun _ P => P.exa rfl) (m_reach l Z a0 hw hB (3 : Int32) (3 : Int32) [0, 0, 0, 0, 0, 0, 0, 0] [0, 0, 0, 0, 0, 0, 0, 0] [0, 1, 2, 0, 0, 0, 0, 0, 0, 0, 0, 0, 0, 0, 0, 0] [0, 1, 2, 0, 0, 0, 0, 0, 0, 0, 0, 0, 0, 0, 0, 0] [0, 1, 2, 0, 0, 0, 0, 0, 0, 0, 0, 0, 0, 0, 0, 0] (0 : Int32) ((4 : Int32), [0, 2, 0, 0, 0, 0, 0, 0], [0, 2, 0, 0, 0, 0, 0, 0], [0, 1, 0, 2, 0, 0, 0, 0, 0, 0, 0, 0, 0, 0, 0, 0], [0, 1, 0, 2, 0, 0, 0, 0, 0, 0, 0, 0, 0, 0, 0, 0]) (by decide +kernel)) rfl (Nat.le_of_ble_eq_true rfl) (Nat.le_of_ble_eq_true rfl) (Nat.le_of_ble_eq_true rfl) (Nat.le_of_ble_eq_true rfl) rfl rfl ?_
  rintro _ _ ⟨rfl, hH⟩; obtain rfl := hH.symm
  show WP l Z hB _ _ _ _ _ _ _ _ [obj "com/example/dissect/dissect/ReachedRanges" ksRR [(rf hB 3), (.int (3 : Int32)), (rf hB 4), (rf hB 5), (.int (4 : Int32)), (rf hB 1), (rf hB 2)], ints [0, 2, 0, 0, 0, 0, 0, 0], ints [0, 2, 0, 0, 0, 0, 0, 0], ints [0, 1, 2, 0, 0, 0, 0, 0, 0, 0, 0, 0, 0, 0, 0, 0], ints [0, 1, 0, 2, 0, 0, 0, 0, 0, 0, 0, 0, 0, 0, 0, 0], ints [0, 1, 0, 2, 0, 0, 0, 0, 0, 0, 0, 0, 0, 0, 0, 0]] _ _ []
  refine Wk.aload (pc' := 130) at_128 rfl rfl rfl ?_
  refine Wk.callV (pc' := 133) (argsL := []) (st := []) at_130 (wd23 hw) (wd24 hw) (Wk.nfSel (wd26 hw)) (wd26 hw) (wd25 hw) (wd3 hw) (wd27 hw) (by decide) (lenOf pd_4 rfl) (fun _ P => P.exa rfl) (m_add l Z a0 hw hB (3 : Int32) (4 : Int32) [0, 2, 0, 0, 0, 0, 0, 0] [0, 2, 0, 0, 0, 0, 0, 0] [0, 1, 2, 0, 0, 0, 0, 0, 0, 0, 0, 0, 0, 0, 0, 0] [0, 1, 0, 2, 0, 0, 0, 0, 0, 0, 0, 0, 0, 0, 0, 0] [0, 1, 0, 2, 0, 0, 0, 0, 0, 0, 0, 0, 0, 0, 0, 0] ([0, 1, 2, 4, 0, 0, 0, 0, 0, 0, 0, 0, 0, 0, 0, 0], [0, 1, 0, 2, 3, 0, 0, 0, 0, 0, 0, 0, 0, 0, 0, 0], [0, 1, 0, 2, 3, 0, 0, 0, 0, 0, 0, 0, 0, 0, 0, 0], (5 : Int32), (4 : Int32)) (by decide +kernel)) rfl (Nat.le_of_ble_eq_true rfl) (Nat.le_of_ble_eq_true rfl) (Nat.le_of_ble_eq_true rfl) (Nat.le_of_ble_eq_true rfl) rfl rfl ?_
  rintro _ _ ⟨rfl, hH⟩; obtain rfl := hH.symm
  show WP l Z hB _ _ _ _ _ _ _ _ [obj "com/example/dissect/dissect/ReachedRanges" ksRR [(rf hB 3), (.int (4 : Int32)), (rf hB 4), (rf hB 5), (.int (5 : Int32)), (rf hB 1), (rf hB 2)], ints [0, 2, 0, 0, 0, 0, 0, 0], ints [0, 2, 0, 0, 0, 0, 0, 0], ints [0, 1, 2, 4, 0, 0, 0, 0, 0, 0, 0, 0, 0, 0, 0, 0], ints [0, 1, 0, 2, 3, 0, 0, 0, 0, 0, 0, 0, 0, 0, 0, 0], ints [0, 1, 0, 2, 3, 0, 0, 0, 0, 0, 0, 0, 0, 0, 0, 0]] _ _ []
  refine Wk.iload (pc' := 135) at_133 rfl rfl ?_
  refine Wk.ifY (pc' := 144) at_135 (XT.i0_eq_t rfl) (by decide) (by decide) ?_
  refine Wk.aload (pc' := 146) at_144 rfl rfl rfl ?_
  refine Wk.callV (pc' := 149) (argsL := []) (st := []) at_146 (wd23 hw) (wd24 hw) (Wk.nfSel (wd26 hw)) (wd26 hw) (wd25 hw) (wd3 hw) (wd27 hw) (by decide) (lenOf pd_4 rfl) (fun _ P => P.exa rfl) (m_add l Z a0 hw hB (4 : Int32) (5 : Int32) [0, 2, 0, 0, 0, 0, 0, 0] [0, 2, 0, 0, 0, 0, 0, 0] [0, 1, 2, 4, 0, 0, 0, 0, 0, 0, 0, 0, 0, 0, 0, 0] [0, 1, 0, 2, 3, 0, 0, 0, 0, 0, 0, 0, 0, 0, 0, 0] [0, 1, 0, 2, 3, 0, 0, 0, 0, 0, 0, 0, 0, 0, 0, 0] ([0, 1, 2, 4, 5, 0, 0, 0, 0, 0, 0, 0, 0, 0, 0, 0], [0, 1, 0, 2, 3, 4, 0, 0, 0, 0, 0, 0, 0, 0, 0, 0], [0, 1, 0, 2, 3, 4, 0, 0, 0, 0, 0, 0, 0, 0, 0, 0], (6 : Int32), (5 : Int32)) (by decide +kernel)) rfl (Nat.le_of_ble_eq_true rfl) (Nat.le_of_ble_eq_true rfl) (Nat.le_of_ble_eq_true rfl) (Nat.le_of_ble_eq_true rfl) rfl rfl ?_
  rintro _ _ ⟨rfl, hH⟩; obtain rfl := hH.symm
  show WP l Z hB _ _ _ _ _ _ _ _ [obj "com/example/dissect/dissect/ReachedRanges" ksRR [(rf hB 3), (.int (5 : Int32)), (rf hB 4), (rf hB 5), (.int (6 : Int32)), (rf hB 1), (rf hB 2)], ints [0, 2, 0, 0, 0, 0, 0, 0], ints [0, 2, 0, 0, 0, 0, 0, 0], ints [0, 1, 2, 4, 5, 0, 0, 0, 0, 0, 0, 0, 0, 0, 0, 0], ints [0, 1, 0, 2, 3, 4, 0, 0, 0, 0, 0, 0, 0, 0, 0, 0], ints [0, 1, 0, 2, 3, 4, 0, 0, 0, 0, 0, 0, 0, 0, 0, 0]] _ _ []
  refine Wk.iload (pc' := 151) at_149 rfl rfl ?_
  refine Wk.ifN (pc' := 154) at_151 (XT.i0_eq_f (by decide)) rfl ?_
  refine Wk.aload (pc' := 156) at_154 rfl rfl rfl ?_
  refine Wk.iconst (pc' := 157) (3 : Int32) at_156 (by decide) rfl ?_
  refine Wk.callV (pc' := 160) (argsL := [(.int (3 : Int32))]) (st := []) at_157 (wd56 hw) (wd57 hw) (Wk.nfSel (wd59 hw)) (wd59 hw) (wd58 hw) (wd3 hw) (wd60 hw) (by decide) (lenOf pd_5 rfl) (fun _ P => P.exa rfl) (m_reach l Z a0 hw hB (5 : Int32) (6 : Int32) [0, 2, 0, 0, 0, 0, 0, 0] [0, 2, 0, 0, 0, 0, 0, 0] [0, 1, 2, 4, 5, 0, 0, 0, 0, 0, 0, 0, 0, 0, 0, 0] [0, 1, 0, 2, 3, 4, 0, 0, 0, 0, 0, 0, 0, 0, 0, 0] [0, 1, 0, 2, 3, 4, 0, 0, 0, 0, 0, 0, 0, 0, 0, 0] (3 : Int32) ((6 : Int32), [3, 2, 0, 0, 0, 0, 0, 0], [4, 2, 0, 0, 0, 0, 0, 0], [0, 1, 0, 2, 3, 3, 0, 0, 0, 0, 0, 0, 0, 0, 0, 0], [0, 1, 0, 2, 3, 4, 0, 0, 0, 0, 0, 0, 0, 0, 0, 0]) (by decide +kernel)) rfl (Nat.le_of_ble_eq_true rfl) (Nat.le_of_ble_eq_true rfl) (Nat.le_of_ble_eq_true rfl) (Nat.le_of_ble_eq_true rfl) rfl rfl ?_
  rintro _ _ ⟨rfl, hH⟩; obtain rfl := hH.symm
  show WP l Z hB _ _ _ _ _ _ _ _ [obj "com/example/dissect/dissect/ReachedRanges" ksRR [(rf hB 3), (.int (5 : Int32)), (rf hB 4), (rf hB 5), (.int (6 : Int32)), (rf hB 1), (rf hB 2)], ints [3, 2, 0, 0, 0, 0, 0, 0], ints [4, 2, 0, 0, 0, 0, 0, 0], ints [0, 1, 2, 4, 5, 0, 0, 0, 0, 0, 0, 0, 0, 0, 0, 0], ints [0, 1, 0, 2, 3, 3, 0, 0, 0, 0, 0, 0, 0, 0, 0, 0], ints [0, 1, 0, 2, 3, 4, 0, 0, 0, 0, 0, 0, 0, 0, 0, 0]] _ _ []
  refine Wk.iload (pc' := 162) at_160 rfl rfl ?_
  refine Wk.ifY (pc' := 171) at_162 (XT.i0_eq_t rfl) (by decide) (by decide) ?_
  exact m_B l Z a0 hw hB x0 x1 x2 (1 : Int32) (0 : Int32) (1 : Int32) (0 : Int32) wd f t [obj "com/example/dissect/dissect/ReachedRanges" ksRR [(rf hB 3), (.int (5 : Int32)), (rf hB 4), (rf hB 5), (.int (6 : Int32)), (rf hB 1), (rf hB 2)], ints [3, 2, 0, 0, 0, 0, 0, 0], ints [4, 2, 0, 0, 0, 0, 0, 0], ints [0, 1, 2, 4, 5, 0, 0, 0, 0, 0, 0, 0, 0, 0, 0, 0], ints [0, 1, 0, 2, 3, 3, 0, 0, 0, 0, 0, 0, 0, 0, 0, 0], ints [0, 1, 0, 2, 3, 4, 0, 0, 0, 0, 0, 0, 0, 0, 0, 0]] _ rfl (Nat.le_of_ble_eq_true rfl) _ (Nat.le_of_ble_eq_true rfl) (by have h := m_may l Z a0 hw hB (5 : Int32) (6 : Int32) [3, 2, 0, 0, 0, 0, 0, 0] [4, 2, 0, 0, 0, 0, 0, 0] [0, 1, 2, 4, 5, 0, 0, 0, 0, 0, 0, 0, 0, 0, 0, 0] [0, 1, 0, 2, 3, 3, 0, 0, 0, 0, 0, 0, 0, 0, 0, 0] [0, 1, 0, 2, 3, 4, 0, 0, 0, 0, 0, 0, 0, 0, 0, 0] f t _ (ok_1010 f t hf0 hf4); rw [expB_nar] at h; exact h)
set_option maxRecDepth 65536 in
set_option maxHeartbeats 40000000 in
theorem m_94_1011 (l : Launch) (Z : State) (a0 : Array Value) (hw : ∀ d ∈ tables_1, d.before a0 Z = true) (hB : Heap) (x0 x1 x2 wd f t : Int32) (no : Addr) (cl : Cell) (sN : Sta Z hB "com/example/dissect/dissect/ReachedRanges" "NO_INTS" "[I" (.ref no)) (A : Arr Z hB no cl .int) (hz : cl.slots.size = 0) (hf0 : 0 ≤ f.toInt) (hf4 : f.toInt ≤ 4) : WP l Z hB x code maxLocals ret room_1 0 (fun v _ => v = some (.int 1)) 0 [] 94 #[.val (.int x0), .val (.int x1), .val (.int x2), .val (.int (1 : Int32)), .val (.int (0 : Int32)), .val (.int (1 : Int32)), .val (.int (1 : Int32)), .val (.int wd), .val (.int f), .val (.int t), .unset, .unset, .unset, .unset, .unset, .unset] [] := by
  refine Wk.newObj (pc' := 97) (i := 0) (H' := [obj "com/example/dissect/dissect/ReachedRanges" ksRR [.null, (.int (0 : Int32)), .null, .null, (.int (0 : Int32)), .null, .null]]) at_94 (wd1 hw) (wd2 hw) (wd3 hw) (ksRR_laid hw) (ksRR_dist hw) (Nat.le_of_ble_eq_true rfl) (Nat.le_of_ble_eq_true rfl) rfl rfl rfl ?_
  refine Wk.dup (pc' := 98) at_97 rfl rfl ?_
  refine Wk.callI (pc' := 101) (argsL := []) (st := [(rf hB 0)]) at_98 rfl (wd4 hw) (wd5 hw) (wd3 hw) (wd6 hw) (by decide) (lenOf pd_4 rfl) (m_init l Z a0 hw hB no cl sN A hz) rfl (Nat.le_of_ble_eq_true rfl) (Nat.le_of_ble_eq_true rfl) (Nat.le_of_ble_eq_true rfl) (Nat.le_of_ble_eq_true rfl) rfl rfl ?_
  rintro _ _ ⟨rfl, hH⟩; obtain rfl := hH.symm
  show WP l Z hB _ _ _ _ _ _ _ _ [obj "com/example/dissect/dissect/ReachedRanges" ksRR [(.ref no), (.int (0 : Int32)), (.ref no), (.ref no), (.int (0 : Int32)), (rf hB 1), (rf hB 2)], ints [0, 0, 0, 0, 0, 0, 0, 0], ints [0, 0, 0, 0, 0, 0, 0, 0]] _ _ [(rf hB 0)]
  refine Wk.astore (pc' := 103) (Ls' := #[.val (.int x0), .val (.int x1), .val (.int x2), .val (.int (1 : Int32)), .val (.int (0 : Int32)), .val (.int (1 : Int32)), .val (.int (1 : Int32)), .val (.int wd), .val (.int f), .val (.int t), .val (rf hB 0), .unset, .unset, .unset, .unset, .unset]) at_101 rfl rfl rfl ?_
  refine Wk.aload (pc' := 105) at_103 rfl rfl rfl ?_
  refine Wk.callV (pc' := 108) (argsL := []) (st := []) at_105 (wd23 hw) (wd24 hw) (Wk.nfSel (wd26 hw)) (wd26 hw) (wd25 hw) (wd3 hw) (wd27 hw) (by decide) (lenOf pd_4 rfl) (fun _ P => P.exa rfl) (m_add0 l Z a0 hw hB no cl sN A hz) rfl (Nat.le_of_ble_eq_true rfl) (Nat.le_of_ble_eq_true rfl) (Nat.le_of_ble_eq_true rfl) (Nat.le_of_ble_eq_true rfl) rfl rfl ?_
  rintro _ _ ⟨rfl, hH⟩; obtain rfl := hH.symm
  show WP l Z hB _ _ _ _ _ _ _ _ [obj "com/example/dissect/dissect/ReachedRanges" ksRR [(rf hB 3), (.int (1 : Int32)), (rf hB 4), (rf hB 5), (.int (1 : Int32)), (rf hB 1), (rf hB 2)], ints [0, 0, 0, 0, 0, 0, 0, 0], ints [0, 0, 0, 0, 0, 0, 0, 0], ints [0, 0, 0, 0, 0, 0, 0, 0, 0, 0, 0, 0, 0, 0, 0, 0], ints [0, 0, 0, 0, 0, 0, 0, 0, 0, 0, 0, 0, 0, 0, 0, 0], ints [0, 0, 0, 0, 0, 0, 0, 0, 0, 0, 0, 0, 0, 0, 0, 0]] _ _ []
  refine Wk.aload (pc' := 110) at_108 rfl rfl rfl ?_
  refine Wk.callV (pc' := 113) (argsL := []) (st := []) at_110 (wd23 hw) (wd24 hw) (Wk.nfSel (wd26 hw)) (wd26 hw) (wd25 hw) (wd3 hw) (wd27 hw) (by decide) (lenOf pd_4 rfl) (fun _ P => P.exa rfl) (m_add l Z a0 hw hB (1 : Int32) (1 : Int32) [0, 0, 0, 0, 0, 0, 0, 0] [0, 0, 0, 0, 0, 0, 0, 0] [0, 0, 0, 0, 0, 0, 0, 0, 0, 0, 0, 0, 0, 0, 0, 0] [0, 0, 0, 0, 0, 0, 0, 0, 0, 0, 0, 0, 0, 0, 0, 0] [0, 0, 0, 0, 0, 0, 0, 0, 0, 0, 0, 0, 0, 0, 0, 0] ([0, 1, 0, 0, 0, 0, 0, 0, 0, 0, 0, 0, 0, 0, 0, 0], [0, 1, 0, 0, 0, 0, 0, 0, 0, 0, 0, 0, 0, 0, 0, 0], [0, 1, 0, 0, 0, 0, 0, 0, 0, 0, 0, 0, 0, 0, 0, 0], (2 : Int32), (2 : Int32)) (by decide +kernel)) rfl (Nat.le_of_ble_eq_true rfl) (Nat.le_of_ble_eq_true rfl) (Nat.le_of_ble_eq_true rfl) (Nat.le_of_ble_eq_true rfl) rfl rfl ?_
  rintro _ _ ⟨rfl, hH⟩; obtain rfl := hH.symm
  show WP l Z hB _ _ _ _ _ _ _ _ [obj "com/example/dissect/dissect/ReachedRanges" ksRR [(rf hB 3), (.int (2 : Int32)), (rf hB 4), (rf hB 5), (.int (2 : Int32)), (rf hB 1), (rf hB 2)], ints [0, 0, 0, 0, 0, 0, 0, 0], ints [0, 0, 0, 0, 0, 0, 0, 0], ints [0, 1, 0, 0, 0, 0, 0, 0, 0, 0, 0, 0, 0, 0, 0, 0], ints [0, 1, 0, 0, 0, 0, 0, 0, 0, 0, 0, 0, 0, 0, 0, 0], ints [0, 1, 0, 0, 0, 0, 0, 0, 0, 0, 0, 0, 0, 0, 0, 0]] _ _ []
  refine Wk.aload (pc' := 115) at_113 rfl rfl rfl ?_
  refine Wk.callV (pc' := 118) (argsL := []) (st := []) at_115 (wd23 hw) (wd24 hw) (Wk.nfSel (wd26 hw)) (wd26 hw) (wd25 hw) (wd3 hw) (wd27 hw) (by decide) (lenOf pd_4 rfl) (fun _ P => P.exa rfl) (m_add l Z a0 hw hB (2 : Int32) (2 : Int32) [0, 0, 0, 0, 0, 0, 0, 0] [0, 0, 0, 0, 0, 0, 0, 0] [0, 1, 0, 0, 0, 0, 0, 0, 0, 0, 0, 0, 0, 0, 0, 0] [0, 1, 0, 0, 0, 0, 0, 0, 0, 0, 0, 0, 0, 0, 0, 0] [0, 1, 0, 0, 0, 0, 0, 0, 0, 0, 0, 0, 0, 0, 0, 0] ([0, 1, 2, 0, 0, 0, 0, 0, 0, 0, 0, 0, 0, 0, 0, 0], [0, 1, 2, 0, 0, 0, 0, 0, 0, 0, 0, 0, 0, 0, 0, 0], [0, 1, 2, 0, 0, 0, 0, 0, 0, 0, 0, 0, 0, 0, 0, 0], (3 : Int32), (3 : Int32)) (by decide +kernel)) rfl (Nat.le_of_ble_eq_true rfl) (Nat.le_of_ble_eq_true rfl) (Nat.le_of_ble_eq_true rfl) (Nat.le_of_ble_eq_true rfl) rfl rfl ?_
  rintro _ _ ⟨rfl, hH⟩; obtain rfl := hH.symm
  show WP l Z hB _ _ _ _ _ _ _ _ [obj "com/example/dissect/dissect/ReachedRanges" ksRR [(rf hB 3), (.int (3 : Int32)), (rf hB 4), (rf hB 5), (.int (3 : Int32)), (rf hB 1), (rf hB 2)], ints [0, 0, 0, 0, 0, 0, 0, 0], ints [0, 0, 0, 0, 0, 0, 0, 0], ints [0, 1, 2, 0, 0, 0, 0, 0, 0, 0, 0, 0, 0, 0, 0, 0], ints [0, 1, 2, 0, 0, 0, 0, 0, 0, 0, 0, 0, 0, 0, 0, 0], ints [0, 1, 2, 0, 0, 0, 0, 0, 0, 0, 0, 0, 0, 0, 0, 0]] _ _ []
  refine Wk.iloadN (pc' := 119) at_118 rfl rfl ?_
  refine Wk.ifN (pc' := 122) at_119 (XT.i0_eq_f (by decide)) rfl ?_
  refine Wk.aload (pc' := 124) at_122 rfl rfl rfl ?_
  refine Wk.iconst (pc' := 125) (0 : Int32) at_124 (by decide) rfl ?_
  refine Wk.callV (pc' := 128) (argsL := [(.int (0 : Int32))]) (st := []) at_125 (wd56 hw) (wd57 hw) (Wk.nfSel (wd59 hw)) (wd59 hw) (wd58 hw) (wd3 hw) (wd60 hw) (by decide) (lenOf pd_5 rfl) (fun _ P => P.exa rfl) (m_reach l Z a0 hw hB (3 : Int32) (3 : Int32) [0, 0, 0, 0, 0, 0, 0, 0] [0, 0, 0, 0, 0, 0, 0, 0] [0, 1, 2, 0, 0, 0, 0, 0, 0, 0, 0, 0, 0, 0, 0, 0] [0, 1, 2, 0, 0, 0, 0, 0, 0, 0, 0, 0, 0, 0, 0, 0] [0, 1, 2, 0, 0, 0, 0, 0, 0, 0, 0, 0, 0, 0, 0, 0] (0 : Int32) ((4 : Int32), [0, 2, 0, 0, 0, 0, 0, 0], [0, 2, 0, 0, 0, 0, 0, 0], [0, 1, 0, 2, 0, 0, 0, 0, 0, 0, 0, 0, 0, 0, 0, 0], [0, 1, 0, 2, 0, 0, 0, 0, 0, 0, 0, 0, 0, 0, 0, 0]) (by decide +kernel)) rfl (Nat.le_of_ble_eq_true rfl) (Nat.le_of_ble_eq_true rfl) (Nat.le_of_ble_eq_true rfl) (Nat.le_of_ble_eq_true rfl) rfl rfl ?_
  rintro _ _ ⟨rfl, hH⟩; obtain rfl := hH.symm
  show WP l Z hB _ _ _ _ _ _ _ _ [obj "com/example/dissect/dissect/ReachedRanges" ksRR [(rf hB 3), (.int (3 : Int32)), (rf hB 4), (rf hB 5), (.int (4 : Int32)), (rf hB 1), (rf hB 2)], ints [0, 2, 0, 0, 0, 0, 0, 0], ints [0, 2, 0, 0, 0, 0, 0, 0], ints [0, 1, 2, 0, 0, 0, 0, 0, 0, 0, 0, 0, 0, 0, 0, 0], ints [0, 1, 0, 2, 0, 0, 0, 0, 0, 0, 0, 0, 0, 0, 0, 0], ints [0, 1, 0, 2, 0, 0, 0, 0, 0, 0, 0, 0, 0, 0, 0, 0]] _ _ []
  refine Wk.aload (pc' := 130) at_128 rfl rfl rfl ?_
  refine Wk.callV (pc' := 133) (argsL := []) (st := []) at_130 (wd23 hw) (wd24 hw) (Wk.nfSel (wd26 hw)) (wd26 hw) (wd25 hw) (wd3 hw) (wd27 hw) (by decide) (lenOf pd_4 rfl) (fun _ P => P.exa rfl) (m_add l Z a0 hw hB (3 : Int32) (4 : Int32) [0, 2, 0, 0, 0, 0, 0, 0] [0, 2, 0, 0, 0, 0, 0, 0] [0, 1, 2, 0, 0, 0, 0, 0, 0, 0, 0, 0, 0, 0, 0, 0] [0, 1, 0, 2, 0, 0, 0, 0, 0, 0, 0, 0, 0, 0, 0, 0] [0, 1, 0, 2, 0, 0, 0, 0, 0, 0, 0, 0, 0, 0, 0, 0] ([0, 1, 2, 4, 0, 0, 0, 0, 0, 0, 0, 0, 0, 0, 0, 0], [0, 1, 0, 2, 3, 0, 0, 0, 0, 0, 0, 0, 0, 0, 0, 0], [0, 1, 0, 2, 3, 0, 0, 0, 0, 0, 0, 0, 0, 0, 0, 0], (5 : Int32), (4 : Int32)) (by decide +kernel)) rfl (Nat.le_of_ble_eq_true rfl) (Nat.le_of_ble_eq_true rfl) (Nat.le_of_ble_eq_true rfl) (Nat.le_of_ble_eq_true rfl) rfl rfl ?_
  rintro _ _ ⟨rfl, hH⟩; obtain rfl := hH.symm
  show WP l Z hB _ _ _ _ _ _ _ _ [obj "com/example/dissect/dissect/ReachedRanges" ksRR [(rf hB 3), (.int (4 : Int32)), (rf hB 4), (rf hB 5), (.int (5 : Int32)), (rf hB 1), (rf hB 2)], ints [0, 2, 0, 0, 0, 0, 0, 0], ints [0, 2, 0, 0, 0, 0, 0, 0], ints [0, 1, 2, 4, 0, 0, 0, 0, 0, 0, 0, 0, 0, 0, 0, 0], ints [0, 1, 0, 2, 3, 0, 0, 0, 0, 0, 0, 0, 0, 0, 0, 0], ints [0, 1, 0, 2, 3, 0, 0, 0, 0, 0, 0, 0, 0, 0, 0, 0]] _ _ []
  refine Wk.iload (pc' := 135) at_133 rfl rfl ?_
  refine Wk.ifY (pc' := 144) at_135 (XT.i0_eq_t rfl) (by decide) (by decide) ?_
  refine Wk.aload (pc' := 146) at_144 rfl rfl rfl ?_
  refine Wk.callV (pc' := 149) (argsL := []) (st := []) at_146 (wd23 hw) (wd24 hw) (Wk.nfSel (wd26 hw)) (wd26 hw) (wd25 hw) (wd3 hw) (wd27 hw) (by decide) (lenOf pd_4 rfl) (fun _ P => P.exa rfl) (m_add l Z a0 hw hB (4 : Int32) (5 : Int32) [0, 2, 0, 0, 0, 0, 0, 0] [0, 2, 0, 0, 0, 0, 0, 0] [0, 1, 2, 4, 0, 0, 0, 0, 0, 0, 0, 0, 0, 0, 0, 0] [0, 1, 0, 2, 3, 0, 0, 0, 0, 0, 0, 0, 0, 0, 0, 0] [0, 1, 0, 2, 3, 0, 0, 0, 0, 0, 0, 0, 0, 0, 0, 0] ([0, 1, 2, 4, 5, 0, 0, 0, 0, 0, 0, 0, 0, 0, 0, 0], [0, 1, 0, 2, 3, 4, 0, 0, 0, 0, 0, 0, 0, 0, 0, 0], [0, 1, 0, 2, 3, 4, 0, 0, 0, 0, 0, 0, 0, 0, 0, 0], (6 : Int32), (5 : Int32)) (by decide +kernel)) rfl (Nat.le_of_ble_eq_true rfl) (Nat.le_of_ble_eq_true rfl) (Nat.le_of_ble_eq_true rfl) (Nat.le_of_ble_eq_true rfl) rfl rfl ?_
  rintro _ _ ⟨rfl, hH⟩; obtain rfl := hH.symm
  show WP l Z hB _ _ _ _ _ _ _ _ [obj "com/example/dissect/dissect/ReachedRanges" ksRR [(rf hB 3), (.int (5 : Int32)), (rf hB 4), (rf hB 5), (.int (6 : Int32)), (rf hB 1), (rf hB 2)], ints [0, 2, 0, 0, 0, 0, 0, 0], ints [0, 2, 0, 0, 0, 0, 0, 0], ints [0, 1, 2, 4, 5, 0, 0, 0, 0, 0, 0, 0, 0, 0, 0, 0], ints [0, 1, 0, 2, 3, 4, 0, 0, 0, 0, 0, 0, 0, 0, 0, 0], ints [0, 1, 0, 2, 3, 4, 0, 0, 0, 0, 0, 0, 0, 0, 0, 0]] _ _ []
  refine Wk.iload (pc' := 151) at_149 rfl rfl ?_
  refine Wk.ifN (pc' := 154) at_151 (XT.i0_eq_f (by decide)) rfl ?_
  refine Wk.aload (pc' := 156) at_154 rfl rfl rfl ?_
  refine Wk.iconst (pc' := 157) (3 : Int32) at_156 (by decide) rfl ?_
  refine Wk.callV (pc' := 160) (argsL := [(.int (3 : Int32))]) (st := []) at_157 (wd56 hw) (wd57 hw) (Wk.nfSel (wd59 hw)) (wd59 hw) (wd58 hw) (wd3 hw) (wd60 hw) (by decide) (lenOf pd_5 rfl) (fun _ P => P.exa rfl) (m_reach l Z a0 hw hB (5 : Int32) (6 : Int32) [0, 2, 0, 0, 0, 0, 0, 0] [0, 2, 0, 0, 0, 0, 0, 0] [0, 1, 2, 4, 5, 0, 0, 0, 0, 0, 0, 0, 0, 0, 0, 0] [0, 1, 0, 2, 3, 4, 0, 0, 0, 0, 0, 0, 0, 0, 0, 0] [0, 1, 0, 2, 3, 4, 0, 0, 0, 0, 0, 0, 0, 0, 0, 0] (3 : Int32) ((6 : Int32), [3, 2, 0, 0, 0, 0, 0, 0], [4, 2, 0, 0, 0, 0, 0, 0], [0, 1, 0, 2, 3, 3, 0, 0, 0, 0, 0, 0, 0, 0, 0, 0], [0, 1, 0, 2, 3, 4, 0, 0, 0, 0, 0, 0, 0, 0, 0, 0]) (by decide +kernel)) rfl (Nat.le_of_ble_eq_true rfl) (Nat.le_of_ble_eq_true rfl) (Nat.le_of_ble_eq_true rfl) (Nat.le_of_ble_eq_true rfl) rfl rfl ?_
  rintro _ _ ⟨rfl, hH⟩; obtain rfl := hH.symm
  show WP l Z hB _ _ _ _ _ _ _ _ [obj "com/example/dissect/dissect/ReachedRanges" ksRR [(rf hB 3), (.int (5 : Int32)), (rf hB 4), (rf hB 5), (.int (6 : Int32)), (rf hB 1), (rf hB 2)], ints [3, 2, 0, 0, 0, 0, 0, 0], ints [4, 2, 0, 0, 0, 0, 0, 0], ints [0, 1, 2, 4, 5, 0, 0, 0, 0, 0, 0, 0, 0, 0, 0, 0], ints [0, 1, 0, 2, 3, 3, 0, 0, 0, 0, 0, 0, 0, 0, 0, 0], ints [0, 1, 0, 2, 3, 4, 0, 0, 0, 0, 0, 0, 0, 0, 0, 0]] _ _ []
  refine Wk.iload (pc' := 162) at_160 rfl rfl ?_
  refine Wk.ifN (pc' := 165) at_162 (XT.i0_eq_f (by decide)) rfl ?_
  refine Wk.aload (pc' := 167) at_165 rfl rfl rfl ?_
  refine Wk.iconst (pc' := 168) (2 : Int32) at_167 (by decide) rfl ?_
  refine Wk.callV (pc' := 171) (argsL := [(.int (2 : Int32))]) (st := []) at_168 (wd56 hw) (wd57 hw) (Wk.nfSel (wd59 hw)) (wd59 hw) (wd58 hw) (wd3 hw) (wd60 hw) (by decide) (lenOf pd_5 rfl) (fun _ P => P.exa rfl) (m_reach l Z a0 hw hB (5 : Int32) (6 : Int32) [3, 2, 0, 0, 0, 0, 0, 0] [4, 2, 0, 0, 0, 0, 0, 0] [0, 1, 2, 4, 5, 0, 0, 0, 0, 0, 0, 0, 0, 0, 0, 0] [0, 1, 0, 2, 3, 3, 0, 0, 0, 0, 0, 0, 0, 0, 0, 0] [0, 1, 0, 2, 3, 4, 0, 0, 0, 0, 0, 0, 0, 0, 0, 0] (2 : Int32) ((7 : Int32), [0, 2, 0, 0, 0, 0, 0, 0], [0, 4, 0, 0, 0, 0, 0, 0], [0, 1, 0, 2, 3, 0, 2, 0, 0, 0, 0, 0, 0, 0, 0, 0], [0, 1, 0, 2, 3, 0, 4, 0, 0, 0, 0, 0, 0, 0, 0, 0]) (by decide +kernel)) rfl (Nat.le_of_ble_eq_true rfl) (Nat.le_of_ble_eq_true rfl) (Nat.le_of_ble_eq_true rfl) (Nat.le_of_ble_eq_true rfl) rfl rfl ?_
  rintro _ _ ⟨rfl, hH⟩; obtain rfl := hH.symm
  show WP l Z hB _ _ _ _ _ _ _ _ [obj "com/example/dissect/dissect/ReachedRanges" ksRR [(rf hB 3), (.int (5 : Int32)), (rf hB 4), (rf hB 5), (.int (7 : Int32)), (rf hB 1), (rf hB 2)], ints [0, 2, 0, 0, 0, 0, 0, 0], ints [0, 4, 0, 0, 0, 0, 0, 0], ints [0, 1, 2, 4, 5, 0, 0, 0, 0, 0, 0, 0, 0, 0, 0, 0], ints [0, 1, 0, 2, 3, 0, 2, 0, 0, 0, 0, 0, 0, 0, 0, 0], ints [0, 1, 0, 2, 3, 0, 4, 0, 0, 0, 0, 0, 0, 0, 0, 0]] _ _ []
  exact m_B l Z a0 hw hB x0 x1 x2 (1 : Int32) (0 : Int32) (1 : Int32) (1 : Int32) wd f t [obj "com/example/dissect/dissect/ReachedRanges" ksRR [(rf hB 3), (.int (5 : Int32)), (rf hB 4), (rf hB 5), (.int (7 : Int32)), (rf hB 1), (rf hB 2)], ints [0, 2, 0, 0, 0, 0, 0, 0], ints [0, 4, 0, 0, 0, 0, 0, 0], ints [0, 1, 2, 4, 5, 0, 0, 0, 0, 0, 0, 0, 0, 0, 0, 0], ints [0, 1, 0, 2, 3, 0, 2, 0, 0, 0, 0, 0, 0, 0, 0, 0], ints [0, 1, 0, 2, 3, 0, 4, 0, 0, 0, 0, 0, 0, 0, 0, 0]] _ rfl (Nat.le_of_ble_eq_true rfl) _ (Nat.le_of_ble_eq_true rfl) (by have h := m_may l Z a0 hw hB (5 : Int32) (7 : Int32) [0, 2, 0, 0, 0, 0, 0, 0] [0, 4, 0, 0, 0, 0, 0, 0] [0, 1, 2, 4, 5, 0, 0, 0, 0, 0, 0, 0, 0, 0, 0, 0] [0, 1, 0, 2, 3, 0, 2, 0, 0, 0, 0, 0, 0, 0, 0, 0] [0, 1, 0, 2, 3, 0, 4, 0, 0, 0, 0, 0, 0, 0, 0, 0] f t _ (ok_1011 f t hf0 hf4); rw [expB_nar] at h; exact h)
set_option maxRecDepth 65536 in
set_option maxHeartbeats 40000000 in
theorem m_94_1100 (l : Launch) (Z : State) (a0 : Array Value) (hw : ∀ d ∈ tables_1, d.before a0 Z = true) (hB : Heap) (x0 x1 x2 wd f t : Int32) (no : Addr) (cl : Cell) (sN : Sta Z hB "com/example/dissect/dissect/ReachedRanges" "NO_INTS" "[I" (.ref no)) (A : Arr Z hB no cl .int) (hz : cl.slots.size = 0) (hf0 : 0 ≤ f.toInt) (hf4 : f.toInt ≤ 4) : WP l Z hB x code maxLocals ret room_1 0 (fun v _ => v = some (.int 1)) 0 [] 94 #[.val (.int x0), .val (.int x1), .val (.int x2), .val (.int (1 : Int32)), .val (.int (1 : Int32)), .val (.int (0 : Int32)), .val (.int (0 : Int32)), .val (.int wd), .val (.int f), .val (.int t), .unset, .unset, .unset, .unset, .unset, .unset] [] := by
  refine Wk.newObj (pc' := 97) (i := 0) (H' := [obj "com/example/dissect/dissect/ReachedRanges" ksRR [.null, (.int (0 : Int32)), .null, .null, (.int (0 : Int32)), .null, .null]]) at_94 (wd1 hw) (wd2 hw) (wd3 hw) (ksRR_laid hw) (ksRR_dist hw) (Nat.le_of_ble_eq_true rfl) (Nat.le_of_ble_eq_true rfl) rfl rfl rfl ?_
  refine Wk.dup (pc' := 98) at_97 rfl rfl ?_
  refine Wk.callI (pc' := 101) (argsL := []) (st := [(rf hB 0)]) at_98 rfl (wd4 hw) (wd5 hw) (wd3 hw) (wd6 hw) (by decide) (lenOf pd_4 rfl) (m_init l Z a0 hw hB no cl sN A hz) rfl (Nat.le_of_ble_eq_true rfl) (Nat.le_of_ble_eq_true rfl) (Nat.le_of_ble_eq_true rfl) (Nat.le_of_ble_eq_true rfl) rfl rfl ?_
  rintro _ _ ⟨rfl, hH⟩; obtain rfl := hH.symm
  show WP l Z hB _ _ _ _ _ _ _ _ [obj "com/example/dissect/dissect/ReachedRanges" ksRR [(.ref no), (.int (0 : Int32)), (.ref no), (.ref no), (.int (0 : Int32)), (rf hB 1), (rf hB 2)], ints [0, 0, 0, 0, 0, 0, 0, 0], ints [0, 0, 0, 0, 0, 0, 0, 0]] _ _ [(rf hB 0)]
  refine Wk.astore (pc' := 103) (Ls' := #[.val (.int x0), .val (.int x1), .val (.int x2), .val (.int (1 : Int32)), .val (.int (1 : Int32)), .val (.int (0 : Int32)), .val (.int (0 : Int32)), .val (.int wd), .val (.int f), .val (.int t), .val (rf hB 0), .unset, .unset, .unset, .unset, .unset]) at_101 rfl rfl rfl ?_
  refine Wk.aload (pc' := 105) at_103 rfl rfl rfl ?_
  refine Wk.callV (pc' := 108) (argsL := []) (st := []) at_105 (wd23 hw) (wd24 hw) (Wk.nfSel (wd26 hw)) (wd26 hw) (wd25 hw) (wd3 hw) (wd27 hw) (by decide) (lenOf pd_4 rfl) (fun _ P => P.exa rfl) (m_add0 l Z a0 hw hB no cl sN A hz) rfl (Nat.le_of_ble_eq_true rfl) (Nat.le_of_ble_eq_true rfl) (Nat.le_of_ble_eq_true rfl) (Nat.le_of_ble_eq_true rfl) rfl rfl ?_
  rintro _ _ ⟨rfl, hH⟩; obtain rfl := hH.symm
  show WP l Z hB _ _ _ _ _ _ _ _ [obj "com/example/dissect/dissect/ReachedRanges" ksRR [(rf hB 3), (.int (1 : Int32)), (rf hB 4), (rf hB 5), (.int (1 : Int32)), (rf hB 1), (rf hB 2)], ints [0, 0, 0, 0, 0, 0, 0, 0], ints [0, 0, 0, 0, 0, 0, 0, 0], ints [0, 0, 0, 0, 0, 0, 0, 0, 0, 0, 0, 0, 0, 0, 0, 0], ints [0, 0, 0, 0, 0, 0, 0, 0, 0, 0, 0, 0, 0, 0, 0, 0], ints [0, 0, 0, 0, 0, 0, 0, 0, 0, 0, 0, 0, 0, 0, 0, 0]] _ _ []
  refine Wk.aload (pc' := 110) at_108 rfl rfl rfl ?_
  refine Wk.callV (pc' := 113) (argsL := []) (st := []) at_110 (wd23 hw) (wd24 hw) (Wk.nfSel (wd26 hw)) (wd26 hw) (wd25 hw) (wd3 hw) (wd27 hw) (by decide) (lenOf pd_4 rfl) (fun _ P => P.exa rfl) (m_add l Z a0 hw hB (1 : Int32) (1 : Int32) [0, 0, 0, 0, 0, 0, 0, 0] [0, 0, 0, 0, 0, 0, 0, 0] [0, 0, 0, 0, 0, 0, 0, 0, 0, 0, 0, 0, 0, 0, 0, 0] [0, 0, 0, 0, 0, 0, 0, 0, 0, 0, 0, 0, 0, 0, 0, 0] [0, 0, 0, 0, 0, 0, 0, 0, 0, 0, 0, 0, 0, 0, 0, 0] ([0, 1, 0, 0, 0, 0, 0, 0, 0, 0, 0, 0, 0, 0, 0, 0], [0, 1, 0, 0, 0, 0, 0, 0, 0, 0, 0, 0, 0, 0, 0, 0], [0, 1, 0, 0, 0, 0, 0, 0, 0, 0, 0, 0, 0, 0, 0, 0], (2 : Int32), (2 : Int32)) (by decide +kernel)) rfl (Nat.le_of_ble_eq_true rfl) (Nat.le_of_ble_eq_true rfl) (Nat.le_of_ble_eq_true rfl) (Nat.le_of_ble_eq_true rfl) rfl rfl ?_
  rintro _ _ ⟨rfl, hH⟩; obtain rfl := hH.symm
  show WP l Z hB _ _ _ _ _ _ _ _ [obj "com/example/dissect/dissect/ReachedRanges" ksRR [(rf hB 3), (.int (2 : Int32)), (rf hB 4), (rf hB 5), (.int (2 : Int32)), (rf hB 1), (rf hB 2)], ints [0, 0, 0, 0, 0, 0, 0, 0], ints [0, 0, 0, 0, 0, 0, 0, 0], ints [0, 1, 0, 0, 0, 0, 0, 0, 0, 0, 0, 0, 0, 0, 0, 0], ints [0, 1, 0, 0, 0, 0, 0, 0, 0, 0, 0, 0, 0, 0, 0, 0], ints [0, 1, 0, 0, 0, 0, 0, 0, 0, 0, 0, 0, 0, 0, 0, 0]] _ _ []
  refine Wk.aload (pc' := 115) at_113 rfl rfl rfl ?_
  refine Wk.callV (pc' := 118) (argsL := []) (st := []) at_115 (wd23 hw) (wd24 hw) (Wk.nfSel (wd26 hw)) (wd26 hw) (wd25 hw) (wd3 hw) (wd27 hw) (by decide) (lenOf pd_4 rfl) (fun _ P => P.exa rfl) (m_add l Z a0 hw hB (2 : Int32) (2 : Int32) [0, 0, 0, 0, 0, 0, 0, 0] [0, 0, 0, 0, 0, 0, 0, 0] [0, 1, 0, 0, 0, 0, 0, 0, 0, 0, 0, 0, 0, 0, 0, 0] [0, 1, 0, 0, 0, 0, 0, 0, 0, 0, 0, 0, 0, 0, 0, 0] [0, 1, 0, 0, 0, 0, 0, 0, 0, 0, 0, 0, 0, 0, 0, 0] ([0, 1, 2, 0, 0, 0, 0, 0, 0, 0, 0, 0, 0, 0, 0, 0], [0, 1, 2, 0, 0, 0, 0, 0, 0, 0, 0, 0, 0, 0, 0, 0], [0, 1, 2, 0, 0, 0, 0, 0, 0, 0, 0, 0, 0, 0, 0, 0], (3 : Int32), (3 : Int32)) (by decide +kernel)) rfl (Nat.le_of_ble_eq_true rfl) (Nat.le_of_ble_eq_true rfl) (Nat.le_of_ble_eq_true rfl) (Nat.le_of_ble_eq_true rfl) rfl rfl ?_
  rintro _ _ ⟨rfl, hH⟩; obtain rfl := hH.symm
  show WP l Z hB _ _ _ _ _ _ _ _ [obj "com/example/dissect/dissect/ReachedRanges" ksRR [(rf hB 3), (.int (3 : Int32)), (rf hB 4), (rf hB 5), (.int (3 : Int32)), (rf hB 1), (rf hB 2)], ints [0, 0, 0, 0, 0, 0, 0, 0], ints [0, 0, 0, 0, 0, 0, 0, 0], ints [0, 1, 2, 0, 0, 0, 0, 0, 0, 0, 0, 0, 0, 0, 0, 0], ints [0, 1, 2, 0, 0, 0, 0, 0, 0, 0, 0, 0, 0, 0, 0, 0], ints [0, 1, 2, 0, 0, 0, 0, 0, 0, 0, 0, 0, 0, 0, 0, 0]] _ _ []
  refine Wk.iloadN (pc' := 119) at_118 rfl rfl ?_
  refine Wk.ifN (pc' := 122) at_119 (XT.i0_eq_f (by decide)) rfl ?_
  refine Wk.aload (pc' := 124) at_122 rfl rfl rfl ?_
  refine Wk.iconst (pc' := 125) (0 : Int32) at_124 (by decide) rfl ?_
  refine Wk.callV (pc' := 128) (argsL := [(.int (0 : Int32))]) (st := []) at_125 (wd56 hw) (wd57 hw) (Wk.nfSel (wd59 hw)) (wd59 hw) (wd58 hw) (wd3 hw) (wd60 hw) (by decide) (lenOf pd_5 rfl) (fun _ P => P.exa rfl) (m_reach l Z a0 hw hB (3 : Int32) (3 : Int32) [0, 0, 0, 0, 0, 0, 0, 0] [0, 0, 0, 0, 0, 0, 0, 0] [0, 1, 2, 0, 0, 0, 0, 0, 0, 0, 0, 0, 0, 0, 0, 0] [0, 1, 2, 0, 0, 0, 0, 0, 0, 0, 0, 0, 0, 0, 0, 0] [0, 1, 2, 0, 0, 0, 0, 0, 0, 0, 0, 0, 0, 0, 0, 0] (0 : Int32) ((4 : Int32), [0, 2, 0, 0, 0, 0, 0, 0], [0, 2, 0, 0, 0, 0, 0, 0], [0, 1, 0, 2, 0, 0, 0, 0, 0, 0, 0, 0, 0, 0, 0, 0], [0, 1, 0, 2, 0, 0, 0, 0, 0, 0, 0, 0, 0, 0, 0, 0]) (by decide +kernel)) rfl (Nat.le_of_ble_eq_true rfl) (Nat.le_of_ble_eq_true rfl) (Nat.le_of_ble_eq_true rfl) (Nat.le_of_ble_eq_true rfl) rfl rfl ?_
  rintro _ _ ⟨rfl, hH⟩; obtain rfl := hH.symm
  show WP l Z hB _ _ _ _ _ _ _ _ [obj "com/example/dissect/dissect/ReachedRanges" ksRR [(rf hB 3), (.int (3 : Int32)), (rf hB 4), (rf hB 5), (.int (4 : Int32)), (rf hB 1), (rf hB 2)], ints [0, 2, 0, 0, 0, 0, 0, 0], ints [0, 2, 0, 0, 0, 0, 0, 0], ints [0, 1, 2, 0, 0, 0, 0, 0, 0, 0, 0, 0, 0, 0, 0, 0], ints [0, 1, 0, 2, 0, 0, 0, 0, 0, 0, 0, 0, 0, 0, 0, 0], ints [0, 1, 0, 2, 0, 0, 0, 0, 0, 0, 0, 0, 0, 0, 0, 0]] _ _ []
  refine Wk.aload (pc' := 130) at_128 rfl rfl rfl ?_
  refine Wk.callV (pc' := 133) (argsL := []) (st := []) at_130 (wd23 hw) (wd24 hw) (Wk.nfSel (wd26 hw)) (wd26 hw) (wd25 hw) (wd3 hw) (wd27 hw) (by decide) (lenOf pd_4 rfl) (fun _ P => P.exa rfl) (m_add l Z a0 hw hB (3 : Int32) (4 : Int32) [0, 2, 0, 0, 0, 0, 0, 0] [0, 2, 0, 0, 0, 0, 0, 0] [0, 1, 2, 0, 0, 0, 0, 0, 0, 0, 0, 0, 0, 0, 0, 0] [0, 1, 0, 2, 0, 0, 0, 0, 0, 0, 0, 0, 0, 0, 0, 0] [0, 1, 0, 2, 0, 0, 0, 0, 0, 0, 0, 0, 0, 0, 0, 0] ([0, 1, 2, 4, 0, 0, 0, 0, 0, 0, 0, 0, 0, 0, 0, 0], [0, 1, 0, 2, 3, 0, 0, 0, 0, 0, 0, 0, 0, 0, 0, 0], [0, 1, 0, 2, 3, 0, 0, 0, 0, 0, 0, 0, 0, 0, 0, 0], (5 : Int32), (4 : Int32)) (by decide +kernel)) rfl (Nat.le_of_ble_eq_true rfl) (Nat.le_of_ble_eq_true rfl) (Nat.le_of_ble_eq_true rfl) (Nat.le_of_ble_eq_true rfl) rfl rfl ?_
  rintro _ _ ⟨rfl, hH⟩; obtain rfl := hH.symm
  show WP l Z hB _ _ _ _ _ _ _ _ [obj "com/example/dissect/dissect/ReachedRanges" ksRR [(rf hB 3), (.int (4 : Int32)), (rf hB 4), (rf hB 5), (.int (5 : Int32)), (rf hB 1), (rf hB 2)], ints [0, 2, 0, 0, 0, 0, 0, 0], ints [0, 2, 0, 0, 0, 0, 0, 0], ints [0, 1, 2, 4, 0, 0, 0, 0, 0, 0, 0, 0, 0, 0, 0, 0], ints [0, 1, 0, 2, 3, 0, 0, 0, 0, 0, 0, 0, 0, 0, 0, 0], ints [0, 1, 0, 2, 3, 0, 0, 0, 0, 0, 0, 0, 0, 0, 0, 0]] _ _ []
  refine Wk.iload (pc' := 135) at_133 rfl rfl ?_
  refine Wk.ifN (pc' := 138) at_135 (XT.i0_eq_f (by decide)) rfl ?_
  refine Wk.aload (pc' := 140) at_138 rfl rfl rfl ?_
  refine Wk.iconst (pc' := 141) (1 : Int32) at_140 (by decide) rfl ?_
  refine Wk.callV (pc' := 144) (argsL := [(.int (1 : Int32))]) (st := []) at_141 (wd56 hw) (wd57 hw) (Wk.nfSel (wd59 hw)) (wd59 hw) (wd58 hw) (wd3 hw) (wd60 hw) (by decide) (lenOf pd_5 rfl) (fun _ P => P.exa rfl) (m_reach l Z a0 hw hB (4 : Int32) (5 : Int32) [0, 2, 0, 0, 0, 0, 0, 0] [0, 2, 0, 0, 0, 0, 0, 0] [0, 1, 2, 4, 0, 0, 0, 0, 0, 0, 0, 0, 0, 0, 0, 0] [0, 1, 0, 2, 3, 0, 0, 0, 0, 0, 0, 0, 0, 0, 0, 0] [0, 1, 0, 2, 3, 0, 0, 0, 0, 0, 0, 0, 0, 0, 0, 0] (1 : Int32) ((6 : Int32), [1, 3, 0, 0, 0, 0, 0, 0], [1, 3, 0, 0, 0, 0, 0, 0], [0, 1, 0, 2, 1, 3, 0, 0, 0, 0, 0, 0, 0, 0, 0, 0], [0, 1, 0, 2, 1, 3, 0, 0, 0, 0, 0, 0, 0, 0, 0, 0]) (by decide +kernel)) rfl (Nat.le_of_ble_eq_true rfl) (Nat.le_of_ble_eq_true rfl) (Nat.le_of_ble_eq_true rfl) (Nat.le_of_ble_eq_true rfl) rfl rfl ?_
  rintro _ _ ⟨rfl, hH⟩; obtain rfl := hH.symm
  show WP l Z hB _ _ _ _ _ _ _ _ [obj "com/example/dissect/dissect/ReachedRanges" ksRR [(rf hB 3), (.int (4 : Int32)), (rf hB 4), (rf hB 5), (.int (6 : Int32)), (rf hB 1), (rf hB 2)], ints [1, 3, 0, 0, 0, 0, 0, 0], ints [1, 3, 0, 0, 0, 0, 0, 0], ints [0, 1, 2, 4, 0, 0, 0, 0, 0, 0, 0, 0, 0, 0, 0, 0], ints [0, 1, 0, 2, 1, 3, 0, 0, 0, 0, 0, 0, 0, 0, 0, 0], ints [0, 1, 0, 2, 1, 3, 0, 0, 0, 0, 0, 0, 0, 0, 0, 0]] _ _ []
  refine Wk.aload (pc' := 146) at_144 rfl rfl rfl ?_
  refine Wk.callV (pc' := 149) (argsL := []) (st := []) at_146 (wd23 hw) (wd24 hw) (Wk.nfSel (wd26 hw)) (wd26 hw) (wd25 hw) (wd3 hw) (wd27 hw) (by decide) (lenOf pd_4 rfl) (fun _ P => P.exa rfl) (m_add l Z a0 hw hB (4 : Int32) (6 : Int32) [1, 3, 0, 0, 0, 0, 0, 0] [1, 3, 0, 0, 0, 0, 0, 0] [0, 1, 2, 4, 0, 0, 0, 0, 0, 0, 0, 0, 0, 0, 0, 0] [0, 1, 0, 2, 1, 3, 0, 0, 0, 0, 0, 0, 0, 0, 0, 0] [0, 1, 0, 2, 1, 3, 0, 0, 0, 0, 0, 0, 0, 0, 0, 0] ([0, 1, 2, 4, 6, 0, 0, 0, 0, 0, 0, 0, 0, 0, 0, 0], [0, 1, 0, 2, 1, 3, 4, 0, 0, 0, 0, 0, 0, 0, 0, 0], [0, 1, 0, 2, 1, 3, 4, 0, 0, 0, 0, 0, 0, 0, 0, 0], (7 : Int32), (5 : Int32)) (by decide +kernel)) rfl (Nat.le_of_ble_eq_true rfl) (Nat.le_of_ble_eq_true rfl) (Nat.le_of_ble_eq_true rfl) (Nat.le_of_ble_eq_true rfl) rfl rfl ?_
  rintro _ _ ⟨rfl, hH⟩; obtain rfl := hH.symm
  show WP l Z hB _ _ _ _ _ _ _ _ [obj "com/example/dissect/dissect/ReachedRanges" ksRR [(rf hB 3), (.int (5 : Int32)), (rf hB 4), (rf hB 5), (.int (7 : Int32)), (rf hB 1), (rf hB 2)], ints [1, 3, 0, 0, 0, 0, 0, 0], ints [1, 3, 0, 0, 0, 0, 0, 0], ints [0, 1, 2, 4, 6, 0, 0, 0, 0, 0, 0, 0, 0, 0, 0, 0], ints [0, 1, 0, 2, 1, 3, 4, 0, 0, 0, 0, 0, 0, 0, 0, 0], ints [0, 1, 0, 2, 1, 3, 4, 0, 0, 0, 0, 0, 0, 0, 0, 0]] _ _ []
  refine Wk.iload (pc' := 151) at_149 rfl rfl ?_
  refine Wk.ifY (pc' := 160) at_151 (XT.i0_eq_t rfl) (by decide) (by decide) ?_
  refine Wk.iload (pc' := 162) at_160 rfl rfl ?_
  refine Wk.ifY (pc' := 171) at_162 (XT.i0_eq_t rfl) (by decide) (by decide) ?_
  exact m_B l Z a0 hw hB x0 x1 x2 (1 : Int32) (1 : Int32) (0 : Int32) (0 : Int32) wd f t [obj "com/example/dissect/dissect/ReachedRanges" ksRR [(rf hB 3), (.int (5 : Int32)), (rf hB 4), (rf hB 5), (.int (7 : Int32)), (rf hB 1), (rf hB 2)], ints [1, 3, 0, 0, 0, 0, 0, 0], ints [1, 3, 0, 0, 0, 0, 0, 0], ints [0, 1, 2, 4, 6, 0, 0, 0, 0, 0, 0, 0, 0, 0, 0, 0], ints [0, 1, 0, 2, 1, 3, 4, 0, 0, 0, 0, 0, 0, 0, 0, 0], ints [0, 1, 0, 2, 1, 3, 4, 0, 0, 0, 0, 0, 0, 0, 0, 0]] _ rfl (Nat.le_of_ble_eq_true rfl) _ (Nat.le_of_ble_eq_true rfl) (by have h := m_may l Z a0 hw hB (5 : Int32) (7 : Int32) [1, 3, 0, 0, 0, 0, 0, 0] [1, 3, 0, 0, 0, 0, 0, 0] [0, 1, 2, 4, 6, 0, 0, 0, 0, 0, 0, 0, 0, 0, 0, 0] [0, 1, 0, 2, 1, 3, 4, 0, 0, 0, 0, 0, 0, 0, 0, 0] [0, 1, 0, 2, 1, 3, 4, 0, 0, 0, 0, 0, 0, 0, 0, 0] f t _ (ok_1100 f t hf0 hf4); rw [expB_nar] at h; exact h)
set_option maxRecDepth 65536 in
set_option maxHeartbeats 40000000 in
theorem m_94_1101 (l : Launch) (Z : State) (a0 : Array Value) (hw : ∀ d ∈ tables_1, d.before a0 Z = true) (hB : Heap) (x0 x1 x2 wd f t : Int32) (no : Addr) (cl : Cell) (sN : Sta Z hB "com/example/dissect/dissect/ReachedRanges" "NO_INTS" "[I" (.ref no)) (A : Arr Z hB no cl .int) (hz : cl.slots.size = 0) (hf0 : 0 ≤ f.toInt) (hf4 : f.toInt ≤ 4) : WP l Z hB x code maxLocals ret room_1 0 (fun v _ => v = some (.int 1)) 0 [] 94 #[.val (.int x0), .val (.int x1), .val (.int x2), .val (.int (1 : Int32)), .val (.int (1 : Int32)), .val (.int (0 : Int32)), .val (.int (1 : Int32)), .val (.int wd), .val (.int f), .val (.int t), .unset, .unset, .unset, .unset, .unset, .unset] [] := by
  refine Wk.newObj (pc' := 97) (i := 0) (H' := [obj "com/example/dissect/dissect/ReachedRanges" ksRR [.null, (.int (0 : Int32)), .null, .null, (.int (0 : Int32)), .null, .null]]) at_94 (wd1 hw) (wd2 hw) (wd3 hw) (ksRR_laid hw) (ksRR_dist hw) (Nat.le_of_ble_eq_true rfl) (Nat.le_of_ble_eq_true rfl) rfl rfl rfl ?_
  refine Wk.dup (pc' := 98) at_97 rfl rfl ?_
  refine Wk.callI (pc' := 101) (argsL := []) (st := [(rf hB 0)]) at_98 rfl (wd4 hw) (wd5 hw) (wd3 hw) (wd6 hw) (by decide) (lenOf pd_4 rfl) (m_init l Z a0 hw hB no cl sN A hz) rfl (Nat.le_of_ble_eq_true rfl) (Nat.le_of_ble_eq_true rfl) (Nat.le_of_ble_eq_true rfl) (Nat.le_of_ble_eq_true rfl) rfl rfl ?_
  rintro _ _ ⟨rfl, hH⟩; obtain rfl := hH.symm
  show WP l Z hB _ _ _ _ _ _ _ _ [obj "com/example/dissect/dissect/ReachedRanges" ksRR [(.ref no), (.int (0 : Int32)), (.ref no), (.ref no), (.int (0 : Int32)), (rf hB 1), (rf hB 2)], ints [0, 0, 0, 0, 0, 0, 0, 0], ints [0, 0, 0, 0, 0, 0, 0, 0]] _ _ [(rf hB 0)]
  refine Wk.astore (pc' := 103) (Ls' := #[.val (.int x0), .val (.int x1), .val (.int x2), .val (.int (1 : Int32)), .val (.int (1 : Int32)), .val (.int (0 : Int32)), .val (.int (1 : Int32)), .val (.int wd), .val (.int f), .val (.int t), .val (rf hB 0), .unset, .unset, .unset, .unset, .unset]) at_101 rfl rfl rfl ?_
  refine Wk.aload (pc' := 105) at_103 rfl rfl rfl ?_
  refine Wk.callV (pc' := 108) (argsL := []) (st := []) at_105 (wd23 hw) (wd24 hw) (Wk.nfSel (wd26 hw)) (wd26 hw) (wd25 hw) (wd3 hw) (wd27 hw) (by decide) (lenOf pd_4 rfl) (fun _ P => P.exa rfl) (m_add0 l Z a0 hw hB no cl sN A hz) rfl (Nat.le_of_ble_eq_true rfl) (Nat.le_of_ble_eq_true rfl) (Nat.le_of_ble_eq_true rfl) (Nat.le_of_ble_eq_true rfl) rfl rfl ?_
  rintro _ _ ⟨rfl, hH⟩; obtain rfl := hH.symm
  show WP l Z hB _ _ _ _ _ _ _ _ [obj "com/example/dissect/dissect/ReachedRanges" ksRR [(rf hB 3), (.int (1 : Int32)), (rf hB 4), (rf hB 5), (.int (1 : Int32)), (rf hB 1), (rf hB 2)], ints [0, 0, 0, 0, 0, 0, 0, 0], ints [0, 0, 0, 0, 0, 0, 0, 0], ints [0, 0, 0, 0, 0, 0, 0, 0, 0, 0, 0, 0, 0, 0, 0, 0], ints [0, 0, 0, 0, 0, 0, 0, 0, 0, 0, 0, 0, 0, 0, 0, 0], ints [0, 0, 0, 0, 0, 0, 0, 0, 0, 0, 0, 0, 0, 0, 0, 0]] _ _ []
  refine Wk.aload (pc' := 110) at_108 rfl rfl rfl ?_
  refine Wk.callV (pc' := 113) (argsL := []) (st := []) at_110 (wd23 hw) (wd24 hw) (Wk.nfSel (wd26 hw)) (wd26 hw) (wd25 hw) (wd3 hw) (wd27 hw) (by decide) (lenOf pd_4 rfl) (fun _ P => P.exa rfl) (m_add l Z a0 hw hB (1 : Int32) (1 : Int32) [0, 0, 0, 0, 0, 0, 0, 0] [0, 0, 0, 0, 0, 0, 0, 0] [0, 0, 0, 0, 0, 0, 0, 0, 0, 0, 0, 0, 0, 0, 0, 0] [0, 0, 0, 0, 0, 0, 0, 0, 0, 0, 0, 0, 0, 0, 0, 0] [0, 0, 0, 0, 0, 0, 0, 0, 0, 0, 0, 0, 0, 0, 0, 0] ([0, 1, 0, 0, 0, 0, 0, 0, 0, 0, 0, 0, 0, 0, 0, 0], [0, 1, 0, 0, 0, 0, 0, 0, 0, 0, 0, 0, 0, 0, 0, 0], [0, 1, 0, 0, 0, 0, 0, 0, 0, 0, 0, 0, 0, 0, 0, 0], (2 : Int32), (2 : Int32)) (by decide +kernel)) rfl (Nat.le_of_ble_eq_true rfl) (Nat.le_of_ble_eq_true rfl) (Nat.le_of_ble_eq_true rfl) (Nat.le_of_ble_eq_true rfl) rfl rfl ?_
  rintro _ _ ⟨rfl, hH⟩; obtain rfl := hH.symm
  show WP l Z hB _ _ _ _ _ _ _ _ [obj "com/example/dissect/dissect/ReachedRanges" ksRR [(rf hB 3), (.int (2 : Int32)), (rf hB 4), (rf hB 5), (.int (2 : Int32)), (rf hB 1), (rf hB 2)], ints [0, 0, 0, 0, 0, 0, 0, 0], ints [0, 0, 0, 0, 0, 0, 0, 0], ints [0, 1, 0, 0, 0, 0, 0, 0, 0, 0, 0, 0, 0, 0, 0, 0], ints [0, 1, 0, 0, 0, 0, 0, 0, 0, 0, 0, 0, 0, 0, 0, 0], ints [0, 1, 0, 0, 0, 0, 0, 0, 0, 0, 0, 0, 0, 0, 0, 0]] _ _ []
  refine Wk.aload (pc' := 115) at_113 rfl rfl rfl ?_
  refine Wk.callV (pc' := 118) (argsL := []) (st := []) at_115 (wd23 hw) (wd24 hw) (Wk.nfSel (wd26 hw)) (wd26 hw) (wd25 hw) (wd3 hw) (wd27 hw) (by decide) (lenOf pd_4 rfl) (fun _ P => P.exa rfl) (m_add l Z a0 hw hB (2 : Int32) (2 : Int32) [0, 0, 0, 0, 0, 0, 0, 0] [0, 0, 0, 0, 0, 0, 0, 0] [0, 1, 0, 0, 0, 0, 0, 0, 0, 0, 0, 0, 0, 0, 0, 0] [0, 1, 0, 0, 0, 0, 0, 0, 0, 0, 0, 0, 0, 0, 0, 0] [0, 1, 0, 0, 0, 0, 0, 0, 0, 0, 0, 0, 0, 0, 0, 0] ([0, 1, 2, 0, 0, 0, 0, 0, 0, 0, 0, 0, 0, 0, 0, 0], [0, 1, 2, 0, 0, 0, 0, 0, 0, 0, 0, 0, 0, 0, 0, 0], [0, 1, 2, 0, 0, 0, 0, 0, 0, 0, 0, 0, 0, 0, 0, 0], (3 : Int32), (3 : Int32)) (by decide +kernel)) rfl (Nat.le_of_ble_eq_true rfl) (Nat.le_of_ble_eq_true rfl) (Nat.le_of_ble_eq_true rfl) (Nat.le_of_ble_eq_true rfl) rfl rfl ?_
  rintro _ _ ⟨rfl, hH⟩; obtain rfl := hH.symm
  show WP l Z hB _ _ _ _ _ _ _ _ [obj "com/example/dissect/dissect/ReachedRanges" ksRR [(rf hB 3), (.int (3 : Int32)), (rf hB 4), (rf hB 5), (.int (3 : Int32)), (rf hB 1), (rf hB 2)], ints [0, 0, 0, 0, 0, 0, 0, 0], ints [0, 0, 0, 0, 0, 0, 0, 0], ints [0, 1, 2, 0, 0, 0, 0, 0, 0, 0, 0, 0, 0, 0, 0, 0], ints [0, 1, 2, 0, 0, 0, 0, 0, 0, 0, 0, 0, 0, 0, 0, 0], ints [0, 1, 2, 0, 0, 0, 0, 0, 0, 0, 0, 0, 0, 0, 0, 0]] _ _ []
  refine Wk.iloadN (pc' := 119) at_118 rfl rfl ?_
  refine Wk.ifN (pc' := 122) at_119 (XT.i0_eq_f (by decide)) rfl ?_
  refine Wk.aload (pc' := 124) at_122 rfl rfl rfl ?_
  refine Wk.iconst (pc' := 125) (0 : Int32) at_124 (by decide) rfl ?_
  refine Wk.callV (pc' := 128) (argsL := [(.int (0 : Int32))]) (st := []) at_125 (wd56 hw) (wd57 hw) (Wk.nfSel (wd59 hw)) (wd59 hw) (wd58 hw) (wd3 hw) (wd60 hw) (by decide) (lenOf pd_5 rfl) (fun _ P => P.exa rfl) (m_reach l Z a0 hw hB (3 : Int32) (3 : Int32) [0, 0, 0, 0, 0, 0, 0, 0] [0, 0, 0, 0, 0, 0, 0, 0] [0, 1, 2, 0, 0, 0, 0, 0, 0, 0, 0, 0, 0, 0, 0, 0] [0, 1, 2, 0, 0, 0, 0, 0, 0, 0, 0, 0, 0, 0, 0, 0] [0, 1, 2, 0, 0, 0, 0, 0, 0, 0, 0, 0, 0, 0, 0, 0] (0 : Int32) ((4 : Int32), [0, 2, 0, 0, 0, 0, 0, 0], [0, 2, 0, 0, 0, 0, 0, 0], [0, 1, 0, 2, 0, 0, 0, 0, 0, 0, 0, 0, 0, 0, 0, 0], [0, 1, 0, 2, 0, 0, 0, 0, 0, 0, 0, 0, 0, 0, 0, 0]) (by decide +kernel)) rfl (Nat.le_of_ble_eq_true rfl) (Nat.le_of_ble_eq_true rfl) (Nat.le_of_ble_eq_true rfl) (Nat.le_of_ble_eq_true rfl) rfl rfl ?_
  rintro _ _ ⟨rfl, hH⟩; obtain rfl := hH.symm
  show WP l Z hB _ _ _ _ _ _ _ _ [obj "com/example/dissect/dissect/ReachedRanges" ksRR [(rf hB 3), (.int (3 : Int32)), (rf hB 4), (rf hB 5), (.int (4 : Int32)), (rf hB 1), (rf hB 2)], ints [0, 2, 0, 0, 0, 0, 0, 0], ints [0, 2, 0, 0, 0, 0, 0, 0], ints [0, 1, 2, 0, 0, 0, 0, 0, 0, 0, 0, 0, 0, 0, 0, 0], ints [0, 1, 0, 2, 0, 0, 0, 0, 0, 0, 0, 0, 0, 0, 0, 0], ints [0, 1, 0, 2, 0, 0, 0, 0, 0, 0, 0, 0, 0, 0, 0, 0]] _ _ []
  refine Wk.aload (pc' := 130) at_128 rfl rfl rfl ?_
  refine Wk.callV (pc' := 133) (argsL := []) (st := []) at_130 (wd23 hw) (wd24 hw) (Wk.nfSel (wd26 hw)) (wd26 hw) (wd25 hw) (wd3 hw) (wd27 hw) (by decide) (lenOf pd_4 rfl) (fun _ P => P.exa rfl) (m_add l Z a0 hw hB (3 : Int32) (4 : Int32) [0, 2, 0, 0, 0, 0, 0, 0] [0, 2, 0, 0, 0, 0, 0, 0] [0, 1, 2, 0, 0, 0, 0, 0, 0, 0, 0, 0, 0, 0, 0, 0] [0, 1, 0, 2, 0, 0, 0, 0, 0, 0, 0, 0, 0, 0, 0, 0] [0, 1, 0, 2, 0, 0, 0, 0, 0, 0, 0, 0, 0, 0, 0, 0] ([0, 1, 2, 4, 0, 0, 0, 0, 0, 0, 0, 0, 0, 0, 0, 0], [0, 1, 0, 2, 3, 0, 0, 0, 0, 0, 0, 0, 0, 0, 0, 0], [0, 1, 0, 2, 3, 0, 0, 0, 0, 0, 0, 0, 0, 0, 0, 0], (5 : Int32), (4 : Int32)) (by decide +kernel)) rfl (Nat.le_of_ble_eq_true rfl) (Nat.le_of_ble_eq_true rfl) (Nat.le_of_ble_eq_true rfl) (Nat.le_of_ble_eq_true rfl) rfl rfl ?_
  rintro _ _ ⟨rfl, hH⟩; obtain rfl := hH.symm
  show WP l Z hB _ _ _ _ _ _ _ _ [obj "com/example/dissect/dissect/ReachedRanges" ksRR [(rf hB 3), (.int (4 : Int32)), (rf hB 4), (rf hB 5), (.int (5 : Int32)), (rf hB 1), (rf hB 2)], ints [0, 2, 0, 0, 0, 0, 0, 0], ints [0, 2, 0, 0, 0, 0, 0, 0], ints [0, 1, 2, 4, 0, 0, 0, 0, 0, 0, 0, 0, 0, 0, 0, 0], ints [0, 1, 0, 2, 3, 0, 0, 0, 0, 0, 0, 0, 0, 0, 0, 0], ints [0, 1, 0, 2, 3, 0, 0, 0, 0, 0, 0, 0, 0, 0, 0, 0]] _ _ []
  refine Wk.iload (pc' := 135) at_133 rfl rfl ?_
  refine Wk.ifN (pc' := 138) at_135 (XT.i0_eq_f (by decide)) rfl ?_
  refine Wk.aload (pc' := 140) at_138 rfl rfl rfl ?_
  refine Wk.iconst (pc' := 141) (1 : Int32) at_140 (by decide) rfl ?_
  refine Wk.callV (pc' := 144) (argsL := [(.int (1 : Int32))]) (st := []) at_141 (wd56 hw) (wd57 hw) (Wk.nfSel (wd59 hw)) (wd59 hw) (wd58 hw) (wd3 hw) (wd60 hw) (by decide) (lenOf pd_5 rfl) (fun _ P => P.exa rfl) (m_reach l Z a0 hw hB (4 : Int32) (5 : Int32) [0, 2, 0, 0, 0, 0, 0, 0] [0, 2, 0, 0, 0, 0, 0, 0] [0, 1, 2, 4, 0, 0, 0, 0, 0, 0, 0, 0, 0, 0, 0, 0] [0, 1, 0, 2, 3, 0, 0, 0, 0, 0, 0, 0, 0, 0, 0, 0] [0, 1, 0, 2, 3, 0, 0, 0, 0, 0, 0, 0, 0, 0, 0, 0] (1 : Int32) ((6 : Int32), [1, 3, 0, 0, 0, 0, 0, 0], [1, 3, 0, 0, 0, 0, 0, 0], [0, 1, 0, 2, 1, 3, 0, 0, 0, 0, 0, 0, 0, 0, 0, 0], [0, 1, 0, 2, 1, 3, 0, 0, 0, 0, 0, 0, 0, 0, 0, 0]) (by decide +kernel)) rfl (Nat.le_of_ble_eq_true rfl) (Nat.le_of_ble_eq_true rfl) (Nat.le_of_ble_eq_true rfl) (Nat.le_of_ble_eq_true rfl) rfl rfl ?_
  rintro _ _ ⟨rfl, hH⟩; obtain rfl := hH.symm
  show WP l Z hB _ _ _ _ _ _ _ _ [obj "com/example/dissect/dissect/ReachedRanges" ksRR [(rf hB 3), (.int (4 : Int32)), (rf hB 4), (rf hB 5), (.int (6 : Int32)), (rf hB 1), (rf hB 2)], ints [1, 3, 0, 0, 0, 0, 0, 0], ints [1, 3, 0, 0, 0, 0, 0, 0], ints [0, 1, 2, 4, 0, 0, 0, 0, 0, 0, 0, 0, 0, 0, 0, 0], ints [0, 1, 0, 2, 1, 3, 0, 0, 0, 0, 0, 0, 0, 0, 0, 0], ints [0, 1, 0, 2, 1, 3, 0, 0, 0, 0, 0, 0, 0, 0, 0, 0]] _ _ []
  refine Wk.aload (pc' := 146) at_144 rfl rfl rfl ?_
  refine Wk.callV (pc' := 149) (argsL := []) (st := []) at_146 (wd23 hw) (wd24 hw) (Wk.nfSel (wd26 hw)) (wd26 hw) (wd25 hw) (wd3 hw) (wd27 hw) (by decide) (lenOf pd_4 rfl) (fun _ P => P.exa rfl) (m_add l Z a0 hw hB (4 : Int32) (6 : Int32) [1, 3, 0, 0, 0, 0, 0, 0] [1, 3, 0, 0, 0, 0, 0, 0] [0, 1, 2, 4, 0, 0, 0, 0, 0, 0, 0, 0, 0, 0, 0, 0] [0, 1, 0, 2, 1, 3, 0, 0, 0, 0, 0, 0, 0, 0, 0, 0] [0, 1, 0, 2, 1, 3, 0, 0, 0, 0, 0, 0, 0, 0, 0, 0] ([0, 1, 2, 4, 6, 0, 0, 0, 0, 0, 0, 0, 0, 0, 0, 0], [0, 1, 0, 2, 1, 3, 4, 0, 0, 0, 0, 0, 0, 0, 0, 0], [0, 1, 0, 2, 1, 3, 4, 0, 0, 0, 0, 0, 0, 0, 0, 0], (7 : Int32), (5 : Int32)) (by decide +kernel)) rfl (Nat.le_of_ble_eq_true rfl) (Nat.le_of_ble_eq_true rfl) (Nat.le_of_ble_eq_true rfl) (Nat.le_of_ble_eq_true rfl) rfl rfl ?_
  rintro _ _ ⟨rfl, hH⟩; obtain rfl := hH.symm
  show WP l Z hB _ _ _ _ _ _ _ _ [obj "com/example/dissect/dissect/ReachedRanges" ksRR [(rf hB 3), (.int (5 : Int32)), (rf hB 4), (rf hB 5), (.int (7 : Int32)), (rf hB 1), (rf hB 2)], ints [1, 3, 0, 0, 0, 0, 0, 0], ints [1, 3, 0, 0, 0, 0, 0, 0], ints [0, 1, 2, 4, 6, 0, 0, 0, 0, 0, 0, 0, 0, 0, 0, 0], ints [0, 1, 0, 2, 1, 3, 4, 0, 0, 0, 0, 0, 0, 0, 0, 0], ints [0, 1, 0, 2, 1, 3, 4, 0, 0, 0, 0, 0, 0, 0, 0, 0]] _ _ []
  refine Wk.iload (pc' := 151) at_149 rfl rfl ?_
  refine Wk.ifY (pc' := 160) at_151 (XT.i0_eq_t rfl) (by decide) (by decide) ?_
  refine Wk.iload (pc' := 162) at_160 rfl rfl ?_
  refine Wk.ifN (pc' := 165) at_162 (XT.i0_eq_f (by decide)) rfl ?_
  refine Wk.aload (pc' := 167) at_165 rfl rfl rfl ?_
  refine Wk.iconst (pc' := 168) (2 : Int32) at_167 (by decide) rfl ?_
  refine Wk.callV (pc' := 171) (argsL := [(.int (2 : Int32))]) (st := []) at_168 (wd56 hw) (wd57 hw) (Wk.nfSel (wd59 hw)) (wd59 hw) (wd58 hw) (wd3 hw) (wd60 hw) (by decide) (lenOf pd_5 rfl) (fun _ P => P.exa rfl) (m_reach l Z a0 hw hB (5 : Int32) (7 : Int32) [1, 3, 0, 0, 0, 0, 0, 0] [1, 3, 0, 0, 0, 0, 0, 0] [0, 1, 2, 4, 6, 0, 0, 0, 0, 0, 0, 0, 0, 0, 0, 0] [0, 1, 0, 2, 1, 3, 4, 0, 0, 0, 0, 0, 0, 0, 0, 0] [0, 1, 0, 2, 1, 3, 4, 0, 0, 0, 0, 0, 0, 0, 0, 0] (2 : Int32) ((9 : Int32), [0, 2, 4, 0, 0, 0, 0, 0], [0, 2, 4, 0, 0, 0, 0, 0], [0, 1, 0, 2, 1, 3, 0, 2, 4, 0, 0, 0, 0, 0, 0, 0], [0, 1, 0, 2, 1, 3, 0, 2, 4, 0, 0, 0, 0, 0, 0, 0]) (by decide +kernel)) rfl (Nat.le_of_ble_eq_true rfl) (Nat.le_of_ble_eq_true rfl) (Nat.le_of_ble_eq_true rfl) (Nat.le_of_ble_eq_true rfl) rfl rfl ?_
  rintro _ _ ⟨rfl, hH⟩; obtain rfl := hH.symm
  show WP l Z hB _ _ _ _ _ _ _ _ [obj "com/example/dissect/dissect/ReachedRanges" ksRR [(rf hB 3), (.int (5 : Int32)), (rf hB 4), (rf hB 5), (.int (9 : Int32)), (rf hB 1), (rf hB 2)], ints [0, 2, 4, 0, 0, 0, 0, 0], ints [0, 2, 4, 0, 0, 0, 0, 0], ints [0, 1, 2, 4, 6, 0, 0, 0, 0, 0, 0, 0, 0, 0, 0, 0], ints [0, 1, 0, 2, 1, 3, 0, 2, 4, 0, 0, 0, 0, 0, 0, 0], ints [0, 1, 0, 2, 1, 3, 0, 2, 4, 0, 0, 0, 0, 0, 0, 0]] _ _ []
  exact m_B l Z a0 hw hB x0 x1 x2 (1 : Int32) (1 : Int32) (0 : Int32) (1 : Int32) wd f t [obj "com/example/dissect/dissect/ReachedRanges" ksRR [(rf hB 3), (.int (5 : Int32)), (rf hB 4), (rf hB 5), (.int (9 : Int32)), (rf hB 1), (rf hB 2)], ints [0, 2, 4, 0, 0, 0, 0, 0], ints [0, 2, 4, 0, 0, 0, 0, 0], ints [0, 1, 2, 4, 6, 0, 0, 0, 0, 0, 0, 0, 0, 0, 0, 0], ints [0, 1, 0, 2, 1, 3, 0, 2, 4, 0, 0, 0, 0, 0, 0, 0], ints [0, 1, 0, 2, 1, 3, 0, 2, 4, 0, 0, 0, 0, 0, 0, 0]] _ rfl (Nat.le_of_ble_eq_true rfl) _ (Nat.le_of_ble_eq_true rfl) (by have h := m_may l Z a0 hw hB (5 : Int32) (9 : Int32) [0, 2, 4, 0, 0, 0, 0, 0] [0, 2, 4, 0, 0, 0, 0, 0] [0, 1, 2, 4, 6, 0, 0, 0, 0, 0, 0, 0, 0, 0, 0, 0] [0, 1, 0, 2, 1, 3, 0, 2, 4, 0, 0, 0, 0, 0, 0, 0] [0, 1, 0, 2, 1, 3, 0, 2, 4, 0, 0, 0, 0, 0, 0, 0] f t _ (ok_1101 f t hf0 hf4); rw [expB_nar] at h; exact h)
set_option maxRecDepth 65536 in
set_option maxHeartbeats 40000000 in
theorem m_94_1110 (l : Launch) (Z : State) (a0 : Array Value) (hw : ∀ d ∈ tables_1, d.before a0 Z = true) (hB : Heap) (x0 x1 x2 wd f t : Int32) (no : Addr) (cl : Cell) (sN : Sta Z hB "com/example/dissect/dissect/ReachedRanges" "NO_INTS" "[I" (.ref no)) (A : Arr Z hB no cl .int) (hz : cl.slots.size = 0) (hf0 : 0 ≤ f.toInt) (hf4 : f.toInt ≤ 4) : WP l Z hB x code maxLocals ret room_1 0 (fun v _ => v = some (.int 1)) 0 [] 94 #[.val (.int x0), .val (.int x1), .val (.int x2), .val (.int (1 : Int32)), .val (.int (1 : Int32)), .val (.int (1 : Int32)), .val (.int (0 : Int32)), .val (.int wd), .val (.int f), .val (.int t), .unset, .unset, .unset, .unset, .unset, .unset] [] := by
  refine Wk.newObj (pc' := 97) (i := 0) (H' := [obj "com/example/dissect/dissect/ReachedRanges" ksRR [.null, (.int (0 : Int32)), .null, .null, (.int (0 : Int32)), .null, .null]]) at_94 (wd1 hw) (wd2 hw) (wd3 hw) (ksRR_laid hw) (ksRR_dist hw) (Nat.le_of_ble_eq_true rfl) (Nat.le_of_ble_eq_true rfl) rfl rfl rfl ?_
  refine Wk.dup (pc' := 98) at_97 rfl rfl ?_
  refine Wk.callI (pc' := 101) (argsL := []) (st := [(rf hB 0)]) at_98 rfl (wd4 hw) (wd5 hw) (wd3 hw) (wd6 hw) (by decide) (lenOf pd_4 rfl) (m_init l Z a0 hw hB no cl sN A hz) rfl (Nat.le_of_ble_eq_true rfl) (Nat.le_of_ble_eq_true rfl) (Nat.le_of_ble_eq_true rfl) (Nat.le_of_ble_eq_true rfl) rfl rfl ?_
  rintro _ _ ⟨rfl, hH⟩; obtain rfl := hH.symm
  show WP l Z hB _ _ _ _ _ _ _ _ [obj "com/example/dissect/dissect/ReachedRanges" ksRR [(.ref no), (.int (0 : Int32)), (.ref no), (.ref no), (.int (0 : Int32)), (rf hB 1), (rf hB 2)], ints [0, 0, 0, 0, 0, 0, 0, 0], ints [0, 0, 0, 0, 0, 0, 0, 0]] _ _ [(rf hB 0)]
  refine Wk.astore (pc' := 103) (Ls' := #[.val (.int x0), .val (.int x1), .val (.int x2), .val (.int (1 : Int32)), .val (.int (1 : Int32)), .val (.int (1 : Int32)), .val (.int (0 : Int32)), .val (.int wd), .val (.int f), .val (.int t), .val (rf hB 0), .unset, .unset, .unset, .unset, .unset]) at_101 rfl rfl rfl ?_
  refine Wk.aload (pc' := 105) at_103 rfl rfl rfl ?_
  refine Wk.callV (pc' := 108) (argsL := []) (st := []) at_105 (wd23 hw) (wd24 hw) (Wk.nfSel (wd26 hw)) (wd26 hw) (wd25 hw) (wd3 hw) (wd27 hw) (by decide) (lenOf pd_4 rfl) (fun _ P => P.exa rfl) (m_add0 l Z a0 hw hB no cl sN A hz) rfl (Nat.le_of_ble_eq_true rfl) (Nat.le_of_ble_eq_true rfl) (Nat.le_of_ble_eq_true rfl) (Nat.le_of_ble_eq_true rfl) rfl rfl ?_
  rintro _ _ ⟨rfl, hH⟩; obtain rfl := hH.symm
  show WP l Z hB _ _ _ _ _ _ _ _ [obj "com/example/dissect/dissect/ReachedRanges" ksRR [(rf hB 3), (.int (1 : Int32)), (rf hB 4), (rf hB 5), (.int (1 : Int32)), (rf hB 1), (rf hB 2)], ints [0, 0, 0, 0, 0, 0, 0, 0], ints [0, 0, 0, 0, 0, 0, 0, 0], ints [0, 0, 0, 0, 0, 0, 0, 0, 0, 0, 0, 0, 0, 0, 0, 0], ints [0, 0, 0, 0, 0, 0, 0, 0, 0, 0, 0, 0, 0, 0, 0, 0], ints [0, 0, 0, 0, 0, 0, 0, 0, 0, 0, 0, 0, 0, 0, 0, 0]] _ _ []
  refine Wk.aload (pc' := 110) at_108 rfl rfl rfl ?_
  refine Wk.callV (pc' := 113) (argsL := []) (st := []) at_110 (wd23 hw) (wd24 hw) (Wk.nfSel (wd26 hw)) (wd26 hw) (wd25 hw) (wd3 hw) (wd27 hw) (by decide) (lenOf pd_4 rfl) (fun _ P => P.exa rfl) (m_add l Z a0 hw hB (1 : Int32) (1 : Int32) [0, 0, 0, 0, 0, 0, 0, 0] [0, 0, 0, 0, 0, 0, 0, 0] [0, 0, 0, 0, 0, 0, 0, 0, 0, 0, 0, 0, 0, 0, 0, 0] [0, 0, 0, 0, 0, 0, 0, 0, 0, 0, 0, 0, 0, 0, 0, 0] [0, 0, 0, 0, 0, 0, 0, 0, 0, 0, 0, 0, 0, 0, 0, 0] ([0, 1, 0, 0, 0, 0, 0, 0, 0, 0, 0, 0, 0, 0, 0, 0], [0, 1, 0, 0, 0, 0, 0, 0, 0, 0, 0, 0, 0, 0, 0, 0], [0, 1, 0, 0, 0, 0, 0, 0, 0, 0, 0, 0, 0, 0, 0, 0], (2 : Int32), (2 : Int32)) (by decide +kernel)) rfl (Nat.le_of_ble_eq_true rfl) (Nat.le_of_ble_eq_true rfl) (Nat.le_of_ble_eq_true rfl) (Nat.le_of_ble_eq_true rfl) rfl rfl ?_
  rintro _ _ ⟨rfl, hH⟩; obtain rfl := hH.symm
  show WP l Z hB _ _ _ _ _ _ _ _ [obj "com/example/dissect/dissect/ReachedRanges" ksRR [(rf hB 3), (.int (2 : Int32)), (rf hB 4), (rf hB 5), (.int (2 : Int32)), (rf hB 1), (rf hB 2)], ints [0, 0, 0, 0, 0, 0, 0, 0], ints [0, 0, 0, 0, 0, 0, 0, 0], ints [0, 1, 0, 0, 0, 0, 0, 0, 0, 0, 0, 0, 0, 0, 0, 0], ints [0, 1, 0, 0, 0, 0, 0, 0, 0, 0, 0, 0, 0, 0, 0, 0], ints [0, 1, 0, 0, 0, 0, 0, 0, 0, 0, 0, 0, 0, 0, 0, 0]] _ _ []
  refine Wk.aload (pc' := 115) at_113 rfl rfl rfl ?_
  refine Wk.callV (pc' := 118) (argsL := []) (st := []) at_115 (wd23 hw) (wd24 hw) (Wk.nfSel (wd26 hw)) (wd26 hw) (wd25 hw) (wd3 hw) (wd27 hw) (by decide) (lenOf pd_4 rfl) (fun _ P => P.exa rfl) (m_add l Z a0 hw hB (2 : Int32) (2 : Int32) [0, 0, 0, 0, 0, 0, 0, 0] [0, 0, 0, 0, 0, 0, 0, 0] [0, 1, 0, 0, 0, 0, 0, 0, 0, 0, 0, 0, 0, 0, 0, 0] [0, 1, 0, 0, 0, 0, 0, 0, 0, 0, 0, 0, 0, 0, 0, 0] [0, 1, 0, 0, 0, 0, 0, 0, 0, 0, 0, 0, 0, 0, 0, 0] ([0, 1, 2, 0, 0, 0, 0, 0, 0, 0, 0, 0, 0, 0, 0, 0], [0, 1, 2, 0, 0, 0, 0, 0, 0, 0, 0, 0, 0, 0, 0, 0], [0, 1, 2, 0, 0, 0, 0, 0, 0, 0, 0, 0, 0, 0, 0, 0], (3 : Int32), (3 : Int32)) (by decide +kernel)) rfl (Nat.le_of_ble_eq_true rfl) (Nat.le_of_ble_eq_true rfl) (Nat.le_of_ble_eq_true rfl) (Nat.le_of_ble_eq_true rfl) rfl rfl ?_
  rintro _ _ ⟨rfl, hH⟩; obtain rfl := hH.symm
  show WP l Z hB _ _ _ _ _ _ _ _ [obj "com/example/dissect/dissect/ReachedRanges" ksRR [(rf hB 3), (.int (3 : Int32)), (rf hB 4), (rf hB 5), (.int (3 : Int32)), (rf hB 1), (rf hB 2)], ints [0, 0, 0, 0, 0, 0, 0, 0], ints [0, 0, 0, 0, 0, 0, 0, 0], ints [0, 1, 2, 0, 0, 0, 0, 0, 0, 0, 0, 0, 0, 0, 0, 0], ints [0, 1, 2, 0, 0, 0, 0, 0, 0, 0, 0, 0, 0, 0, 0, 0], ints [0, 1, 2, 0, 0, 0, 0, 0, 0, 0, 0, 0, 0, 0, 0, 0]] _ _ []
  refine Wk.iloadN (pc' := 119) at_118 rfl rfl ?_
  refine Wk.ifN (pc' := 122) at_119 (XT.i0_eq_f (by decide)) rfl ?_
  refine Wk.aload (pc' := 124) at_122 rfl rfl rfl ?_
  refine Wk.iconst (pc' := 125) (0 : Int32) at_124 (by decide) rfl ?_
  refine Wk.callV (pc' := 128) (argsL := [(.int (0 : Int32))]) (st := []) at_125 (wd56 hw) (wd57 hw) (Wk.nfSel (wd59 hw)) (wd59 hw) (wd58 hw) (wd3 hw) (wd60 hw) (by decide) (lenOf pd_5 rfl) (fun _ P => P.exa rfl) (m_reach l Z a0 hw hB (3 : Int32) (3 : Int32) [0, 0, 0, 0, 0, 0, 0, 0] [0, 0, 0, 0, 0, 0, 0, 0] [0, 1, 2, 0, 0, 0, 0, 0, 0, 0, 0, 0, 0, 0, 0, 0] [0, 1, 2, 0, 0, 0, 0, 0, 0, 0, 0, 0, 0, 0, 0, 0] [0, 1, 2, 0, 0, 0, 0, 0, 0, 0, 0, 0, 0, 0, 0, 0] (0 : Int32) ((4 : Int32), [0, 2, 0, 0, 0, 0, 0, 0], [0, 2, 0, 0, 0, 0, 0, 0], [0, 1, 0, 2, 0, 0, 0, 0, 0, 0, 0, 0, 0, 0, 0, 0], [0, 1, 0, 2, 0, 0, 0, 0, 0, 0, 0, 0, 0, 0, 0, 0]) (by decide +kernel)) rfl (Nat.le_of_ble_eq_true rfl) (Nat.le_of_ble_eq_true rfl) (Nat.le_of_ble_eq_true rfl) (Nat.le_of_ble_eq_true rfl) rfl rfl ?_
  rintro _ _ ⟨rfl, hH⟩; obtain rfl := hH.symm
  show WP l Z hB _ _ _ _ _ _ _ _ [obj "com/example/dissect/dissect/ReachedRanges" ksRR [(rf hB 3), (.int (3 : Int32)), (rf hB 4), (rf hB 5), (.int (4 : Int32)), (rf hB 1), (rf hB 2)], ints [0, 2, 0, 0, 0, 0, 0, 0], ints [0, 2, 0, 0, 0, 0, 0, 0], ints [0, 1, 2, 0, 0, 0, 0, 0, 0, 0, 0, 0, 0, 0, 0, 0], ints [0, 1, 0, 2, 0, 0, 0, 0, 0, 0, 0, 0, 0, 0, 0, 0], ints [0, 1, 0, 2, 0, 0, 0, 0, 0, 0, 0, 0, 0, 0, 0, 0]] _ _ []
  refine Wk.aload (pc' := 130) at_128 rfl rfl rfl ?_
  refine Wk.callV (pc' := 133) (argsL := []) (st := []) at_130 (wd23 hw) (wd24 hw) (Wk.nfSel (wd26 hw)) (wd26 hw) (wd25 hw) (wd3 hw) (wd27 hw) (by decide) (lenOf pd_4 rfl) (fun _ P => P.exa rfl) (m_add l Z a0 hw hB (3 : Int32) (4 : Int32) [0, 2, 0, 0, 0, 0, 0, 0] [0, 2, 0, 0, 0, 0, 0, 0] [0, 1, 2, 0, 0, 0, 0, 0, 0, 0, 0, 0, 0, 0, 0, 0] [0, 1, 0, 2, 0, 0, 0, 0, 0, 0, 0, 0, 0, 0, 0, 0] [0, 1, 0, 2, 0, 0, 0, 0, 0, 0, 0, 0, 0, 0, 0, 0] ([0, 1, 2, 4, 0, 0, 0, 0, 0, 0, 0, 0, 0, 0, 0, 0], [0, 1, 0, 2, 3, 0, 0, 0, 0, 0, 0, 0, 0, 0, 0, 0], [0, 1, 0, 2, 3, 0, 0, 0, 0, 0, 0, 0, 0, 0, 0, 0], (5 : Int32), (4 : Int32)) (by decide +kernel)) rfl (Nat.le_of_ble_eq_true rfl) (Nat.le_of_ble_eq_true rfl) (Nat.le_of_ble_eq_true rfl) (Nat.le_of_ble_eq_true rfl) rfl rfl ?_
  rintro _ _ ⟨rfl, hH⟩; obtain rfl := hH.symm
  show WP l Z hB _ _ _ _ _ _ _ _ [obj "com/example/dissect/dissect/ReachedRanges" ksRR [(rf hB 3), (.int (4 : Int32)), (rf hB 4), (rf hB 5), (.int (5 : Int32)), (rf hB 1), (rf hB 2)], ints [0, 2, 0, 0, 0, 0, 0, 0], ints [0, 2, 0, 0, 0, 0, 0, 0], ints [0, 1, 2, 4, 0, 0, 0, 0, 0, 0, 0, 0, 0, 0, 0, 0], ints [0, 1, 0, 2, 3, 0, 0, 0, 0, 0, 0, 0, 0, 0, 0, 0], ints [0, 1, 0, 2, 3, 0, 0, 0, 0, 0, 0, 0, 0, 0, 0, 0]] _ _ []
  refine Wk.iload (pc' := 135) at_133 rfl rfl ?_
  refine Wk.ifN (pc' := 138) at_135 (XT.i0_eq_f (by decide)) rfl ?_
  refine Wk.aload (pc' := 140) at_138 rfl rfl rfl ?_
  refine Wk.iconst (pc' := 141) (1 : Int32) at_140 (by decide) rfl ?_
  refine Wk.callV (pc' := 144) (argsL := [(.int (1 : Int32))]) (st := []) at_141 (wd56 hw) (wd57 hw) (Wk.nfSel (wd59 hw)) (wd59 hw) (wd58 hw) (wd3 hw) (wd60 hw) (by decide) (lenOf pd_5 rfl) (fun _ P => P.exa rfl) (m_reach l Z a0 hw hB (4 : Int32) (5 : Int32) [0, 2, 0, 0, 0, 0, 0, 0] [0, 2, 0, 0, 0, 0, 0, 0] [0, 1, 2, 4, 0, 0, 0, 0, 0, 0, 0, 0, 0, 0, 0, 0] [0, 1, 0, 2, 3, 0, 0, 0, 0, 0, 0, 0, 0, 0, 0, 0] [0, 1, 0, 2, 3, 0, 0, 0, 0, 0, 0, 0, 0, 0, 0, 0] (1 : Int32) ((6 : Int32), [1, 3, 0, 0, 0, 0, 0, 0], [1, 3, 0, 0, 0, 0, 0, 0], [0, 1, 0, 2, 1, 3, 0, 0, 0, 0, 0, 0, 0, 0, 0, 0], [0, 1, 0, 2, 1, 3, 0, 0, 0, 0, 0, 0, 0, 0, 0, 0]) (by decide +kernel)) rfl (Nat.le_of_ble_eq_true rfl) (Nat.le_of_ble_eq_true rfl) (Nat.le_of_ble_eq_true rfl) (Nat.le_of_ble_eq_true rfl) rfl rfl ?_
  rintro _ _ ⟨rfl, hH⟩; obtain rfl := hH.symm
  show WP l Z hB _ _ _ _ _ _ _ _ [obj "com/example/dissect/dissect/ReachedRanges" ksRR [(rf hB 3), (.int (4 : Int32)), (rf hB 4), (rf hB 5), (.int (6 : Int32)), (rf hB 1), (rf hB 2)], ints [1, 3, 0, 0, 0, 0, 0, 0], ints [1, 3, 0, 0, 0, 0, 0, 0], ints [0, 1, 2, 4, 0, 0, 0, 0, 0, 0, 0, 0, 0, 0, 0, 0], ints [0, 1, 0, 2, 1, 3, 0, 0, 0, 0, 0, 0, 0, 0, 0, 0], ints [0, 1, 0, 2, 1, 3, 0, 0, 0, 0, 0, 0, 0, 0, 0, 0]] _ _ []
  refine Wk.aload (pc' := 146) at_144 rfl rfl rfl ?_
  refine Wk.callV (pc' := 149) (argsL := []) (st := []) at_146 (wd23 hw) (wd24 hw) (Wk.nfSel (wd26 hw)) (wd26 hw) (wd25 hw) (wd3 hw) (wd27 hw) (by decide) (lenOf pd_4 rfl) (fun _ P => P.exa rfl) (m_add l Z a0 hw hB (4 : Int32) (6 : Int32) [1, 3, 0, 0, 0, 0, 0, 0] [1, 3, 0, 0, 0, 0, 0, 0] [0, 1, 2, 4, 0, 0, 0, 0, 0, 0, 0, 0, 0, 0, 0, 0] [0, 1, 0, 2, 1, 3, 0, 0, 0, 0, 0, 0, 0, 0, 0, 0] [0, 1, 0, 2, 1, 3, 0, 0, 0, 0, 0, 0, 0, 0, 0, 0] ([0, 1, 2, 4, 6, 0, 0, 0, 0, 0, 0, 0, 0, 0, 0, 0], [0, 1, 0, 2, 1, 3, 4, 0, 0, 0, 0, 0, 0, 0, 0, 0], [0, 1, 0, 2, 1, 3, 4, 0, 0, 0, 0, 0, 0, 0, 0, 0], (7 : Int32), (5 : Int32)) (by decide +kernel)) rfl (Nat.le_of_ble_eq_true rfl) (Nat.le_of_ble_eq_true rfl) (Nat.le_of_ble_eq_true rfl) (Nat.le_of_ble_eq_true rfl) rfl rfl ?_
  rintro _ _ ⟨rfl, hH⟩; obtain rfl := hH.symm
  show WP l Z hB _ _ _ _ _ _ _ _ [obj "com/example/dissect/dissect/ReachedRanges" ksRR [(rf hB 3), (.int (5 : Int32)), (rf hB 4), (rf hB 5), (.int (7 : Int32)), (rf hB 1), (rf hB 2)], ints [1, 3, 0, 0, 0, 0, 0, 0], ints [1, 3, 0, 0, 0, 0, 0, 0], ints [0, 1, 2, 4, 6, 0, 0, 0, 0, 0, 0, 0, 0, 0, 0, 0], ints [0, 1, 0, 2, 1, 3, 4, 0, 0, 0, 0, 0, 0, 0, 0, 0], ints [0, 1, 0, 2, 1, 3, 4, 0, 0, 0, 0, 0, 0, 0, 0, 0]] _ _ []
  refine Wk.iload (pc' := 151) at_149 rfl rfl ?_
  refine Wk.ifN (pc' := 154) at_151 (XT.i0_eq_f (by decide)) rfl ?_
  refine Wk.aload (pc' := 156) at_154 rfl rfl rfl ?_
  refine Wk.iconst (pc' := 157) (3 : Int32) at_156 (by decide) rfl ?_
  refine Wk.callV (pc' := 160) (argsL := [(.int (3 : Int32))]) (st := []) at_157 (wd56 hw) (wd57 hw) (Wk.nfSel (wd59 hw)) (wd59 hw) (wd58 hw) (wd3 hw) (wd60 hw) (by decide) (lenOf pd_5 rfl) (fun _ P => P.exa rfl) (m_reach l Z a0 hw hB (5 : Int32) (7 : Int32) [1, 3, 0, 0, 0, 0, 0, 0] [1, 3, 0, 0, 0, 0, 0, 0] [0, 1, 2, 4, 6, 0, 0, 0, 0, 0, 0, 0, 0, 0, 0, 0] [0, 1, 0, 2, 1, 3, 4, 0, 0, 0, 0, 0, 0, 0, 0, 0] [0, 1, 0, 2, 1, 3, 4, 0, 0, 0, 0, 0, 0, 0, 0, 0] (3 : Int32) ((8 : Int32), [1, 3, 0, 0, 0, 0, 0, 0], [1, 4, 0, 0, 0, 0, 0, 0], [0, 1, 0, 2, 1, 3, 1, 3, 0, 0, 0, 0, 0, 0, 0, 0], [0, 1, 0, 2, 1, 3, 1, 4, 0, 0, 0, 0, 0, 0, 0, 0]) (by decide +kernel)) rfl (Nat.le_of_ble_eq_true rfl) (Nat.le_of_ble_eq_true rfl) (Nat.le_of_ble_eq_true rfl) (Nat.le_of_ble_eq_true rfl) rfl rfl ?_
  rintro _ _ ⟨rfl, hH⟩; obtain rfl := hH.symm
  show WP l Z hB _ _ _ _ _ _ _ _ [obj "com/example/dissect/dissect/ReachedRanges" ksRR [(rf hB 3), (.int (5 : Int32)), (rf hB 4), (rf hB 5), (.int (8 : Int32)), (rf hB 1), (rf hB 2)], ints [1, 3, 0, 0, 0, 0, 0, 0], ints [1, 4, 0, 0, 0, 0, 0, 0], ints [0, 1, 2, 4, 6, 0, 0, 0, 0, 0, 0, 0, 0, 0, 0, 0], ints [0, 1, 0, 2, 1, 3, 1, 3, 0, 0, 0, 0, 0, 0, 0, 0], ints [0, 1, 0, 2, 1, 3, 1, 4, 0, 0, 0, 0, 0, 0, 0, 0]] _ _ []
  refine Wk.iload (pc' := 162) at_160 rfl rfl ?_
  refine Wk.ifY (pc' := 171) at_162 (XT.i0_eq_t rfl) (by decide) (by decide) ?_
  exact m_B l Z a0 hw hB x0 x1 x2 (1 : Int32) (1 : Int32) (1 : Int32) (0 : Int32) wd f t [obj "com/example/dissect/dissect/ReachedRanges" ksRR [(rf hB 3), (.int (5 : Int32)), (rf hB 4), (rf hB 5), (.int (8 : Int32)), (rf hB 1), (rf hB 2)], ints [1, 3, 0, 0, 0, 0, 0, 0], ints [1, 4, 0, 0, 0, 0, 0, 0], ints [0, 1, 2, 4, 6, 0, 0, 0, 0, 0, 0, 0, 0, 0, 0, 0], ints [0, 1, 0, 2, 1, 3, 1, 3, 0, 0, 0, 0, 0, 0, 0, 0], ints [0, 1, 0, 2, 1, 3, 1, 4, 0, 0, 0, 0, 0, 0, 0, 0]] _ rfl (Nat.le_of_ble_eq_true rfl) _ (Nat.le_of_ble_eq_true rfl) (by have h := m_may l Z a0 hw hB (5 : Int32) (8 : Int32) [1, 3, 0, 0, 0, 0, 0, 0] [1, 4, 0, 0, 0, 0, 0, 0] [0, 1, 2, 4, 6, 0, 0, 0, 0, 0, 0, 0, 0, 0, 0, 0] [0, 1, 0, 2, 1, 3, 1, 3, 0, 0, 0, 0, 0, 0, 0, 0] [0, 1, 0, 2, 1, 3, 1, 4, 0, 0, 0, 0, 0, 0, 0, 0] f t _ (ok_1110 f t hf0 hf4); rw [expB_nar] at h; exact h)
set_option maxRecDepth 65536 in
set_option maxHeartbeats 40000000 in
theorem m_94_1111 (l : Launch) (Z : State) (a0 : Array Value) (hw : ∀ d ∈ tables_1, d.before a0 Z = true) (hB : Heap) (x0 x1 x2 wd f t : Int32) (no : Addr) (cl : Cell) (sN : Sta Z hB "com/example/dissect/dissect/ReachedRanges" "NO_INTS" "[I" (.ref no)) (A : Arr Z hB no cl .int) (hz : cl.slots.size = 0) (hf0 : 0 ≤ f.toInt) (hf4 : f.toInt ≤ 4) : WP l Z hB x code maxLocals ret room_1 0 (fun v _ => v = some (.int 1)) 0 [] 94 #[.val (.int x0), .val (.int x1), .val (.int x2), .val (.int (1 : Int32)), .val (.int (1 : Int32)), .val (.int (1 : Int32)), .val (.int (1 : Int32)), .val (.int wd), .val (.int f), .val (.int t), .unset, .unset, .unset, .unset, .unset, .unset] [] := by
  refine Wk.newObj (pc' := 97) (i := 0) (H' := [obj "com/example/dissect/dissect/ReachedRanges" ksRR [.null, (.int (0 : Int32)), .null, .null, (.int (0 : Int32)), .null, .null]]) at_94 (wd1 hw) (wd2 hw) (wd3 hw) (ksRR_laid hw) (ksRR_dist hw) (Nat.le_of_ble_eq_true rfl) (Nat.le_of_ble_eq_true rfl) rfl rfl rfl ?_
  refine Wk.dup (pc' := 98) at_97 rfl rfl ?_
  refine Wk.callI (pc' := 101) (argsL := []) (st := [(rf hB 0)]) at_98 rfl (wd4 hw) (wd5 hw) (wd3 hw) (wd6 hw) (by decide) (lenOf pd_4 rfl) (m_init l Z a0 hw hB no cl sN A hz) rfl (Nat.le_of_ble_eq_true rfl) (Nat.le_of_ble_eq_true rfl) (Nat.le_of_ble_eq_true rfl) (Nat.le_of_ble_eq_true rfl) rfl rfl ?_
  rintro _ _ ⟨rfl, hH⟩; obtain rfl := hH.symm
  show WP l Z hB _ _ _ _ _ _ _ _ [obj "com/example/dissect/dissect/ReachedRanges" ksRR [(.ref no), (.int (0 : Int32)), (.ref no), (.ref no), (.int (0 : Int32)), (rf hB 1), (rf hB 2)], ints [0, 0, 0, 0, 0, 0, 0, 0], ints [0, 0, 0, 0, 0, 0, 0, 0]] _ _ [(rf hB 0)]
  refine Wk.astore (pc' := 103) (Ls' := #[.val (.int x0), .val (.int x1), .val (.int x2), .val (.int (1 : Int32)), .val (.int (1 : Int32)), .val (.int (1 : Int32)), .val (.int (1 : Int32)), .val (.int wd), .val (.int f), .val (.int t), .val (rf hB 0), .unset, .unset, .unset, .unset, .unset]) at_101 rfl rfl rfl ?_
  refine Wk.aload (pc' := 105) at_103 rfl rfl rfl ?_
  refine Wk.callV (pc' := 108) (argsL := []) (st := []) at_105 (wd23 hw) (wd24 hw) (Wk.nfSel (wd26 hw)) (wd26 hw) (wd25 hw) (wd3 hw) (wd27 hw) (by decide) (lenOf pd_4 rfl) (fun _ P => P.exa rfl) (m_add0 l Z a0 hw hB no cl sN A hz) rfl (Nat.le_of_ble_eq_true rfl) (Nat.le_of_ble_eq_true rfl) (Nat.le_of_ble_eq_true rfl) (Nat.le_of_ble_eq_true rfl) rfl rfl ?_
  rintro _ _ ⟨rfl, hH⟩; obtain rfl := hH.symm
  show WP l Z hB _ _ _ _ _ _ _ _ [obj "com/example/dissect/dissect/ReachedRanges" ksRR [(rf hB 3), (.int (1 : Int32)), (rf hB 4), (rf hB 5), (.int (1 : Int32)), (rf hB 1), (rf hB 2)], ints [0, 0, 0, 0, 0, 0, 0, 0], ints [0, 0, 0, 0, 0, 0, 0, 0], ints [0, 0, 0, 0, 0, 0, 0, 0, 0, 0, 0, 0, 0, 0, 0, 0], ints [0, 0, 0, 0, 0, 0, 0, 0, 0, 0, 0, 0, 0, 0, 0, 0], ints [0, 0, 0, 0, 0, 0, 0, 0, 0, 0, 0, 0, 0, 0, 0, 0]] _ _ []
  refine Wk.aload (pc' := 110) at_108 rfl rfl rfl ?_
  refine Wk.callV (pc' := 113) (argsL := []) (st := []) at_110 (wd23 hw) (wd24 hw) (Wk.nfSel (wd26 hw)) (wd26 hw) (wd25 hw) (wd3 hw) (wd27 hw) (by decide) (lenOf pd_4 rfl) (fun _ P => P.exa rfl) (m_add l Z a0 hw hB (1 : Int32) (1 : Int32) [0, 0, 0, 0, 0, 0, 0, 0] [0, 0, 0, 0, 0, 0, 0, 0] [0, 0, 0, 0, 0, 0, 0, 0, 0, 0, 0, 0, 0, 0, 0, 0] [0, 0, 0, 0, 0, 0, 0, 0, 0, 0, 0, 0, 0, 0, 0, 0] [0, 0, 0, 0, 0, 0, 0, 0, 0, 0, 0, 0, 0, 0, 0, 0] ([0, 1, 0, 0, 0, 0, 0, 0, 0, 0, 0, 0, 0, 0, 0, 0], [0, 1, 0, 0, 0, 0, 0, 0, 0, 0, 0, 0, 0, 0, 0, 0], [0, 1, 0, 0, 0, 0, 0, 0, 0, 0, 0, 0, 0, 0, 0, 0], (2 : Int32), (2 : Int32)) (by decide +kernel)) rfl (Nat.le_of_ble_eq_true rfl) (Nat.le_of_ble_eq_true rfl) (Nat.le_of_ble_eq_true rfl) (Nat.le_of_ble_eq_true rfl) rfl rfl ?_
  rintro _ _ ⟨rfl, hH⟩; obtain rfl := hH.symm
  show WP l Z hB _ _ _ _ _ _ _ _ [obj "com/example/dissect/dissect/ReachedRanges" ksRR [(rf hB 3), (.int (2 : Int32)), (rf hB 4), (rf hB 5), (.int (2 : Int32)), (rf hB 1), (rf hB 2)], ints [0, 0, 0, 0, 0, 0, 0, 0], ints [0, 0, 0, 0, 0, 0, 0, 0], ints [0, 1, 0, 0, 0, 0, 0, 0, 0, 0, 0, 0, 0, 0, 0, 0], ints [0, 1, 0, 0, 0, 0, 0, 0, 0, 0, 0, 0, 0, 0, 0, 0], ints [0, 1, 0, 0, 0, 0, 0, 0, 0, 0, 0, 0, 0, 0, 0, 0]] _ _ []
  refine Wk.aload (pc' := 115) at_113 rfl rfl rfl ?_
  refine Wk.callV (pc' := 118) (argsL := []) (st := []) at_115 (wd23 hw) (wd24 hw) (Wk.nfSel (wd26 hw)) (wd26 hw) (wd25 hw) (wd3 hw) (wd27 hw) (by decide) (lenOf pd_4 rfl) (fun _ P => P.exa rfl) (m_add l Z a0 hw hB (2 : Int32) (2 : Int32) [0, 0, 0, 0, 0, 0, 0, 0] [0, 0, 0, 0, 0, 0, 0, 0] [0, 1, 0, 0, 0, 0, 0, 0, 0, 0, 0, 0, 0, 0, 0, 0] [0, 1, 0, 0, 0, 0, 0, 0, 0, 0, 0, 0, 0, 0, 0, 0] [0, 1, 0, 0, 0, 0, 0, 0, 0, 0, 0, 0, 0, 0, 0, 0] ([0, 1, 2, 0, 0, 0, 0, 0, 0, 0, 0, 0, 0, 0, 0, 0], [0, 1, 2, 0, 0, 0, 0, 0, 0, 0, 0, 0, 0, 0, 0, 0], [0, 1, 2, 0, 0, 0, 0, 0, 0, 0, 0, 0, 0, 0, 0, 0], (3 : Int32), (3 : Int32)) (by decide +kernel)) rfl (Nat.le_of_ble_eq_true rfl) (Nat.le_of_ble_eq_true rfl) (Nat.le_of_ble_eq_true rfl) (Nat.le_of_ble_eq_true rfl) rfl rfl ?_
  rintro _ _ ⟨rfl, hH⟩; obtain rfl := hH.symm
  show WP l Z hB _ _ _ _ _ _ _ _ [obj "com/example/dissect/dissect/ReachedRanges" ksRR [(rf hB 3), (.int (3 : Int32)), (rf hB 4), (rf hB 5), (.int (3 : Int32)), (rf hB 1), (rf hB 2)], ints [0, 0, 0, 0, 0, 0, 0, 0], ints [0, 0, 0, 0, 0, 0, 0, 0], ints [0, 1, 2, 0, 0, 0, 0, 0, 0, 0, 0, 0, 0, 0, 0, 0], ints [0, 1, 2, 0, 0, 0, 0, 0, 0, 0, 0, 0, 0, 0, 0, 0], ints [0, 1, 2, 0, 0, 0, 0, 0, 0, 0, 0, 0, 0, 0, 0, 0]] _ _ []
  refine Wk.iloadN (pc' := 119) at_118 rfl rfl ?_
  refine Wk.ifN (pc' := 122) at_119 (XT.i0_eq_f (by decide)) rfl ?_
  refine Wk.aload (pc' := 124) at_122 rfl rfl rfl ?_
  refine Wk.iconst (pc' := 125) (0 : Int32) at_124 (by decide) rfl ?_
  refine Wk.callV (pc' := 128) (argsL := [(.int (0 : Int32))]) (st := []) at_125 (wd56 hw) (wd57 hw) (Wk.nfSel (wd59 hw)) (wd59 hw) (wd58 hw) (wd3 hw) (wd60 hw) (by decide) (lenOf pd_5 rfl) (fun _ P => P.exa rfl) (m_reach l Z a0 hw hB (3 : Int32) (3 : Int32) [0, 0, 0, 0, 0, 0, 0, 0] [0, 0, 0, 0, 0, 0, 0, 0] [0, 1, 2, 0, 0, 0, 0, 0, 0, 0, 0, 0, 0, 0, 0, 0] [0, 1, 2, 0, 0, 0, 0, 0, 0, 0, 0, 0, 0, 0, 0, 0] [0, 1, 2, 0, 0, 0, 0, 0, 0, 0, 0, 0, 0, 0, 0, 0] (0 : Int32) ((4 : Int32), [0, 2, 0, 0, 0, 0, 0, 0], [0, 2, 0, 0, 0, 0, 0, 0], [0, 1, 0, 2, 0, 0, 0, 0, 0, 0, 0, 0, 0, 0, 0, 0], [0, 1, 0, 2, 0, 0, 0, 0, 0, 0, 0, 0, 0, 0, 0, 0]) (by decide +kernel)) rfl (Nat.le_of_ble_eq_true rfl) (Nat.le_of_ble_eq_true rfl) (Nat.le_of_ble_eq_true rfl) (Nat.le_of_ble_eq_true rfl) rfl rfl ?_
  rintro _ _ ⟨rfl, hH⟩; obtain rfl := hH.symm
  show WP l Z hB _ _ _ _ _ _ _ _ [obj "com/example/dissect/dissect/ReachedRanges" ksRR [(rf hB 3), (.int (3 : Int32)), (rf hB 4), (rf hB 5), (.int (4 : Int32)), (rf hB 1), (rf hB 2)], ints [0, 2, 0, 0, 0, 0, 0, 0], ints [0, 2, 0, 0, 0, 0, 0, 0], ints [0, 1, 2, 0, 0, 0, 0, 0, 0, 0, 0, 0, 0, 0, 0, 0], ints [0, 1, 0, 2, 0, 0, 0, 0, 0, 0, 0, 0, 0, 0, 0, 0], ints [0, 1, 0, 2, 0, 0, 0, 0, 0, 0, 0, 0, 0, 0, 0, 0]] _ _ []
  refine Wk.aload (pc' := 130) at_128 rfl rfl rfl ?_
  refine Wk.callV (pc' := 133) (argsL := []) (st := []) at_130 (wd23 hw) (wd24 hw) (Wk.nfSel (wd26 hw)) (wd26 hw) (wd25 hw) (wd3 hw) (wd27 hw) (by decide) (lenOf pd_4 rfl) (fun _ P => P.exa rfl) (m_add l Z a0 hw hB (3 : Int32) (4 : Int32) [0, 2, 0, 0, 0, 0, 0, 0] [0, 2, 0, 0, 0, 0, 0, 0] [0, 1, 2, 0, 0, 0, 0, 0, 0, 0, 0, 0, 0, 0, 0, 0] [0, 1, 0, 2, 0, 0, 0, 0, 0, 0, 0, 0, 0, 0, 0, 0] [0, 1, 0, 2, 0, 0, 0, 0, 0, 0, 0, 0, 0, 0, 0, 0] ([0, 1, 2, 4, 0, 0, 0, 0, 0, 0, 0, 0, 0, 0, 0, 0], [0, 1, 0, 2, 3, 0, 0, 0, 0, 0, 0, 0, 0, 0, 0, 0], [0, 1, 0, 2, 3, 0, 0, 0, 0, 0, 0, 0, 0, 0, 0, 0], (5 : Int32), (4 : Int32)) (by decide +kernel)) rfl (Nat.le_of_ble_eq_true rfl) (Nat.le_of_ble_eq_true rfl) (Nat.le_of_ble_eq_true rfl) (Nat.le_of_ble_eq_true rfl) rfl rfl ?_
  rintro _ _ ⟨rfl, hH⟩; obtain rfl := hH.symm
  show WP l Z hB _ _ _ _ _ _ _ _ [obj "com/example/dissect/dissect/ReachedRanges" ksRR [(rf hB 3), (.int (4 : Int32)), (rf hB 4), (rf hB 5), (.int (5 : Int32)), (rf hB 1), (rf hB 2)], ints [0, 2, 0, 0, 0, 0, 0, 0], ints [0, 2, 0, 0, 0, 0, 0, 0], ints [0, 1, 2, 4, 0, 0, 0, 0, 0, 0, 0, 0, 0, 0, 0, 0], ints [0, 1, 0, 2, 3, 0, 0, 0, 0, 0, 0, 0, 0, 0, 0, 0], ints [0, 1, 0, 2, 3, 0, 0, 0, 0, 0, 0, 0, 0, 0, 0, 0]] _ _ []
  refine Wk.iload (pc' := 135) at_133 rfl rfl ?_
  refine Wk.ifN (pc' := 138) at_135 (XT.i0_eq_f (by decide)) rfl ?_
  refine Wk.aload (pc' := 140) at_138 rfl rfl rfl ?_
  refine Wk.iconst (pc' := 141) (1 : Int32) at_140 (by decide) rfl ?_
  refine Wk.callV (pc' := 144) (argsL := [(.int (1 : Int32))]) (st := []) at_141 (wd56 hw) (wd57 hw) (Wk.nfSel (wd59 hw)) (wd59 hw) (wd58 hw) (wd3 hw) (wd60 hw) (by decide) (lenOf pd_5 rfl) (fun _ P => P.exa rfl) (m_reach l Z a0 hw hB (4 : Int32) (5 : Int32) [0, 2, 0, 0, 0, 0, 0, 0] [0, 2, 0, 0, 0, 0, 0, 0] [0, 1, 2, 4, 0, 0, 0, 0, 0, 0, 0, 0, 0, 0, 0, 0] [0, 1, 0, 2, 3, 0, 0, 0, 0, 0, 0, 0, 0, 0, 0, 0] [0, 1, 0, 2, 3, 0, 0, 0, 0, 0, 0, 0, 0, 0, 0, 0] (1 : Int32) ((6 : Int32), [1, 3, 0, 0, 0, 0, 0, 0], [1, 3, 0, 0, 0, 0, 0, 0], [0, 1, 0, 2, 1, 3, 0, 0, 0, 0, 0, 0, 0, 0, 0, 0], [0, 1, 0, 2, 1, 3, 0, 0, 0, 0, 0, 0, 0, 0, 0, 0]) (by decide +kernel)) rfl (Nat.le_of_ble_eq_true rfl) (Nat.le_of_ble_eq_true rfl) (Nat.le_of_ble_eq_true rfl) (Nat.le_of_ble_eq_true rfl) rfl rfl ?_
  rintro _ _ ⟨rfl, hH⟩; obtain rfl := hH.symm
  show WP l Z hB _ _ _ _ _ _ _ _ [obj "com/example/dissect/dissect/ReachedRanges" ksRR [(rf hB 3), (.int (4 : Int32)), (rf hB 4), (rf hB 5), (.int (6 : Int32)), (rf hB 1), (rf hB 2)], ints [1, 3, 0, 0, 0, 0, 0, 0], ints [1, 3, 0, 0, 0, 0, 0, 0], ints [0, 1, 2, 4, 0, 0, 0, 0, 0, 0, 0, 0, 0, 0, 0, 0], ints [0, 1, 0, 2, 1, 3, 0, 0, 0, 0, 0, 0, 0, 0, 0, 0], ints [0, 1, 0, 2, 1, 3, 0, 0, 0, 0, 0, 0, 0, 0, 0, 0]] _ _ []
  refine Wk.aload (pc' := 146) at_144 rfl rfl rfl ?_
  refine Wk.callV (pc' := 149) (argsL := []) (st := []) at_146 (wd23 hw) (wd24 hw) (Wk.nfSel (wd26 hw)) (wd26 hw) (wd25 hw) (wd3 hw) (wd27 hw) (by decide) (lenOf pd_4 rfl) (fun _ P => P.exa rfl) (m_add l Z a0 hw hB (4 : Int32) (6 : Int32) [1, 3, 0, 0, 0, 0, 0, 0] [1, 3, 0, 0, 0, 0, 0, 0] [0, 1, 2, 4, 0, 0, 0, 0, 0, 0, 0, 0, 0, 0, 0, 0] [0, 1, 0, 2, 1, 3, 0, 0, 0, 0, 0, 0, 0, 0, 0, 0] [0, 1, 0, 2, 1, 3, 0, 0, 0, 0, 0, 0, 0, 0, 0, 0] ([0, 1, 2, 4, 6, 0, 0, 0, 0, 0, 0, 0, 0, 0, 0, 0], [0, 1, 0, 2, 1, 3, 4, 0, 0, 0, 0, 0, 0, 0, 0, 0], [0, 1, 0, 2, 1, 3, 4, 0, 0, 0, 0, 0, 0, 0, 0, 0], (7 : Int32), (5 : Int32)) (by decide +kernel)) rfl (Nat.le_of_ble_eq_true rfl) (Nat.le_of_ble_eq_true rfl) (Nat.le_of_ble_eq_true rfl) (Nat.le_of_ble_eq_true rfl) rfl rfl ?_
  rintro _ _ ⟨rfl, hH⟩; obtain rfl := hH.symm
  show WP l Z hB _ _ _ _ _ _ _ _ [obj "com/example/dissect/dissect/ReachedRanges" ksRR [(rf hB 3), (.int (5 : Int32)), (rf hB 4), (rf hB 5), (.int (7 : Int32)), (rf hB 1), (rf hB 2)], ints [1, 3, 0, 0, 0, 0, 0, 0], ints [1, 3, 0, 0, 0, 0, 0, 0], ints [0, 1, 2, 4, 6, 0, 0, 0, 0, 0, 0, 0, 0, 0, 0, 0], ints [0, 1, 0, 2, 1, 3, 4, 0, 0, 0, 0, 0, 0, 0, 0, 0], ints [0, 1, 0, 2, 1, 3, 4, 0, 0, 0, 0, 0, 0, 0, 0, 0]] _ _ []
  refine Wk.iload (pc' := 151) at_149 rfl rfl ?_
  refine Wk.ifN (pc' := 154) at_151 (XT.i0_eq_f (by decide)) rfl ?_
  refine Wk.aload (pc' := 156) at_154 rfl rfl rfl ?_
  refine Wk.iconst (pc' := 157) (3 : Int32) at_156 (by decide) rfl ?_
  refine Wk.callV (pc' := 160) (argsL := [(.int (3 : Int32))]) (st := []) at_157 (wd56 hw) (wd57 hw) (Wk.nfSel (wd59 hw)) (wd59 hw) (wd58 hw) (wd3 hw) (wd60 hw) (by decide) (lenOf pd_5 rfl) (fun _ P => P.exa rfl) (m_reach l Z a0 hw hB (5 : Int32) (7 : Int32) [1, 3, 0, 0, 0, 0, 0, 0] [1, 3, 0, 0, 0, 0, 0, 0] [0, 1, 2, 4, 6, 0, 0, 0, 0, 0, 0, 0, 0, 0, 0, 0] [0, 1, 0, 2, 1, 3, 4, 0, 0, 0, 0, 0, 0, 0, 0, 0] [0, 1, 0, 2, 1, 3, 4, 0, 0, 0, 0, 0, 0, 0, 0, 0] (3 : Int32) ((8 : Int32), [1, 3, 0, 0, 0, 0, 0, 0], [1, 4, 0, 0, 0, 0, 0, 0], [0, 1, 0, 2, 1, 3, 1, 3, 0, 0, 0, 0, 0, 0, 0, 0], [0, 1, 0, 2, 1, 3, 1, 4, 0, 0, 0, 0, 0, 0, 0, 0]) (by decide +kernel)) rfl (Nat.le_of_ble_eq_true rfl) (Nat.le_of_ble_eq_true rfl) (Nat.le_of_ble_eq_true rfl) (Nat.le_of_ble_eq_true rfl) rfl rfl ?_
  rintro _ _ ⟨rfl, hH⟩; obtain rfl := hH.symm
  show WP l Z hB _ _ _ _ _ _ _ _ [obj "com/example/dissect/dissect/ReachedRanges" ksRR [(rf hB 3), (.int (5 : Int32)), (rf hB 4), (rf hB 5), (.int (8 : Int32)), (rf hB 1), (rf hB 2)], ints [1, 3, 0, 0, 0, 0, 0, 0], ints [1, 4, 0, 0, 0, 0, 0, 0], ints [0, 1, 2, 4, 6, 0, 0, 0, 0, 0, 0, 0, 0, 0, 0, 0], ints [0, 1, 0, 2, 1, 3, 1, 3, 0, 0, 0, 0, 0, 0, 0, 0], ints [0, 1, 0, 2, 1, 3, 1, 4, 0, 0, 0, 0, 0, 0, 0, 0]] _ _ []
  refine Wk.iload (pc' := 162) at_160 rfl rfl ?_
  refine Wk.ifN (pc' := 165) at_162 (XT.i0_eq_f (by decide)) rfl ?_
  refine Wk.aload (pc' := 167) at_165 rfl rfl rfl ?_
  refine Wk.iconst (pc' := 168) (2 : Int32) at_167 (by decide) rfl ?_
  refine Wk.callV (pc' := 171) (argsL := [(.int (2 : Int32))]) (st := []) at_168 (wd56 hw) (wd57 hw) (Wk.nfSel (wd59 hw)) (wd59 hw) (wd58 hw) (wd3 hw) (wd60 hw) (by decide) (lenOf pd_5 rfl) (fun _ P => P.exa rfl) (m_reach l Z a0 hw hB (5 : Int32) (8 : Int32) [1, 3, 0, 0, 0, 0, 0, 0] [1, 4, 0, 0, 0, 0, 0, 0] [0, 1, 2, 4, 6, 0, 0, 0, 0, 0, 0, 0, 0, 0, 0, 0] [0, 1, 0, 2, 1, 3, 1, 3, 0, 0, 0, 0, 0, 0, 0, 0] [0, 1, 0, 2, 1, 3, 1, 4, 0, 0, 0, 0, 0, 0, 0, 0] (2 : Int32) ((7 : Int32), [0, 3, 0, 0, 0, 0, 0, 0], [4, 4, 0, 0, 0, 0, 0, 0], [0, 1, 0, 2, 1, 3, 0, 3, 0, 0, 0, 0, 0, 0, 0, 0], [0, 1, 0, 2, 1, 3, 4, 4, 0, 0, 0, 0, 0, 0, 0, 0]) (by decide +kernel)) rfl (Nat.le_of_ble_eq_true rfl) (Nat.le_of_ble_eq_true rfl) (Nat.le_of_ble_eq_true rfl) (Nat.le_of_ble_eq_true rfl) rfl rfl ?_
  rintro _ _ ⟨rfl, hH⟩; obtain rfl := hH.symm
  show WP l Z hB _ _ _ _ _ _ _ _ [obj "com/example/dissect/dissect/ReachedRanges" ksRR [(rf hB 3), (.int (5 : Int32)), (rf hB 4), (rf hB 5), (.int (7 : Int32)), (rf hB 1), (rf hB 2)], ints [0, 3, 0, 0, 0, 0, 0, 0], ints [4, 4, 0, 0, 0, 0, 0, 0], ints [0, 1, 2, 4, 6, 0, 0, 0, 0, 0, 0, 0, 0, 0, 0, 0], ints [0, 1, 0, 2, 1, 3, 0, 3, 0, 0, 0, 0, 0, 0, 0, 0], ints [0, 1, 0, 2, 1, 3, 4, 4, 0, 0, 0, 0, 0, 0, 0, 0]] _ _ []
  exact m_B l Z a0 hw hB x0 x1 x2 (1 : Int32) (1 : Int32) (1 : Int32) (1 : Int32) wd f t [obj "com/example/dissect/dissect/ReachedRanges" ksRR [(rf hB 3), (.int (5 : Int32)), (rf hB 4), (rf hB 5), (.int (7 : Int32)), (rf hB 1), (rf hB 2)], ints [0, 3, 0, 0, 0, 0, 0, 0], ints [4, 4, 0, 0, 0, 0, 0, 0], ints [0, 1, 2, 4, 6, 0, 0, 0, 0, 0, 0, 0, 0, 0, 0, 0], ints [0, 1, 0, 2, 1, 3, 0, 3, 0, 0, 0, 0, 0, 0, 0, 0], ints [0, 1, 0, 2, 1, 3, 4, 4, 0, 0, 0, 0, 0, 0, 0, 0]] _ rfl (Nat.le_of_ble_eq_true rfl) _ (Nat.le_of_ble_eq_true rfl) (by have h := m_may l Z a0 hw hB (5 : Int32) (7 : Int32) [0, 3, 0, 0, 0, 0, 0, 0] [4, 4, 0, 0, 0, 0, 0, 0] [0, 1, 2, 4, 6, 0, 0, 0, 0, 0, 0, 0, 0, 0, 0, 0] [0, 1, 0, 2, 1, 3, 0, 3, 0, 0, 0, 0, 0, 0, 0, 0] [0, 1, 0, 2, 1, 3, 4, 4, 0, 0, 0, 0, 0, 0, 0, 0] f t _ (ok_1111 f t hf0 hf4); rw [expB_nar] at h; exact h)
set_option maxRecDepth 65536 in
set_option maxHeartbeats 40000000 in
theorem m_94 (l : Launch) (Z : State) (a0 : Array Value) (hw : ∀ d ∈ tables_1, d.before a0 Z = true) (hB : Heap) (x0 x1 x2 b0 b1 b2 b3 wd f t : Int32) (hb0 : b0 = 0 ∨ b0 = 1) (hb1 : b1 = 0 ∨ b1 = 1) (hb2 : b2 = 0 ∨ b2 = 1) (hb3 : b3 = 0 ∨ b3 = 1) (no : Addr) (cl : Cell) (sN : Sta Z hB "com/example/dissect/dissect/ReachedRanges" "NO_INTS" "[I" (.ref no)) (A : Arr Z hB no cl .int) (hz : cl.slots.size = 0) (hf0 : 0 ≤ f.toInt) (hf4 : f.toInt ≤ 4) : WP l Z hB x code maxLocals ret room_1 0 (fun v _ => v = some (.int 1)) 0 [] 94 #[.val (.int x0), .val (.int x1), .val (.int x2), .val (.int b0), .val (.int b1), .val (.int b2), .val (.int b3), .val (.int wd), .val (.int f), .val (.int t), .unset, .unset, .unset, .unset, .unset, .unset] [] := by
  rcases hb0 with rfl | rfl <;> rcases hb1 with rfl | rfl <;> rcases hb2 with rfl | rfl <;> rcases hb3 with rfl | rfl
  · exact m_94_0000 l Z a0 hw hB x0 x1 x2 wd f t no cl sN A hz hf0 hf4
  · exact m_94_0001 l Z a0 hw hB x0 x1 x2 wd f t no cl sN A hz hf0 hf4
  · exact m_94_0010 l Z a0 hw hB x0 x1 x2 wd f t no cl sN A hz hf0 hf4
  · exact m_94_0011 l Z a0 hw hB x0 x1 x2 wd f t no cl sN A hz hf0 hf4
  · exact m_94_0100 l Z a0 hw hB x0 x1 x2 wd f t no cl sN A hz hf0 hf4
  · exact m_94_0101 l Z a0 hw hB x0 x1 x2 wd f t no cl sN A hz hf0 hf4
  · exact m_94_0110 l Z a0 hw hB x0 x1 x2 wd f t no cl sN A hz hf0 hf4
  · exact m_94_0111 l Z a0 hw hB x0 x1 x2 wd f t no cl sN A hz hf0 hf4
  · exact m_94_1000 l Z a0 hw hB x0 x1 x2 wd f t no cl sN A hz hf0 hf4
  · exact m_94_1001 l Z a0 hw hB x0 x1 x2 wd f t no cl sN A hz hf0 hf4
  · exact m_94_1010 l Z a0 hw hB x0 x1 x2 wd f t no cl sN A hz hf0 hf4
  · exact m_94_1011 l Z a0 hw hB x0 x1 x2 wd f t no cl sN A hz hf0 hf4
  · exact m_94_1100 l Z a0 hw hB x0 x1 x2 wd f t no cl sN A hz hf0 hf4
  · exact m_94_1101 l Z a0 hw hB x0 x1 x2 wd f t no cl sN A hz hf0 hf4
  · exact m_94_1110 l Z a0 hw hB x0 x1 x2 wd f t no cl sN A hz hf0 hf4
  · exact m_94_1111 l Z a0 hw hB x0 x1 x2 wd f t no cl sN A hz hf0 hf4
theorem f_rng (x : Int32) : 0 ≤ ((x &&& 2147483647) % 5 : Int32).toInt ∧ ((x &&& 2147483647) % 5 : Int32).toInt ≤ 4 := by
  have e := c_mask x 2147483647 31 (by decide) (by decide)
  have r := (c_irem (x &&& 2147483647) 5 5 rfl).1
  omega
set_option maxRecDepth 65536 in
set_option maxHeartbeats 40000000 in
theorem m_66 (l : Launch) (Z : State) (a0 : Array Value) (hw : ∀ d ∈ tables_1, d.before a0 Z = true) (hB : Heap) (x0 x1 x2 b0 b1 b2 b3 wd : Int32) (hb0 : b0 = 0 ∨ b0 = 1) (hb1 : b1 = 0 ∨ b1 = 1) (hb2 : b2 = 0 ∨ b2 = 1) (hb3 : b3 = 0 ∨ b3 = 1) (no : Addr) (cl : Cell) (sN : Sta Z hB "com/example/dissect/dissect/ReachedRanges" "NO_INTS" "[I" (.ref no)) (A : Arr Z hB no cl .int) (hz : cl.slots.size = 0) : WP l Z hB x code maxLocals ret room_1 0 (fun v _ => v = some (.int 1)) 0 [] 66 #[.val (.int x0), .val (.int x1), .val (.int x2), .val (.int b0), .val (.int b1), .val (.int b2), .val (.int b3), .val (.int wd), .unset, .unset, .unset, .unset, .unset, .unset, .unset, .unset] [] := by
  refine Wk.iloadN (pc' := 67) at_66 rfl rfl ?_
  refine Wk.ldcInt (pc' := 69) at_67 (wd0 hw) rfl ?_
  refine Wk.iand (pc' := 70) at_69 rfl ?_
  refine Wk.iconst (pc' := 71) (5 : Int32) at_70 (by decide) rfl ?_
  refine Wk.irem (pc' := 72) at_71 (by decide) rfl ?_
  refine Wk.istore (pc' := 74) (Ls' := #[.val (.int x0), .val (.int x1), .val (.int x2), .val (.int b0), .val (.int b1), .val (.int b2), .val (.int b3), .val (.int wd), .val (.int ((x1 &&& (2147483647 : Int32)) % (5 : Int32))), .unset, .unset, .unset, .unset, .unset, .unset, .unset]) at_72 rfl rfl ?_
  refine Wk.iload (pc' := 76) at_74 rfl rfl ?_
  by_cases hc1 : wd = (0 : Int32)
  ·
    refine Wk.ifY (pc' := 83) at_76 (XT.i0_eq_t hc1) (by decide) (by decide) ?_
    refine Wk.iloadN (pc' := 84) at_83 rfl rfl ?_
    refine Wk.ldcInt (pc' := 86) at_84 (wd0 hw) rfl ?_
    refine Wk.iand (pc' := 87) at_86 rfl ?_
    refine Wk.bipush (pc' := 89) (7 : Int32) at_87 (by decide) rfl ?_
    refine Wk.irem (pc' := 90) at_89 (by decide) rfl ?_
    refine Wk.iconst (pc' := 91) (1 : Int32) at_90 (by decide) rfl ?_
    refine Wk.isub (pc' := 92) at_91 rfl ?_
    refine Wk.istore (pc' := 94) (Ls' := #[.val (.int x0), .val (.int x1), .val (.int x2), .val (.int b0), .val (.int b1), .val (.int b2), .val (.int b3), .val (.int wd), .val (.int ((x1 &&& (2147483647 : Int32)) % (5 : Int32))), .val (.int (((x2 &&& (2147483647 : Int32)) % (7 : Int32)) - (1 : Int32))), .unset, .unset, .unset, .unset, .unset, .unset]) at_92 rfl rfl ?_
    exact m_94 l Z a0 hw hB x0 x1 x2 b0 b1 b2 b3 wd ((x1 &&& (2147483647 : Int32)) % (5 : Int32)) (((x2 &&& (2147483647 : Int32)) % (7 : Int32)) - (1 : Int32)) hb0 hb1 hb2 hb3 no cl sN A hz (f_rng x1).1 (f_rng x1).2
  ·
    refine Wk.ifN (pc' := 79) at_76 (XT.i0_eq_f hc1) rfl ?_
    refine Wk.iloadN (pc' := 80) at_79 rfl rfl ?_
    refine Wk.goTo (pc' := 92) at_80 (by decide) (by decide) ?_
    refine Wk.istore (pc' := 94) (Ls' := #[.val (.int x0), .val (.int x1), .val (.int x2), .val (.int b0), .val (.int b1), .val (.int b2), .val (.int b3), .val (.int wd), .val (.int ((x1 &&& (2147483647 : Int32)) % (5 : Int32))), .val (.int x2), .unset, .unset, .unset, .unset, .unset, .unset]) at_92 rfl rfl ?_
    exact m_94 l Z a0 hw hB x0 x1 x2 b0 b1 b2 b3 wd ((x1 &&& (2147483647 : Int32)) % (5 : Int32)) x2 hb0 hb1 hb2 hb3 no cl sN A hz (f_rng x1).1 (f_rng x1).2
set_option maxRecDepth 65536 in
set_option maxHeartbeats 40000000 in
theorem m_52 (l : Launch) (Z : State) (a0 : Array Value) (hw : ∀ d ∈ tables_1, d.before a0 Z = true) (hB : Heap) (x0 x1 x2 b0 b1 b2 b3 : Int32) (hb0 : b0 = 0 ∨ b0 = 1) (hb1 : b1 = 0 ∨ b1 = 1) (hb2 : b2 = 0 ∨ b2 = 1) (hb3 : b3 = 0 ∨ b3 = 1) (no : Addr) (cl : Cell) (sN : Sta Z hB "com/example/dissect/dissect/ReachedRanges" "NO_INTS" "[I" (.ref no)) (A : Arr Z hB no cl .int) (hz : cl.slots.size = 0) : WP l Z hB x code maxLocals ret room_1 0 (fun v _ => v = some (.int 1)) 0 [] 52 #[.val (.int x0), .val (.int x1), .val (.int x2), .val (.int b0), .val (.int b1), .val (.int b2), .val (.int b3), .unset, .unset, .unset, .unset, .unset, .unset, .unset, .unset, .unset] [] := by
  refine Wk.iloadN (pc' := 53) at_52 rfl rfl ?_
  refine Wk.bipush (pc' := 55) (16 : Int32) at_53 (by decide) rfl ?_
  refine Wk.iand (pc' := 56) at_55 rfl ?_
  by_cases hc1 : (x0 &&& (16 : Int32)) = (0 : Int32)
  ·
    refine Wk.ifY (pc' := 63) at_56 (XT.i0_eq_t hc1) (by decide) (by decide) ?_
    refine Wk.iconst (pc' := 64) (0 : Int32) at_63 (by decide) rfl ?_
    refine Wk.istore (pc' := 66) (Ls' := #[.val (.int x0), .val (.int x1), .val (.int x2), .val (.int b0), .val (.int b1), .val (.int b2), .val (.int b3), .val (.int (0 : Int32)), .unset, .unset, .unset, .unset, .unset, .unset, .unset, .unset]) at_64 rfl rfl ?_
    exact m_66 l Z a0 hw hB x0 x1 x2 b0 b1 b2 b3 (0 : Int32) hb0 hb1 hb2 hb3  no cl sN A hz
  ·
    refine Wk.ifN (pc' := 59) at_56 (XT.i0_eq_f hc1) rfl ?_
    refine Wk.iconst (pc' := 60) (1 : Int32) at_59 (by decide) rfl ?_
    refine Wk.goTo (pc' := 64) at_60 (by decide) (by decide) ?_
    refine Wk.istore (pc' := 66) (Ls' := #[.val (.int x0), .val (.int x1), .val (.int x2), .val (.int b0), .val (.int b1), .val (.int b2), .val (.int b3), .val (.int (1 : Int32)), .unset, .unset, .unset, .unset, .unset, .unset, .unset, .unset]) at_64 rfl rfl ?_
    exact m_66 l Z a0 hw hB x0 x1 x2 b0 b1 b2 b3 (1 : Int32) hb0 hb1 hb2 hb3  no cl sN A hz
set_option maxRecDepth 65536 in
set_option maxHeartbeats 40000000 in
theorem m_38 (l : Launch) (Z : State) (a0 : Array Value) (hw : ∀ d ∈ tables_1, d.before a0 Z = true) (hB : Heap) (x0 x1 x2 b0 b1 b2 : Int32) (hb0 : b0 = 0 ∨ b0 = 1) (hb1 : b1 = 0 ∨ b1 = 1) (hb2 : b2 = 0 ∨ b2 = 1) (no : Addr) (cl : Cell) (sN : Sta Z hB "com/example/dissect/dissect/ReachedRanges" "NO_INTS" "[I" (.ref no)) (A : Arr Z hB no cl .int) (hz : cl.slots.size = 0) : WP l Z hB x code maxLocals ret room_1 0 (fun v _ => v = some (.int 1)) 0 [] 38 #[.val (.int x0), .val (.int x1), .val (.int x2), .val (.int b0), .val (.int b1), .val (.int b2), .unset, .unset, .unset, .unset, .unset, .unset, .unset, .unset, .unset, .unset] [] := by
  refine Wk.iloadN (pc' := 39) at_38 rfl rfl ?_
  refine Wk.bipush (pc' := 41) (8 : Int32) at_39 (by decide) rfl ?_
  refine Wk.iand (pc' := 42) at_41 rfl ?_
  by_cases hc1 : (x0 &&& (8 : Int32)) = (0 : Int32)
  ·
    refine Wk.ifY (pc' := 49) at_42 (XT.i0_eq_t hc1) (by decide) (by decide) ?_
    refine Wk.iconst (pc' := 50) (0 : Int32) at_49 (by decide) rfl ?_
    refine Wk.istore (pc' := 52) (Ls' := #[.val (.int x0), .val (.int x1), .val (.int x2), .val (.int b0), .val (.int b1), .val (.int b2), .val (.int (0 : Int32)), .unset, .unset, .unset, .unset, .unset, .unset, .unset, .unset, .unset]) at_50 rfl rfl ?_
    exact m_52 l Z a0 hw hB x0 x1 x2 b0 b1 b2 (0 : Int32) hb0 hb1 hb2 (by decide) no cl sN A hz
  ·
    refine Wk.ifN (pc' := 45) at_42 (XT.i0_eq_f hc1) rfl ?_
    refine Wk.iconst (pc' := 46) (1 : Int32) at_45 (by decide) rfl ?_
    refine Wk.goTo (pc' := 50) at_46 (by decide) (by decide) ?_
    refine Wk.istore (pc' := 52) (Ls' := #[.val (.int x0), .val (.int x1), .val (.int x2), .val (.int b0), .val (.int b1), .val (.int b2), .val (.int (1 : Int32)), .unset, .unset, .unset, .unset, .unset, .unset, .unset, .unset, .unset]) at_50 rfl rfl ?_
    exact m_52 l Z a0 hw hB x0 x1 x2 b0 b1 b2 (1 : Int32) hb0 hb1 hb2 (by decide) no cl sN A hz
set_option maxRecDepth 65536 in
set_option maxHeartbeats 40000000 in
theorem m_25 (l : Launch) (Z : State) (a0 : Array Value) (hw : ∀ d ∈ tables_1, d.before a0 Z = true) (hB : Heap) (x0 x1 x2 b0 b1 : Int32) (hb0 : b0 = 0 ∨ b0 = 1) (hb1 : b1 = 0 ∨ b1 = 1) (no : Addr) (cl : Cell) (sN : Sta Z hB "com/example/dissect/dissect/ReachedRanges" "NO_INTS" "[I" (.ref no)) (A : Arr Z hB no cl .int) (hz : cl.slots.size = 0) : WP l Z hB x code maxLocals ret room_1 0 (fun v _ => v = some (.int 1)) 0 [] 25 #[.val (.int x0), .val (.int x1), .val (.int x2), .val (.int b0), .val (.int b1), .unset, .unset, .unset, .unset, .unset, .unset, .unset, .unset, .unset, .unset, .unset] [] := by
  refine Wk.iloadN (pc' := 26) at_25 rfl rfl ?_
  refine Wk.iconst (pc' := 27) (4 : Int32) at_26 (by decide) rfl ?_
  refine Wk.iand (pc' := 28) at_27 rfl ?_
  by_cases hc1 : (x0 &&& (4 : Int32)) = (0 : Int32)
  ·
    refine Wk.ifY (pc' := 35) at_28 (XT.i0_eq_t hc1) (by decide) (by decide) ?_
    refine Wk.iconst (pc' := 36) (0 : Int32) at_35 (by decide) rfl ?_
    refine Wk.istore (pc' := 38) (Ls' := #[.val (.int x0), .val (.int x1), .val (.int x2), .val (.int b0), .val (.int b1), .val (.int (0 : Int32)), .unset, .unset, .unset, .unset, .unset, .unset, .unset, .unset, .unset, .unset]) at_36 rfl rfl ?_
    exact m_38 l Z a0 hw hB x0 x1 x2 b0 b1 (0 : Int32) hb0 hb1 (by decide) no cl sN A hz
  ·
    refine Wk.ifN (pc' := 31) at_28 (XT.i0_eq_f hc1) rfl ?_
    refine Wk.iconst (pc' := 32) (1 : Int32) at_31 (by decide) rfl ?_
    refine Wk.goTo (pc' := 36) at_32 (by decide) (by decide) ?_
    refine Wk.istore (pc' := 38) (Ls' := #[.val (.int x0), .val (.int x1), .val (.int x2), .val (.int b0), .val (.int b1), .val (.int (1 : Int32)), .unset, .unset, .unset, .unset, .unset, .unset, .unset, .unset, .unset, .unset]) at_36 rfl rfl ?_
    exact m_38 l Z a0 hw hB x0 x1 x2 b0 b1 (1 : Int32) hb0 hb1 (by decide) no cl sN A hz
set_option maxRecDepth 65536 in
set_option maxHeartbeats 40000000 in
theorem m_12 (l : Launch) (Z : State) (a0 : Array Value) (hw : ∀ d ∈ tables_1, d.before a0 Z = true) (hB : Heap) (x0 x1 x2 b0 : Int32) (hb0 : b0 = 0 ∨ b0 = 1) (no : Addr) (cl : Cell) (sN : Sta Z hB "com/example/dissect/dissect/ReachedRanges" "NO_INTS" "[I" (.ref no)) (A : Arr Z hB no cl .int) (hz : cl.slots.size = 0) : WP l Z hB x code maxLocals ret room_1 0 (fun v _ => v = some (.int 1)) 0 [] 12 #[.val (.int x0), .val (.int x1), .val (.int x2), .val (.int b0), .unset, .unset, .unset, .unset, .unset, .unset, .unset, .unset, .unset, .unset, .unset, .unset] [] := by
  refine Wk.iloadN (pc' := 13) at_12 rfl rfl ?_
  refine Wk.iconst (pc' := 14) (2 : Int32) at_13 (by decide) rfl ?_
  refine Wk.iand (pc' := 15) at_14 rfl ?_
  by_cases hc1 : (x0 &&& (2 : Int32)) = (0 : Int32)
  ·
    refine Wk.ifY (pc' := 22) at_15 (XT.i0_eq_t hc1) (by decide) (by decide) ?_
    refine Wk.iconst (pc' := 23) (0 : Int32) at_22 (by decide) rfl ?_
    refine Wk.istore (pc' := 25) (Ls' := #[.val (.int x0), .val (.int x1), .val (.int x2), .val (.int b0), .val (.int (0 : Int32)), .unset, .unset, .unset, .unset, .unset, .unset, .unset, .unset, .unset, .unset, .unset]) at_23 rfl rfl ?_
    exact m_25 l Z a0 hw hB x0 x1 x2 b0 (0 : Int32) hb0 (by decide) no cl sN A hz
  ·
    refine Wk.ifN (pc' := 18) at_15 (XT.i0_eq_f hc1) rfl ?_
    refine Wk.iconst (pc' := 19) (1 : Int32) at_18 (by decide) rfl ?_
    refine Wk.goTo (pc' := 23) at_19 (by decide) (by decide) ?_
    refine Wk.istore (pc' := 25) (Ls' := #[.val (.int x0), .val (.int x1), .val (.int x2), .val (.int b0), .val (.int (1 : Int32)), .unset, .unset, .unset, .unset, .unset, .unset, .unset, .unset, .unset, .unset, .unset]) at_23 rfl rfl ?_
    exact m_25 l Z a0 hw hB x0 x1 x2 b0 (1 : Int32) hb0 (by decide) no cl sN A hz
set_option maxRecDepth 65536 in
set_option maxHeartbeats 40000000 in
theorem m_law (l : Launch) (Z : State) (a0 : Array Value) (hw : ∀ d ∈ tables_1, d.before a0 Z = true) (hB : Heap) (x0 x1 x2 : Int32) (no : Addr) (cl : Cell) (sN : Sta Z hB "com/example/dissect/dissect/ReachedRanges" "NO_INTS" "[I" (.ref no)) (A : Arr Z hB no cl .int) (hz : cl.slots.size = 0) : Ctr l Z hB x code maxLocals ret tables_1 room_1 #[(.int x0), (.int x1), (.int x2)] [] (fun v _ => v = some (.int 1)) := by
  refine Wk.ctr pn_8 (Ls := #[.val (.int x0), .val (.int x1), .val (.int x2), .unset, .unset, .unset, .unset, .unset, .unset, .unset, .unset, .unset, .unset, .unset, .unset, .unset]) (fun m => by first | rfl | (simp [entryFrame, mkF, argsToLocals, Value.category]; done)) ?_
  refine Wk.iloadN (pc' := 1) at_0 rfl rfl ?_
  refine Wk.iconst (pc' := 2) (1 : Int32) at_1 (by decide) rfl ?_
  refine Wk.iand (pc' := 3) at_2 rfl ?_
  by_cases hc1 : (x0 &&& (1 : Int32)) = (0 : Int32)
  ·
    refine Wk.ifY (pc' := 10) at_3 (XT.i0_eq_t hc1) (by decide) (by decide) ?_
    refine Wk.iconst (pc' := 11) (0 : Int32) at_10 (by decide) rfl ?_
    refine Wk.istoreN (pc' := 12) (Ls' := #[.val (.int x0), .val (.int x1), .val (.int x2), .val (.int (0 : Int32)), .unset, .unset, .unset, .unset, .unset, .unset, .unset, .unset, .unset, .unset, .unset, .unset]) at_11 rfl rfl ?_
    exact m_12 l Z a0 hw hB x0 x1 x2 (0 : Int32) (by decide) no cl sN A hz
  ·
    refine Wk.ifN (pc' := 6) at_3 (XT.i0_eq_f hc1) rfl ?_
    refine Wk.iconst (pc' := 7) (1 : Int32) at_6 (by decide) rfl ?_
    refine Wk.goTo (pc' := 11) at_7 (by decide) (by decide) ?_
    refine Wk.istoreN (pc' := 12) (Ls' := #[.val (.int x0), .val (.int x1), .val (.int x2), .val (.int (1 : Int32)), .unset, .unset, .unset, .unset, .unset, .unset, .unset, .unset, .unset, .unset, .unset, .unset]) at_11 rfl rfl ?_
    exact m_12 l Z a0 hw hB x0 x1 x2 (1 : Int32) (by decide) no cl sN A hz
set_option maxRecDepth 65536 in
set_option maxHeartbeats 40000000 in
theorem comes_1 {Post : Tables → Env → Array Value → State → Outcome → State → Prop} (hpost : ∀ tb e args s v u, (limb_1_1.after args s (.returned v) u = true ∧ limb_1_2.after args s (.returned v) u = true ∧ True) → FrameEnd s (.returned v) u (Jvm.fieldLocs frame_1_writes args s ++ Jvm.arrayLocs frame_1_arrays args s ++ Jvm.staticLocs frame_1_statics s) 24 256 → Post tb e args s (.returned v) u) :
    ArmFor flags0 classFile x code maxLocals ret World_1 tables_1 room_1 Calls_1 rest_1 Pre_1 Post := by
  intro l hfl _ _ p e ha hc hk s m args below hf hA hF happ hP
  obtain ⟨hcalls, hrest, hpre⟩ := hP
  obtain ⟨-, -, -, hnamed, -, -, -, hat⟩ := (Spec.applies_iff hf).mp happ
  obtain ⟨hg, hn⟩ := and_e (Cond.before_iff.mp (show (Jvm.Cond.and given_1 narrow_1).before args s = true from hpre))
  obtain ⟨h1, h2⟩ := and_e hg
  obtain ⟨w0, w1, w2, rfl⟩ : ∃ w0 w1 w2 : Value, args = #[w0, w1, w2] := by
    have hs : args.size = 3 := by simpa [Cond.value, given_1] using h1
    obtain ⟨L⟩ := args
    match L, hs with
    | [w0, w1, w2], _ => exact ⟨w0, w1, w2, rfl⟩
  have hw := fun d (hd : d ∈ tables_1) => atoms_spec (ws := Jvm.Cond.code x code maxLocals ret :: tables_1) hat d (List.mem_cons_of_mem _ hd)
  have hfit : Fit s := fun {y c} hc i hi => by
    obtain ⟨ha, rfl⟩ := Array.getElem?_eq_some_iff.mp hc
    have q := List.all_eq_true.mp ((Array.all_eq_true_iff_forall_mem.mp hF) _ (Array.getElem_mem ha)) i (List.mem_range.mpr hi)
    simpa [Array.getElem?_eq_getElem hi] using q
  obtain ⟨g0, r0⟩ := and_e h2
  obtain ⟨i0, e0⟩ := is_v g0
  obtain rfl : w0 = (.int i0) := Option.some.inj e0
  obtain ⟨g1, r1⟩ := and_e r0
  obtain ⟨i1, e1⟩ := is_v g1
  obtain rfl : w1 = (.int i1) := Option.some.inj e1
  obtain ⟨i2, e2⟩ := is_v r1
  obtain rfl : w2 = (.int i2) := Option.some.inj e2
  obtain ⟨q0, q⟩ := and_e hn
  obtain ⟨q1, q2⟩ := and_e q
  obtain ⟨no, eN⟩ := arr_v q0
  obtain ⟨cl, A⟩ := Arr.start eN q0
  obtain ⟨hl, e2⟩ := Wk.lenOfT eN (A.fin (Vm.Alike.refl _)) q2
  have hz : cl.slots.size = 0 := by
    have e3 := congrArg Int32.toInt e2
    rw [len_toInt hl] at e3; have : (0 : Int32).toInt = 0 := rfl; omega
  have sN := Sta.start eN (Or.inr ⟨(wd3 hw), (wd11 hw)⟩)
  obtain ⟨n, o, h1, h2, h3, v, L, H', rfl, rfl, hp, N, hq⟩ := m_law l s _ hw s.heap i0 i1 i2 no cl sN A hz p e ha hc hk s m _ below hf ((Spec.applies_iff_loose hf).mp happ).1 ⟨rfl, State.Warmed39.refl s, Wk.Hp.start s s.heap⟩ trivial
  refine ⟨n, _, h1, h2, h3, hpost _ _ _ _ _ _ ⟨Cond.after_iff.mpr rfl, Cond.after_iff.mpr (eq_i res_at (Term.int_eval (1)) rfl), trivial⟩ ⟨hq.1, hq.2.1, (hq.2.2.sift fun y hy => Or.inr (N y hy)).mono (by decide) (by decide)⟩⟩
theorem main_1_1 : Claimed_1_1 := comes_1 fun _ _ _ _ _ _ h hF => ⟨h.1, hF⟩
theorem main_1_2 : Claimed_1_2 := comes_1 fun _ _ _ _ _ _ h hF => ⟨h.2.1, hF⟩
end Jvm.Pilot.@@N@@
namespace Jvm.Pilot.@@N@@
open Jvm Jvm.ClassFile Sem Op Lib Jvm.Free Jvm.Stand Jvm.Pilot.@@N@@.Jvm.D
/-! MADE BY PROGRAM (witnessworld.py) out of the Statement's table words and the real class files: 12 classes; the members and pool entries that the words name. The judged class is class 1, her method 1. -/
namespace start1
open Jvm.ClassFile
def u (s : String) : CpInfo := .utf8 (stringToUtf16 s)
/-- a pool by its gaps: so many unusable entries, then the entry; so many at the end -/
def gap : Nat → List CpInfo → List CpInfo
  | 0, r => r
  | n + 1, r => .unusable :: gap n r
def poolList (es : List (Nat × CpInfo)) (last : Nat) : List CpInfo := es.foldr (fun e r => gap e.1 (e.2 :: r)) (gap last [])
def pool (es : List (Nat × CpInfo)) (last : Nat) : Array CpInfo := ⟨poolList es last⟩
def fileOf (pool : Array CpInfo) (this : Nat) (attrs : Array Attribute := #[]) (ms : Array MethodInfo := #[]) (fl : Nat := 33) (sup : Nat := 0) (ifs : Array Nat := #[]) (fds : Array FieldInfo := #[]) : ClassFile where
  minorVersion := 0
  majorVersion := 65
  constantPool := pool
  accessFlags := fl
  thisClass := this
  superClass := sup
  interfaces := ifs
  fields := fds
  methods := ms
  attributes := attrs
def plain (name : String) (sup : Option ClassId) : Class where
  name := name
  kind := .ordinary
  loader := none
  accessFlags := 33
  super := sup
  interfaces := #[]
  cf := none
  fields := #[]
  methods := #[]
  instanceTypes := #[]
  staticTypes := #[]
  resolved := #[]
  callSites := []
  init := .initialized
  statics := none
  mirror := none

def pool0 : Array CpInfo := pool [(5, u "<init>"), (0, u "()V"), (1, .class_ 10), (1, u "java/lang/Object")] 113

def k0c0 : Code := { maxStack := 0, maxLocals := 1, code := object_method_1_code, exceptionTable := #[], attributes := #[] }
def k0m0 : Method := { name := "<init>", desc := "()V", sig := { parameters := [], returnType := none }, accessFlags := 1, code := some k0c0 }
/-- java/lang/Object -/
def k0 : Class := { plain "java/lang/Object" none with
  accessFlags := 33
  interfaces := #[]
  cf := some (fileOf pool0 8 #[] #[{ accessFlags := 1, nameIndex := 5, descriptorIndex := 6, attributes := #[] }] 33 0 #[] #[])
  fields := #[]
  methods := #[k0m0]
  instanceTypes := #[]
  staticTypes := #[]
  resolved := Array.replicate 124 none
  statics := none }

def pool1 : Array CpInfo := pool [(2, .class_ 4), (0, .nameAndType 5 6), (0, u "java/lang/Object"), (0, u "<init>"), (0, u "()V"), (0, .integer 2147483647), (0, .class_ 9), (0, u "com/example/dissect/dissect/ReachedRanges"), (0, .methodref 8 3), (0, .methodref 8 12), (0, .nameAndType 13 6), (0, u "add"), (0, .methodref 8 15), (0, .nameAndType 16 17), (0, u "reach"), (0, u "(I)V"), (0, .methodref 8 19), (0, .nameAndType 20 21), (0, u "mayReach"), (0, u "(II)Z"), (0, .class_ 23), (0, u "com/example/dissect/dissect/ReachedRangesMayReachPinLaw"), (2, u "law"), (0, u "(III)Z")] 3

def k1m0 : Method := { name := "<init>", desc := "()V", sig := { parameters := [], returnType := none }, accessFlags := 1, code := none }
def k1c1 : Code := { maxStack := 3, maxLocals := 16, code := code, exceptionTable := #[], attributes := #[] }
def k1m1 : Method := { name := "law", desc := "(III)Z", sig := { parameters := [.int, .int, .int], returnType := some .boolean }, accessFlags := 9, code := some k1c1 }
/-- com/example/dissect/dissect/ReachedRangesMayReachPinLaw -/
def k1 : Class := { plain "com/example/dissect/dissect/ReachedRangesMayReachPinLaw" (some 0) with
  accessFlags := 49
  interfaces := #[]
  cf := some (fileOf pool1 22 #[] #[{ accessFlags := 1, nameIndex := 5, descriptorIndex := 6, attributes := #[] }, { accessFlags := 9, nameIndex := 26, descriptorIndex := 27, attributes := #[] }] 49 2 #[] #[])
  fields := #[]
  methods := #[k1m0, k1m1]
  instanceTypes := #[]
  staticTypes := #[]
  resolved := Array.replicate 31 none
  statics := none }

def pool2 : Array CpInfo := pool [(1, .methodref 2 3), (0, .class_ 4), (0, .nameAndType 5 6), (0, u "java/lang/Object"), (0, u "<init>"), (0, u "()V"), (0, .fieldref 8 9), (0, .class_ 10), (0, .nameAndType 11 12), (0, u "com/example/dissect/dissect/ReachedRanges"), (0, u "NO_INTS"), (0, u "[I"), (0, .fieldref 8 14), (0, .nameAndType 15 12), (0, u "firstRanges"), (0, .fieldref 8 17), (0, .nameAndType 18 12), (0, u "lows"), (0, .fieldref 8 20), (0, .nameAndType 21 12), (0, u "highs"), (0, .fieldref 8 23), (0, .nameAndType 24 12), (0, u "mergedLows"), (0, .fieldref 8 26), (0, .nameAndType 27 12), (0, u "mergedHighs"), (0, .fieldref 8 29), (0, .nameAndType 30 31), (0, u "members"), (0, u "I"), (0, .methodref 33 34), (0, .class_ 35), (0, .nameAndType 36 37), (0, u "java/lang/Math"), (0, u "max"), (0, u "(II)I"), (0, .methodref 39 40), (0, .class_ 41), (0, .nameAndType 42 43), (0, u "java/util/Arrays"), (0, u "copyOf"), (0, u "([II)[I"), (0, .fieldref 8 45), (0, .nameAndType 46 31), (0, u "ranges"), (0, .methodref 8 48), (0, .nameAndType 49 50), (0, u "append"), (0, u "(II)V"), (10, u "MOST_RANGES"), (4, u "add"), (1, u "reach"), (0, u "(I)V"), (0, u "mayReach"), (0, u "(II)Z")] 3

def k2c0 : Code := { maxStack := 2, maxLocals := 1, code := prog_101_method_1_code, exceptionTable := #[], attributes := #[] }
def k2m0 : Method := { name := "<init>", desc := "()V", sig := { parameters := [], returnType := none }, accessFlags := 0, code := some k2c0 }
def k2c1 : Code := { maxStack := 5, maxLocals := 1, code := prog_101_method_2_code, exceptionTable := #[], attributes := #[] }
def k2m1 : Method := { name := "add", desc := "()V", sig := { parameters := [], returnType := none }, accessFlags := 0, code := some k2c1 }
def k2c2 : Code := { maxStack := 5, maxLocals := 10, code := prog_101_method_3_code, exceptionTable := #[], attributes := #[] }
def k2m2 : Method := { name := "reach", desc := "(I)V", sig := { parameters := [.int], returnType := none }, accessFlags := 0, code := some k2c2 }
def k2c3 : Code := { maxStack := 3, maxLocals := 6, code := prog_101_method_4_code, exceptionTable := #[], attributes := #[] }
def k2m3 : Method := { name := "mayReach", desc := "(II)Z", sig := { parameters := [.int, .int], returnType := some .boolean }, accessFlags := 0, code := some k2c3 }
def k2c4 : Code := { maxStack := 3, maxLocals := 4, code := prog_101_method_6_code, exceptionTable := #[], attributes := #[] }
def k2m4 : Method := { name := "append", desc := "(II)V", sig := { parameters := [.int, .int], returnType := none }, accessFlags := 2, code := some k2c4 }
/-- com/example/dissect/dissect/ReachedRanges -/
def k2 : Class := { plain "com/example/dissect/dissect/ReachedRanges" (some 0) with
  accessFlags := 48
  interfaces := #[]
  cf := some (fileOf pool2 8 #[] #[{ accessFlags := 0, nameIndex := 5, descriptorIndex := 6, attributes := #[] }, { accessFlags := 0, nameIndex := 66, descriptorIndex := 6, attributes := #[] }, { accessFlags := 0, nameIndex := 68, descriptorIndex := 69, attributes := #[] }, { accessFlags := 0, nameIndex := 70, descriptorIndex := 71, attributes := #[] }, { accessFlags := 2, nameIndex := 49, descriptorIndex := 50, attributes := #[] }] 48 2 #[] #[{ accessFlags := 26, nameIndex := 61, descriptorIndex := 31, attributes := #[] }, { accessFlags := 26, nameIndex := 11, descriptorIndex := 12, attributes := #[] }, { accessFlags := 2, nameIndex := 15, descriptorIndex := 12, attributes := #[] }, { accessFlags := 2, nameIndex := 30, descriptorIndex := 31, attributes := #[] }, { accessFlags := 2, nameIndex := 18, descriptorIndex := 12, attributes := #[] }, { accessFlags := 2, nameIndex := 21, descriptorIndex := 12, attributes := #[] }, { accessFlags := 2, nameIndex := 46, descriptorIndex := 31, attributes := #[] }, { accessFlags := 18, nameIndex := 24, descriptorIndex := 12, attributes := #[] }, { accessFlags := 18, nameIndex := 27, descriptorIndex := 12, attributes := #[] }])
  fields := #[{ name := "MOST_RANGES", type := .int, accessFlags := 26, slot := 0, constantValue := 0 }, { name := "NO_INTS", type := (.array .int), accessFlags := 26, slot := 1, constantValue := 0 }, { name := "firstRanges", type := (.array .int), accessFlags := 2, slot := 0, constantValue := 0 }, { name := "members", type := .int, accessFlags := 2, slot := 1, constantValue := 0 }, { name := "lows", type := (.array .int), accessFlags := 2, slot := 2, constantValue := 0 }, { name := "highs", type := (.array .int), accessFlags := 2, slot := 3, constantValue := 0 }, { name := "ranges", type := .int, accessFlags := 2, slot := 4, constantValue := 0 }, { name := "mergedLows", type := (.array .int), accessFlags := 18, slot := 5, constantValue := 0 }, { name := "mergedHighs", type := (.array .int), accessFlags := 18, slot := 6, constantValue := 0 }]
  methods := #[k2m0, k2m1, k2m2, k2m3, k2m4]
  instanceTypes := #[(.array .int), .int, (.array .int), (.array .int), .int, (.array .int), (.array .int)]
  staticTypes := #[.int, (.array .int)]
  resolved := Array.replicate 75 none
  statics := some 0 }

def pool3 : Array CpInfo := pool [(1, .class_ 2), (0, u "java/lang/Math"), (1, .class_ 6), (1, u "java/lang/Object"), (0, u "<init>"), (0, u "()V"), (89, .class_ 100), (1, u "java/lang/Math$RandomNumberGeneratorHolder"), (71, u "negativeZeroFloatBits"), (0, u "J"), (2, u "negativeZeroDoubleBits"), (21, u "max"), (2, u "min"), (43, u "$assertionsDisabled"), (0, u "Z"), (88, u "(II)I"), (2, u "twoToTheDoubleScaleDown"), (0, u "D"), (4, u "twoToTheDoubleScaleUp"), (9, u "E"), (3, u "PI"), (2, u "TAU"), (2, u "DEGREES_TO_RADIANS"), (0, u "RADIANS_TO_DEGREES")] 94

def k3m0 : Method := { name := "<init>", desc := "()V", sig := { parameters := [], returnType := none }, accessFlags := 2, code := none }
def k3c1 : Code := { maxStack := 2, maxLocals := 2, code := jdk_29_method_65_code, exceptionTable := #[], attributes := #[] }
def k3m1 : Method := { name := "max", desc := "(II)I", sig := { parameters := [.int, .int], returnType := some .int }, accessFlags := 9, code := some k3c1 }
def k3c2 : Code := { maxStack := 2, maxLocals := 2, code := jdk_29_method_69_code, exceptionTable := #[], attributes := #[] }
def k3m2 : Method := { name := "min", desc := "(II)I", sig := { parameters := [.int, .int], returnType := some .int }, accessFlags := 9, code := some k3c2 }
/-- java/lang/Math -/
def k3 : Class := { plain "java/lang/Math" (some 0) with
  accessFlags := 49
  interfaces := #[]
  cf := some (fileOf pool3 1 #[.nestMembers #[98]] #[{ accessFlags := 2, nameIndex := 7, descriptorIndex := 8, attributes := #[] }, { accessFlags := 9, nameIndex := 198, descriptorIndex := 335, attributes := #[] }, { accessFlags := 9, nameIndex := 201, descriptorIndex := 335, attributes := #[] }] 49 4 #[] #[{ accessFlags := 25, nameIndex := 354, descriptorIndex := 339, attributes := #[] }, { accessFlags := 25, nameIndex := 358, descriptorIndex := 339, attributes := #[] }, { accessFlags := 25, nameIndex := 361, descriptorIndex := 339, attributes := #[] }, { accessFlags := 26, nameIndex := 364, descriptorIndex := 339, attributes := #[] }, { accessFlags := 26, nameIndex := 365, descriptorIndex := 339, attributes := #[] }, { accessFlags := 26, nameIndex := 172, descriptorIndex := 173, attributes := #[] }, { accessFlags := 26, nameIndex := 176, descriptorIndex := 173, attributes := #[] }, { accessFlags := 8, nameIndex := 344, descriptorIndex := 339, attributes := #[] }, { accessFlags := 8, nameIndex := 338, descriptorIndex := 339, attributes := #[] }, { accessFlags := 4120, nameIndex := 245, descriptorIndex := 246, attributes := #[] }])
  fields := #[{ name := "E", type := .double, accessFlags := 25, slot := 0, constantValue := 0 }, { name := "PI", type := .double, accessFlags := 25, slot := 1, constantValue := 0 }, { name := "TAU", type := .double, accessFlags := 25, slot := 2, constantValue := 0 }, { name := "DEGREES_TO_RADIANS", type := .double, accessFlags := 26, slot := 3, constantValue := 0 }, { name := "RADIANS_TO_DEGREES", type := .double, accessFlags := 26, slot := 4, constantValue := 0 }, { name := "negativeZeroFloatBits", type := .long, accessFlags := 26, slot := 5, constantValue := 0 }, { name := "negativeZeroDoubleBits", type := .long, accessFlags := 26, slot := 6, constantValue := 0 }, { name := "twoToTheDoubleScaleUp", type := .double, accessFlags := 8, slot := 7, constantValue := 0 }, { name := "twoToTheDoubleScaleDown", type := .double, accessFlags := 8, slot := 8, constantValue := 0 }, { name := "$assertionsDisabled", type := .boolean, accessFlags := 4120, slot := 9, constantValue := 0 }]
  methods := #[k3m0, k3m1, k3m2]
  instanceTypes := #[]
  staticTypes := #[.double, .double, .double, .double, .double, .long, .long, .double, .double, .boolean]
  resolved := Array.replicate 460 none
  statics := none }

def pool4 : Array CpInfo := pool [(2, .class_ 4), (1, u "java/lang/Object"), (0, u "<init>"), (0, u "()V"), (7, .class_ 16), (1, u "java/util/Arrays"), (57, .class_ 76), (1, u "java/util/Arrays$NaturalOrder"), (36, .class_ 115), (1, u "java/util/Arrays$LegacyMergeSort"), (1, u "Z"), (32, .methodref 151 152), (0, .class_ 153), (0, .nameAndType 154 155), (0, u "java/lang/System"), (0, u "arraycopy"), (0, u "(Ljava/lang/Object;ILjava/lang/Object;II)V"), (146, u "copyOf"), (1, .methodref 305 306), (0, .class_ 307), (0, .nameAndType 308 309), (0, u "java/lang/Math"), (0, u "min"), (0, u "(II)I"), (65, .class_ 376), (0, u "java/util/Arrays$ArrayList"), (68, u "$assertionsDisabled"), (269, u "MIN_ARRAY_SORT_GRAN"), (0, u "I"), (2, u "INSERTIONSORT_THRESHOLD"), (151, u "([II)[I"), (103, .class_ 976), (0, u "java/util/Arrays$ArrayItr")] 52

def k4m0 : Method := { name := "<init>", desc := "()V", sig := { parameters := [], returnType := none }, accessFlags := 2, code := none }
def k4c1 : Code := { maxStack := 6, maxLocals := 3, code := jdk_65_method_123_code, exceptionTable := #[], attributes := #[] }
def k4m1 : Method := { name := "copyOf", desc := "([II)[I", sig := { parameters := [(.array .int), .int], returnType := some (.array .int) }, accessFlags := 9, code := some k4c1 }
/-- java/util/Arrays -/
def k4 : Class := { plain "java/util/Arrays" (some 0) with
  accessFlags := 49
  interfaces := #[]
  cf := some (fileOf pool4 14 #[.nestMembers #[975, 375, 113, 74]] #[{ accessFlags := 2, nameIndex := 5, descriptorIndex := 6, attributes := #[] }, { accessFlags := 9, nameIndex := 302, descriptorIndex := 871, attributes := #[] }] 49 2 #[] #[{ accessFlags := 26, nameIndex := 715, descriptorIndex := 716, attributes := #[] }, { accessFlags := 26, nameIndex := 719, descriptorIndex := 716, attributes := #[] }, { accessFlags := 4120, nameIndex := 445, descriptorIndex := 117, attributes := #[] }])
  fields := #[{ name := "MIN_ARRAY_SORT_GRAN", type := .int, accessFlags := 26, slot := 0, constantValue := 0 }, { name := "INSERTIONSORT_THRESHOLD", type := .int, accessFlags := 26, slot := 1, constantValue := 0 }, { name := "$assertionsDisabled", type := .boolean, accessFlags := 4120, slot := 2, constantValue := 0 }]
  methods := #[k4m0, k4m1]
  instanceTypes := #[]
  staticTypes := #[.int, .int, .boolean]
  resolved := Array.replicate 1029 none
  statics := none }

def pool5 : Array CpInfo := pool [(2, .class_ 4), (1, u "java/lang/Object"), (0, u "<init>"), (0, u "()V"), (1, .class_ 10), (1, u "java/lang/System"), (0, u "allowSecurityManager"), (0, u "I"), (16, u "cons"), (0, u "Ljava/io/Console;"), (77, .class_ 110), (1, u "java/lang/System$CallersHolder"), (43, u "initialErrStream"), (0, u "Ljava/io/PrintStream;"), (19, u "security"), (0, u "Ljava/lang/SecurityManager;"), (31, .class_ 209), (0, u "java/lang/System$1"), (7, u "props"), (0, u "Ljava/util/Properties;"), (2, u "lineSeparator"), (0, u "Ljava/lang/String;"), (96, .class_ 321), (1, u "java/lang/System$LoggerFinder"), (5, .class_ 328), (0, u "java/lang/System$Logger"), (67, u "err"), (2, u "out"), (91, u "notSupportedJnuEncoding"), (15, u "in"), (17, u "initialIn"), (0, u "Ljava/io/InputStream;"), (35, u "bootLayer"), (0, u "Ljava/lang/ModuleLayer;"), (99, .class_ 664), (0, u "java/lang/System$2"), (9, u "NEVER"), (2, u "MAYBE"), (49, u "arraycopy"), (0, u "(Ljava/lang/Object;ILjava/lang/Object;II)V"), (72, .class_ 802), (0, u "java/lang/System$Logger$Level")] 31

def k5m0 : Method := { name := "<init>", desc := "()V", sig := { parameters := [], returnType := none }, accessFlags := 2, code := none }
def k5m1 : Method := { name := "arraycopy", desc := "(Ljava/lang/Object;ILjava/lang/Object;II)V", sig := { parameters := [(.object "java/lang/Object"), .int, (.object "java/lang/Object"), .int, .int], returnType := none }, accessFlags := 265, code := none }
/-- java/lang/System -/
def k5 : Class := { plain "java/lang/System" (some 0) with
  accessFlags := 49
  interfaces := #[]
  cf := some (fileOf pool5 8 #[.nestMembers #[319, 327, 801, 108, 663, 208]] #[{ accessFlags := 2, nameIndex := 5, descriptorIndex := 6, attributes := #[] }, { accessFlags := 265, nameIndex := 727, descriptorIndex := 728, attributes := #[] }] 49 2 #[] #[{ accessFlags := 25, nameIndex := 507, descriptorIndex := 526, attributes := #[] }, { accessFlags := 25, nameIndex := 399, descriptorIndex := 155, attributes := #[] }, { accessFlags := 25, nameIndex := 396, descriptorIndex := 155, attributes := #[] }, { accessFlags := 10, nameIndex := 525, descriptorIndex := 526, attributes := #[] }, { accessFlags := 26, nameIndex := 674, descriptorIndex := 12, attributes := #[] }, { accessFlags := 26, nameIndex := 677, descriptorIndex := 12, attributes := #[] }, { accessFlags := 10, nameIndex := 11, descriptorIndex := 12, attributes := #[] }, { accessFlags := 74, nameIndex := 175, descriptorIndex := 176, attributes := #[] }, { accessFlags := 10, nameIndex := 491, descriptorIndex := 222, attributes := #[] }, { accessFlags := 74, nameIndex := 29, descriptorIndex := 30, attributes := #[] }, { accessFlags := 74, nameIndex := 154, descriptorIndex := 155, attributes := #[] }, { accessFlags := 10, nameIndex := 217, descriptorIndex := 218, attributes := #[] }, { accessFlags := 10, nameIndex := 221, descriptorIndex := 222, attributes := #[] }, { accessFlags := 8, nameIndex := 562, descriptorIndex := 563, attributes := #[] }])
  fields := #[{ name := "in", type := (.object "java/io/InputStream"), accessFlags := 25, slot := 0, constantValue := 0 }, { name := "out", type := (.object "java/io/PrintStream"), accessFlags := 25, slot := 1, constantValue := 0 }, { name := "err", type := (.object "java/io/PrintStream"), accessFlags := 25, slot := 2, constantValue := 0 }, { name := "initialIn", type := (.object "java/io/InputStream"), accessFlags := 10, slot := 3, constantValue := 0 }, { name := "NEVER", type := .int, accessFlags := 26, slot := 4, constantValue := 0 }, { name := "MAYBE", type := .int, accessFlags := 26, slot := 5, constantValue := 0 }, { name := "allowSecurityManager", type := .int, accessFlags := 10, slot := 6, constantValue := 0 }, { name := "security", type := (.object "java/lang/SecurityManager"), accessFlags := 74, slot := 7, constantValue := 0 }, { name := "notSupportedJnuEncoding", type := (.object "java/lang/String"), accessFlags := 10, slot := 8, constantValue := 0 }, { name := "cons", type := (.object "java/io/Console"), accessFlags := 74, slot := 9, constantValue := 0 }, { name := "initialErrStream", type := (.object "java/io/PrintStream"), accessFlags := 74, slot := 10, constantValue := 0 }, { name := "props", type := (.object "java/util/Properties"), accessFlags := 10, slot := 11, constantValue := 0 }, { name := "lineSeparator", type := (.object "java/lang/String"), accessFlags := 10, slot := 12, constantValue := 0 }, { name := "bootLayer", type := (.object "java/lang/ModuleLayer"), accessFlags := 8, slot := 13, constantValue := 0 }]
  methods := #[k5m0, k5m1]
  instanceTypes := #[]
  staticTypes := #[(.object "java/io/InputStream"), (.object "java/io/PrintStream"), (.object "java/io/PrintStream"), (.object "java/io/InputStream"), .int, .int, .int, (.object "java/lang/SecurityManager"), (.object "java/lang/String"), (.object "java/io/Console"), (.object "java/io/PrintStream"), (.object "java/util/Properties"), (.object "java/lang/String"), (.object "java/lang/ModuleLayer")]
  resolved := Array.replicate 834 none
  statics := none }

def pool6 : Array CpInfo := pool [(1, u "java/lang/Cloneable"), (0, .class_ 1), (0, u "java/lang/Object"), (0, .class_ 3)] 3

/-- java/lang/Cloneable -/
def k6 : Class := { plain "java/lang/Cloneable" (some 0) with
  accessFlags := 1537
  interfaces := #[]
  cf := some (fileOf pool6 2 #[] #[] 1537 4 #[] #[])
  fields := #[]
  methods := #[]
  instanceTypes := #[]
  staticTypes := #[]
  resolved := Array.replicate 8 none
  statics := none }

def pool7 : Array CpInfo := pool [(1, u "java/io/Serializable"), (0, .class_ 1), (0, u "java/lang/Object"), (0, .class_ 3)] 3

/-- java/io/Serializable -/
def k7 : Class := { plain "java/io/Serializable" (some 0) with
  accessFlags := 1537
  interfaces := #[]
  cf := some (fileOf pool7 2 #[] #[] 1537 4 #[] #[])
  fields := #[]
  methods := #[]
  instanceTypes := #[]
  staticTypes := #[]
  resolved := Array.replicate 8 none
  statics := none }

/-- the primitive byte -/
def k8 : Class := { plain "byte" none with kind := .primitive 'B', accessFlags := 0x411 }
/-- [B -/
def k9 : Class := { plain "[B" (some 0) with kind := .array 8 .byte, interfaces := #[6, 7], accessFlags := 1041 }

/-- the primitive int -/
def k10 : Class := { plain "int" none with kind := .primitive 'I', accessFlags := 0x411 }
/-- [I -/
def k11 : Class := { plain "[I" (some 0) with kind := .array 10 .int, interfaces := #[6, 7], accessFlags := 1041 }

def heap : Heap := #[{ cls := 2, slots := #[.int 0, .ref 1], vm := .statics 2 },
  { cls := 11, slots := #[], vm := .none }]
def classes : Array Class := #[k0, k1, k2, k3, k4, k5, k6, k7, k8, k9, k10, k11]
def interned : List (Array UInt16 × Addr) := []
def slotsUsed : Nat := 2
def theMethod : MethodId := ⟨1, 1⟩
def args0 : Array Value := #[.int 5, .int 3, .int 2]
def aboutOver (below : List Frame) : State where
  vm := { classes := classes, interned := interned.toArray }
  heap := heap
  slotsUsed := slotsUsed
  threads := #[{ frames := .invoking theMethod args0 :: below }]
def below0 : List Frame := [.native { method := ⟨0, 0⟩, args := #[] }]
def about1 : State := aboutOver below0
def p0 : Program := .bare "" "" ""
def e0 : Env := launch0.env 0 0 0
theorem w_frames : about1.frames = Frame.invoking theMethod args0 :: below0 := rfl
set_option maxRecDepth 65536 in
theorem w_args : argsFit about1.vm theMethod args0 = true := by decide +kernel
set_option maxRecDepth 65536 in
theorem w_heap : heapFits about1 = true := by decide +kernel
set_option maxRecDepth 65536 in
theorem w_runnable : about1.curStatus? = some .runnable := by decide +kernel
set_option maxRecDepth 65536 in
theorem w_alone : about1.alone = true := by decide +kernel
set_option maxRecDepth 65536 in
theorem w_named : about1.methodNamed? x = some theMethod := by decide +kernel
set_option maxRecDepth 65536 in
theorem w_hears : about1.hears theMethod below0 = true := by decide +kernel
set_option maxRecDepth 65536 in
theorem w_ripe : about1.ripe theMethod args0 below0 = true := by decide +kernel
theorem w_running : about1.status = .running := rfl
set_option maxRecDepth 65536 in
theorem w_room : about1.hasRoom e0.platform room_1 = true :=
  launch0.hasRoom_least _ room_1 (by decide +kernel) (by decide +kernel) (by decide +kernel) (by decide +kernel) (by decide +kernel) (by decide +kernel)
theorem allAtoms_all (ts : List Jvm.Cond) (a : Array Jvm.Value) (st : Jvm.State) : (allAtoms ts).before a st = ts.all (fun c => c.before a st) := by
  induction ts with
  | nil => rfl
  | cons c t ih =>
    show (Jvm.Cond.and c (allAtoms t)).before a st = _
    rw [Jvm.Cond.before_and, ih, List.all_cons]
def words1 : List Jvm.Cond := Jvm.Cond.code x code maxLocals ret :: tables_1
/-- a 'code' word, met by the world's own term for the bytes: nothing is compared byte by byte -/
theorem code_word {y : MethodName} {bytes : ByteArray} {mx : Nat} {rt : Option FieldType} {a : Array Value} {s : State} {m : MethodId} {meth : Method} {c : Code} (h1 : s.methodNamed? y = some m) (h2 : s.vm.method? m = some meth) (h3 : meth.code = some c) (h4 : c.code = bytes)
    (h5 : (c.maxLocals == mx && c.exceptionTable.isEmpty && decide (c.maxStack ≤ mostOperands) && decide (meth.sig.returnType = rt) && !meth.locks && decide (parseMethodDescriptor y.desc = some meth.sig)) = true) : (Jvm.Cond.code y bytes mx rt).before a s = true := by
  simp only [Bool.and_eq_true, beq_iff_eq, Bool.not_eq_true', decide_eq_true_eq] at h5
  obtain ⟨⟨⟨⟨⟨g1, g2⟩, g3⟩, g4⟩, g5⟩, g6⟩ := h5
  simp [Cond.before, Cond.holds, Cond.value, h1, h2, h3, h4, g1, g2, g3, g4, g5, g6]
def isCode : Jvm.Cond → Bool
  | .code _ _ _ _ => true
  | _ => false
theorem all_split {L : List Jvm.Cond} {P : Jvm.Cond → Bool} (h1 : L.all (fun c => isCode c || P c) = true) (h2 : ∀ c ∈ L.filter isCode, P c = true) : L.all P = true := by
  refine List.all_eq_true.mpr fun c hc => ?_
  have h := List.all_eq_true.mp h1 c hc
  rcases Bool.eq_false_or_eq_true (isCode c) with hi | hi
  · exact h2 c (List.mem_filter.mpr ⟨hc, hi⟩)
  · simpa [hi] using h
set_option maxRecDepth 65536 in
theorem w_c0 : (Jvm.Cond.code x code maxLocals ret).before args0 about1 = true := code_word (m := ⟨1, 1⟩) (meth := k1m1) (c := k1c1) (by decide +kernel) rfl rfl rfl (by decide +kernel)
set_option maxRecDepth 65536 in
theorem w_c1 : (Jvm.Cond.code ({ cls := "com/example/dissect/dissect/ReachedRanges", name := "<init>", desc := "()V" } : Jvm.MethodName) prog_101_method_1_code (1 : Nat) (Option.none : Option Jvm.ClassFile.FieldType)).before args0 about1 = true := code_word (m := ⟨2, 0⟩) (meth := k2m0) (c := k2c0) (by decide +kernel) rfl rfl rfl (by decide +kernel)
set_option maxRecDepth 65536 in
theorem w_c2 : (Jvm.Cond.code ({ cls := "java/lang/Object", name := "<init>", desc := "()V" } : Jvm.MethodName) object_method_1_code (1 : Nat) (Option.none : Option Jvm.ClassFile.FieldType)).before args0 about1 = true := code_word (m := ⟨0, 0⟩) (meth := k0m0) (c := k0c0) (by decide +kernel) rfl rfl rfl (by decide +kernel)
set_option maxRecDepth 65536 in
theorem w_c3 : (Jvm.Cond.code ({ cls := "com/example/dissect/dissect/ReachedRanges", name := "add", desc := "()V" } : Jvm.MethodName) prog_101_method_2_code (1 : Nat) (Option.none : Option Jvm.ClassFile.FieldType)).before args0 about1 = true := code_word (m := ⟨2, 1⟩) (meth := k2m1) (c := k2c1) (by decide +kernel) rfl rfl rfl (by decide +kernel)
set_option maxRecDepth 65536 in
theorem w_c4 : (Jvm.Cond.code ({ cls := "java/lang/Math", name := "max", desc := "(II)I" } : Jvm.MethodName) jdk_29_method_65_code (2 : Nat) (Option.some Jvm.ClassFile.FieldType.int)).before args0 about1 = true := code_word (m := ⟨3, 1⟩) (meth := k3m1) (c := k3c1) (by decide +kernel) rfl rfl rfl (by decide +kernel)
set_option maxRecDepth 65536 in
theorem w_c5 : (Jvm.Cond.code ({ cls := "java/util/Arrays", name := "copyOf", desc := "([II)[I" } : Jvm.MethodName) jdk_65_method_123_code (3 : Nat) (Option.some (Jvm.ClassFile.FieldType.array Jvm.ClassFile.FieldType.int))).before args0 about1 = true := code_word (m := ⟨4, 1⟩) (meth := k4m1) (c := k4c1) (by decide +kernel) rfl rfl rfl (by decide +kernel)
set_option maxRecDepth 65536 in
theorem w_c6 : (Jvm.Cond.code ({ cls := "java/lang/Math", name := "min", desc := "(II)I" } : Jvm.MethodName) jdk_29_method_69_code (2 : Nat) (Option.some Jvm.ClassFile.FieldType.int)).before args0 about1 = true := code_word (m := ⟨3, 2⟩) (meth := k3m2) (c := k3c2) (by decide +kernel) rfl rfl rfl (by decide +kernel)
set_option maxRecDepth 65536 in
theorem w_c7 : (Jvm.Cond.code ({ cls := "com/example/dissect/dissect/ReachedRanges", name := "append", desc := "(II)V" } : Jvm.MethodName) prog_101_method_6_code (4 : Nat) (Option.none : Option Jvm.ClassFile.FieldType)).before args0 about1 = true := code_word (m := ⟨2, 4⟩) (meth := k2m4) (c := k2c4) (by decide +kernel) rfl rfl rfl (by decide +kernel)
set_option maxRecDepth 65536 in
theorem w_c8 : (Jvm.Cond.code ({ cls := "com/example/dissect/dissect/ReachedRanges", name := "mayReach", desc := "(II)Z" } : Jvm.MethodName) prog_101_method_4_code (6 : Nat) (Option.some Jvm.ClassFile.FieldType.boolean)).before args0 about1 = true := code_word (m := ⟨2, 3⟩) (meth := k2m3) (c := k2c3) (by decide +kernel) rfl rfl rfl (by decide +kernel)
set_option maxRecDepth 65536 in
theorem w_c9 : (Jvm.Cond.code ({ cls := "com/example/dissect/dissect/ReachedRanges", name := "reach", desc := "(I)V" } : Jvm.MethodName) prog_101_method_3_code (10 : Nat) (Option.none : Option Jvm.ClassFile.FieldType)).before args0 about1 = true := code_word (m := ⟨2, 2⟩) (meth := k2m2) (c := k2c2) (by decide +kernel) rfl rfl rfl (by decide +kernel)
def codes1 : List Jvm.Cond := [Jvm.Cond.code x code maxLocals ret, Jvm.Cond.code ({ cls := "com/example/dissect/dissect/ReachedRanges", name := "<init>", desc := "()V" } : Jvm.MethodName) prog_101_method_1_code (1 : Nat) (Option.none : Option Jvm.ClassFile.FieldType), Jvm.Cond.code ({ cls := "java/lang/Object", name := "<init>", desc := "()V" } : Jvm.MethodName) object_method_1_code (1 : Nat) (Option.none : Option Jvm.ClassFile.FieldType), Jvm.Cond.code ({ cls := "com/example/dissect/dissect/ReachedRanges", name := "add", desc := "()V" } : Jvm.MethodName) prog_101_method_2_code (1 : Nat) (Option.none : Option Jvm.ClassFile.FieldType), Jvm.Cond.code ({ cls := "java/lang/Math", name := "max", desc := "(II)I" } : Jvm.MethodName) jdk_29_method_65_code (2 : Nat) (Option.some Jvm.ClassFile.FieldType.int), Jvm.Cond.code ({ cls := "java/util/Arrays", name := "copyOf", desc := "([II)[I" } : Jvm.MethodName) jdk_65_method_123_code (3 : Nat) (Option.some (Jvm.ClassFile.FieldType.array Jvm.ClassFile.FieldType.int)), Jvm.Cond.code ({ cls := "java/lang/Math", name := "min", desc := "(II)I" } : Jvm.MethodName) jdk_29_method_69_code (2 : Nat) (Option.some Jvm.ClassFile.FieldType.int), Jvm.Cond.code ({ cls := "com/example/dissect/dissect/ReachedRanges", name := "append", desc := "(II)V" } : Jvm.MethodName) prog_101_method_6_code (4 : Nat) (Option.none : Option Jvm.ClassFile.FieldType), Jvm.Cond.code ({ cls := "com/example/dissect/dissect/ReachedRanges", name := "mayReach", desc := "(II)Z" } : Jvm.MethodName) prog_101_method_4_code (6 : Nat) (Option.some Jvm.ClassFile.FieldType.boolean), Jvm.Cond.code ({ cls := "com/example/dissect/dissect/ReachedRanges", name := "reach", desc := "(I)V" } : Jvm.MethodName) prog_101_method_3_code (10 : Nat) (Option.none : Option Jvm.ClassFile.FieldType)]
set_option maxRecDepth 65536 in
theorem codes_eq : words1.filter isCode = codes1 := rfl
theorem w_codes : ∀ c ∈ words1.filter isCode, c.before args0 about1 = true := by
  rw [codes_eq]
  intro c hc
  simp only [codes1, List.mem_cons, List.not_mem_nil, or_false] at hc
  rcases hc with rfl | rfl | rfl | rfl | rfl | rfl | rfl | rfl | rfl | rfl
  · exact w_c0
  · exact w_c1
  · exact w_c2
  · exact w_c3
  · exact w_c4
  · exact w_c5
  · exact w_c6
  · exact w_c7
  · exact w_c8
  · exact w_c9
set_option maxRecDepth 65536 in
theorem w_t1 : (words1.take 24).all (fun c => isCode c || c.before args0 about1) = true := by decide +kernel
set_option maxRecDepth 65536 in
theorem w_t2 : ((words1.drop 24).take 24).all (fun c => isCode c || c.before args0 about1) = true := by decide +kernel
set_option maxRecDepth 65536 in
theorem w_t3 : ((words1.drop 24).drop 24).all (fun c => isCode c || c.before args0 about1) = true := by decide +kernel
theorem w_tables : (allAtoms (Jvm.Cond.code x code maxLocals ret :: tables_1)).before args0 about1 = true := by
  rw [allAtoms_all]
  show words1.all (fun c => c.before args0 about1) = true
  refine all_split ?_ w_codes
  rw [← List.take_append_drop 24 words1, List.all_append, w_t1, ← List.take_append_drop 24 (words1.drop 24), List.all_append, w_t2, w_t3]
  rfl
set_option maxRecDepth 65536 in
theorem w_case : (Jvm.Cond.and given_1 narrow_1).before args0 about1 = true := by decide +kernel
theorem w_applies : (headSpec (Jvm.Cond.code x code maxLocals ret :: tables_1) room_1).applies x e0.platform about1 = true :=
  (Spec.applies_iff w_frames).mpr ⟨w_running, w_runnable, w_alone, w_named, w_hears, w_ripe, w_room, w_tables⟩
theorem atStart : AtStart classFile x code maxLocals ret World_1 tables_1 room_1 Calls_1 rest_1 Pre_1 launch0 p0 e0 about1 theMethod args0 below0 :=
  ⟨lists_1, trivial, launch0.admits_env _ _ _, launch0.least_env, fairChoices_fair.cas, fairChoices_fair.clock, w_frames, w_args, w_heap, w_applies, trivial, trivial, w_case⟩
end start1
theorem witness_1 : WitnessClaimed_1 := ⟨start1.p0, start1.e0, start1.about1, start1.theMethod, start1.args0, start1.below0, start1.atStart⟩
end Jvm.Pilot.@@N@@
