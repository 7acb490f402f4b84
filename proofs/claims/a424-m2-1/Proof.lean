import JvmDerived
import JvmDerived.Pilot.@@N@@Statement
import JvmDerived.Pilot.@@N@@Code
set_option linter.unusedVariables false
set_option linter.unusedSimpArgs false
@@BLOCK:HandJ.lean.txt@@
@@BLOCK:SymMore.lean.txt@@
namespace Jvm.Wk
open Sem ClassFile Op Lib Jvm.Stand Jvm.Free Jvm.LawKit Jvm.RoadKit
/-! A small logic of walks: the heap above the law's start is a list of records, a walk is a predicate over (records, pc, locals, stack). -/
abbrev Key := String × String × String
abbrev Rec := (String × List Key × List Value) ⊕ (FieldType × List Value)
abbrev obj (C : String) (ks : List Key) (vs : List Value) : Rec := Sum.inl (C, ks, vs)
abbrev arr (t : FieldType) (vs : List Value) : Rec := Sum.inr (t, vs)
abbrev ints (xs : List Int32) : Rec := arr .int (xs.map Value.int)
abbrev longs (xs : List Int64) : Rec := arr .long (xs.map Value.long)
abbrev rf (hB : Heap) (i : Nat) : Value := .ref (hB.size + i)
def kslot (Z : State) (k : Key) : Nat := Jvm.RoadKit.slotOf Z k.1 k.2.1 k.2.2
def OvrT (Z : State) (cA : ClassId) (t : FieldType) : Prop := (∀ C, t = .object C → Ovr Z cA C) ∧ (∀ ty, t = .array ty → OvrA Z cA ty (FieldType.array ty).toString)
def RecAt (Z : State) (h : Heap) (a : Addr) : Rec → Prop
  | .inl (C, ks, vs) => Exa Z h a C ∧ Unt h a ∧ (∀ (i : Nat) (k : Key) (v : Value), ks[i]? = some k → vs[i]? = some v → Fld Z h a k.1 k.2.1 k.2.2 v) ∧ (∀ (i j : Nat) (k k' : Key), ks[i]? = some k → ks[j]? = some k' → i ≠ j → kslot Z k ≠ kslot Z k')
  | .inr (t, vs) => ∃ c : Cell, Arr Z h a c t ∧ c.slots = vs.toArray ∧ c.vm = .none ∧ Exa Z h a ("[" ++ t.toString) ∧ OvrT Z c.cls t ∧ ∀ v ∈ vs, fits t v = true
def Hp (Z : State) (hB h : Heap) (H : List Rec) : Prop := h.size = hB.size + H.length ∧ (∀ (a : Addr) (c : Cell), hB[a]? = some c → h[a]? = some c) ∧ ∀ (i : Nat) (r : Rec), H[i]? = some r → RecAt Z h (hB.size + i) r
section Heaps
variable {Z : State} {hB h h' : Heap} {H : List Rec} {a b : Addr} {r : Rec} {sl : Nat} {v : Value}
theorem RecAt.ext (E : Ext h h') : ∀ {r : Rec}, RecAt Z h a r → RecAt Z h' a r
  | .inl _, F => ⟨F.1.ext E, F.2.1.ext E, fun i k v h1 h2 => (F.2.2.1 i k v h1 h2).ext E, F.2.2.2⟩
  | .inr _, F => by
    obtain ⟨c, h1, h2, h3, h5, h6⟩ := F
    exact ⟨c, h1.ext E, h2, h3, h5.ext E, h6⟩
theorem RecAt.other (W : Wr h h' b sl v) (hne : a ≠ b) : ∀ {r : Rec}, RecAt Z h a r → RecAt Z h' a r
  | .inl _, F => ⟨F.1.wr W, F.2.1.wr W, fun i k v h1 h2 => (F.2.2.1 i k v h1 h2).other W (Or.inl hne), F.2.2.2⟩
  | .inr _, F => by
    obtain ⟨c, h1, h2, h3, h5, h6⟩ := F
    exact ⟨c, h1.other W hne, h2, h3, h5.wr W, h6⟩
theorem RecAt.lt : ∀ {r : Rec}, RecAt Z h a r → a < h.size
  | .inl _, F => F.1.lt
  | .inr _, F => by obtain ⟨c, h1, -⟩ := F; exact h1.lt
theorem Hp.toExt (P : Hp Z hB h H) : Ext hB h := ⟨by rw [P.1]; exact Nat.le_add_right _ _, P.2.1⟩
theorem Hp.start (Z : State) (hB : Heap) : Hp Z hB hB [] := ⟨rfl, fun _ _ q => q, fun i r q => by cases q⟩
theorem Hp.at (P : Hp Z hB h H) {i : Nat} (q : H[i]? = some r) : RecAt Z h (hB.size + i) r := P.2.2 i r q
theorem Hp.setR (P : Hp Z hB h H) {i : Nat} {r r' : Rec} (q : H[i]? = some r) (W : Wr h h' (hB.size + i) sl v) (F : RecAt Z h' (hB.size + i) r') : Hp Z hB h' (H.set i r') := by
  refine ⟨by rw [W.size, P.1, List.length_set], fun a c ha => ?_, fun j r2 hj => ?_⟩
  · obtain ⟨c', e1, -, -, -, e5, -⟩ := wr_at W (P.2.1 a c ha)
    have : a < hB.size := (Array.getElem?_eq_some_iff.mp ha).1
    rw [e1, e5 fun q => absurd this (by rw [q]; exact Nat.not_lt.mpr (Nat.le_add_right _ _))]
  · rw [List.getElem?_set] at hj
    split at hj
    · rename_i e
      subst e
      split at hj
      · cases hj; exact F
      · cases hj
    · rename_i e
      exact (P.2.2 j r2 hj).other W fun q => e (Nat.add_left_cancel q).symm
theorem Hp.wrO (P : Hp Z hB h H) {i j : Nat} {C : String} {ks : List Key} {vs : List Value} {k : Key} (q : H[i]? = some (obj C ks vs)) (hk : ks[j]? = some k) (hj : j < vs.length) (W : Wr h h' (hB.size + i) (kslot Z k) v) : Hp Z hB h' (H.set i (obj C ks (vs.set j v))) := by
  obtain ⟨f1, f2, f3, f4⟩ := P.at q
  refine P.setR q W ⟨f1.wr W, f2.wr W, fun i' k' v' h1 h2 => ?_, f4⟩
  by_cases e : j = i'
  · subst e
    rw [List.getElem?_set_self hj] at h2
    cases h2
    cases hk.symm.trans h1
    exact (f3 j k vs[j] hk (List.getElem?_eq_getElem hj)).same W
  · rw [List.getElem?_set_ne e] at h2
    exact (f3 i' k' v' h1 h2).other W (Or.inr (f4 i' j k' k h1 hk (Ne.symm e)))
theorem Hp.wrA (P : Hp Z hB h H) {i j : Nat} {t : FieldType} {vs : List Value} (q : H[i]? = some (arr t vs)) (hf : fits t v = true) (W : Wr h h' (hB.size + i) j v) : Hp Z hB h' (H.set i (arr t (vs.set j v))) := by
  obtain ⟨c, h1, h2, h3, h5, h6, h7⟩ := P.at q
  refine P.setR q W ⟨c.setSlot j v, h1.same W, ?_, h3, h5.wr W, h6, fun w hw => ?_⟩
  · show c.slots.setIfInBounds j v = _
    rw [h2]; simp
  · rcases List.mem_or_eq_of_mem_set hw with z | z
    · exact h7 w z
    · rw [z]; exact hf
theorem Hp.push (P : Hp Z hB h H) (E : Ext h h') (hs : h'.size ≤ h.size + 1) (F : RecAt Z h' h.size r) : Hp Z hB h' (H ++ [r]) := by
  have hlt : Array.size h < Array.size h' := F.lt
  refine ⟨by rw [List.length_append, List.length_singleton]; have := P.1; omega, fun a c ha => E.2 _ _ (P.2.1 a c ha), fun i r2 hi => ?_⟩
  rw [List.getElem?_append] at hi
  split at hi
  · exact (P.2.2 i r2 hi).ext E
  · rename_i e
    have hl := P.1
    obtain ⟨h1, h2⟩ := List.getElem?_eq_some_iff.mp hi
    simp only [List.length_singleton] at h1
    have e2 : i = H.length := by omega
    subst e2
    simp only [Nat.sub_self, List.getElem_cons_zero] at h2
    subst h2
    rw [← hl]; exact F
theorem Hp.fld (P : Hp Z hB h H) {i j : Nat} {C O n d : String} {ks : List Key} {vs : List Value} (q : H[i]? = some (obj C ks vs)) (hk : ks[j]? = some (O, n, d)) (hv : vs[j]? = some v) : Fld Z h (hB.size + i) O n d v := (P.at q).2.2.1 j _ v hk hv
theorem Hp.exa (P : Hp Z hB h H) {i : Nat} {C : String} {ks : List Key} {vs : List Value} (q : H[i]? = some (obj C ks vs)) : Exa Z h (hB.size + i) C := (P.at q).1
theorem Hp.exaA (P : Hp Z hB h H) {i : Nat} {t : FieldType} {vs : List Value} {C : String} (q : H[i]? = some (arr t vs)) (hC : "[" ++ t.toString = C) : Exa Z h (hB.size + i) C := by
  obtain ⟨c, -, -, -, h5, -⟩ := P.at q
  exact hC ▸ h5
theorem RecAt.congr (e : h'[a]? = h[a]?) : ∀ {r : Rec}, RecAt Z h a r → RecAt Z h' a r
  | .inl _, F => by
    obtain ⟨⟨c1, k1, f1, f2⟩, ⟨c2, g1, g2⟩, F3, F4⟩ := F
    refine ⟨⟨c1, k1, e.trans f1, f2⟩, ⟨c2, e.trans g1, g2⟩, fun i k v h1 h2 => ?_, F4⟩
    obtain ⟨c, cf, kk, i', f, q, r⟩ := F3 i k v h1 h2
    exact ⟨c, cf, kk, i', f, e.trans q, r⟩
  | .inr _, F => by
    obtain ⟨c, ⟨h1, h1'⟩, h2, h3, ⟨c5, k5, h5, h5'⟩, h6⟩ := F
    exact ⟨c, ⟨e.trans h1, h1'⟩, h2, h3, ⟨c5, k5, e.trans h5, h5'⟩, h6⟩
theorem toNat_len {n : Nat} (h : n < 2 ^ 31) : n.toInt32.toNatClampNeg = n ∧ ¬ n.toInt32 < 0 := by
  refine ⟨by simp only [Int32.toNatClampNeg, len_toInt h]; omega, ?_⟩
  rw [Int32.lt_iff_toInt_lt, len_toInt h]; have : (0 : Int32).toInt = 0 := rfl; omega
theorem Hp.arv (P : Hp Z hB h H) {i : Nat} {t : FieldType} {vs : List Value} (q : H[i]? = some (arr t vs)) (hl : vs.length < 2 ^ 31) (d : Value) : ∃ k, Arv Z h (hB.size + i) k t vs.length.toInt32 vs d := by
  obtain ⟨c, h1, h2, h3, h5, h6, h7⟩ := P.at q
  have hs : c.slots.size = vs.length := by rw [h2, List.size_toArray]
  refine ⟨c.cls, c, h1, rfl, by rw [hs, (toNat_len hl).1], (toNat_len hl).2, fun k hk => ?_, fun k hk => ?_⟩
  · rw [hs] at hk
    rw [h2, List.getElem?_toArray, List.getElem?_eq_getElem hk, List.getD_eq_getElem?_getD, List.getElem?_eq_getElem hk]; rfl
  · rw [hs] at hk
    rw [List.getD_eq_getElem?_getD, List.getElem?_eq_getElem hk]; exact h7 _ (List.getElem_mem hk)
theorem Hp.copied (P : Hp Z hB h H) {i : Nat} {t : FieldType} {vs vs' : List Value} {k : ClassId} {d : Value} (q : H[i]? = some (arr t vs)) (hz : h'.size ≤ h.size) (K : Keep h h' [hB.size + i]) (hl : vs.length < 2 ^ 31) (hlen : vs'.length = vs.length) (A : Arv Z h' (hB.size + i) k t vs.length.toInt32 vs' d) : Hp Z hB h' (H.set i (arr t vs')) := by
  refine ⟨by rw [List.length_set, ← P.1]; exact Nat.le_antisymm hz K.1, fun a c ha => ?_, fun j r2 hj => ?_⟩
  · have : a < hB.size := (Array.getElem?_eq_some_iff.mp ha).1
    exact K.2.1 a c (P.2.1 a c ha) (by simp only [List.mem_singleton]; intro e; rw [e] at this; exact absurd this (Nat.not_lt.mpr (Nat.le_add_right _ _)))
  · by_cases e : i = j
    · subst e
      have hi := (List.getElem?_eq_some_iff.mp q).1
      rw [List.getElem?_set_self hi] at hj
      cases hj
      obtain ⟨c, h1, h2, h3, h5, h6, h7⟩ := P.at q
      obtain ⟨c', a1, a2, a3, a4, a5, a6⟩ := A
      obtain ⟨c2, b1, b2, b3, b4⟩ := K.2.2 _ c h1.1
      cases a1.1.symm.trans b1
      have hs : c'.slots.size = vs'.length := by rw [a3, (toNat_len hl).1, hlen]
      refine ⟨c', a1, ?_, b3.trans h3, h5.keep K, b2 ▸ h6, fun v hv => ?_⟩
      · apply Array.ext_getElem?
        intro n
        by_cases hn : n < c'.slots.size
        · rw [a5 n hn, List.getElem?_toArray, List.getD_eq_getElem?_getD, List.getElem?_eq_getElem (hs ▸ hn)]; rfl
        · rw [Array.getElem?_eq_none (Nat.le_of_not_lt hn), List.getElem?_toArray, List.getElem?_eq_none (by omega)]
      · obtain ⟨n, hn, rfl⟩ := List.getElem_of_mem hv
        have := a6 n (by omega)
        rw [List.getD_eq_getElem?_getD, List.getElem?_eq_getElem hn] at this; exact this
    · rw [List.getElem?_set_ne e] at hj
      have R := P.2.2 j r2 hj
      refine R.congr ?_
      obtain ⟨cj, hcj⟩ : ∃ c, h[hB.size + j]? = some c := ⟨_, Array.getElem?_eq_getElem R.lt⟩
      rw [hcj]; exact K.2.1 _ _ hcj (by simp only [List.mem_singleton]; intro q; exact e (Nat.add_left_cancel q).symm)
end Heaps
/-- what an array's place holds; an array with one place set -/
def gI (l : List Int32) (i : Int32) : Option Int32 := if i < 0 then none else l[i.toNatClampNeg]?
def sI (l : List Int32) (i x : Int32) : Option (List Int32) := if i < 0 then none else if i.toNatClampNeg < l.length then some (l.set i.toNatClampNeg x) else none
theorem gI_at {l : List Int32} {i x : Int32} (h : gI l i = some x) : ¬ i < 0 ∧ l[i.toNatClampNeg]? = some x := by
  unfold gI at h; split at h
  · cases h
  · rename_i q; exact ⟨q, h⟩
theorem sI_at {l l' : List Int32} {i x : Int32} (h : sI l i x = some l') : ¬ i < 0 ∧ i.toNatClampNeg < l.length ∧ l' = l.set i.toNatClampNeg x := by
  unfold sI at h; split at h
  · cases h
  · rename_i q; split at h
    · rename_i r; cases h; exact ⟨q, r, rfl⟩
    · cases h
def sJ (l : List Int64) (i : Int32) (x : Int64) : Option (List Int64) := if i < 0 then none else if i.toNatClampNeg < l.length then some (l.set i.toNatClampNeg x) else none
theorem sJ_at {l l' : List Int64} {i : Int32} {x : Int64} (h : sJ l i x = some l') : ¬ i < 0 ∧ i.toNatClampNeg < l.length ∧ l' = l.set i.toNatClampNeg x := by
  unfold sJ at h; split at h
  · cases h
  · rename_i q; split at h
    · rename_i r; cases h; exact ⟨q, r, rfl⟩
    · cases h
/-- one of several rows -/
def gR (l : List (List Int32)) (i : Int32) : Option (List Int32) := if i < 0 then none else l[i.toNatClampNeg]?
theorem gR_at {l : List (List Int32)} {i : Int32} {x : List Int32} (h : gR l i = some x) : ¬ i < 0 ∧ l[i.toNatClampNeg]? = some x := by
  unfold gR at h; split at h
  · cases h
  · rename_i q; exact ⟨q, h⟩
/-! lists of records in parts: F, G, then M -/
theorem getT {F G M : List Rec} {k : Nat} {r : Rec} (h : M[k]? = some r) : (F ++ (G ++ M))[F.length + G.length + k]? = some r := by
  rw [List.getElem?_append_right (by omega), List.getElem?_append_right (by omega)]
  rw [show F.length + G.length + k - F.length - G.length = k from by omega]; exact h
theorem setT {F G M : List Rec} {k : Nat} {r : Rec} : (F ++ (G ++ M)).set (F.length + G.length + k) r = F ++ (G ++ M.set k r) := by
  rw [List.set_append_right _ _ (by omega), List.set_append_right _ _ (by omega)]
  rw [show F.length + G.length + k - F.length - G.length = k from by omega]
theorem pushT {F G M : List Rec} {r : Rec} : F ++ (G ++ M) ++ [r] = F ++ (G ++ (M ++ [r])) := by simp [List.append_assoc]
theorem lenT {F G M : List Rec} : (F ++ (G ++ M)).length = F.length + G.length + M.length := by simp [Nat.add_assoc]
theorem getE {M K : List Rec} {e : Rec} {n : Nat} (h : M.length = n) : (M ++ (K ++ [e]))[K.length + n]? = some e := by
  subst h; rw [List.getElem?_append_right (by omega), show K.length + M.length - M.length = K.length from by omega]; simp
theorem setTE {F G M K : List Rec} {e r : Rec} {n : Nat} (h : M.length = n) : (F ++ (G ++ (M ++ (K ++ [e])))).set (F.length + G.length + (K.length + n)) r = F ++ (G ++ (M ++ (K ++ [r]))) := by
  subst h
  rw [setT, List.set_append_right _ _ (by omega), show K.length + M.length - M.length = K.length from by omega]; simp
theorem pushTK {F G M K : List Rec} {r : Rec} : F ++ (G ++ (M ++ K)) ++ [r] = F ++ (G ++ (M ++ (K ++ [r]))) := by simp [List.append_assoc]
theorem setSelf {H : List Rec} {i : Nat} {r : Rec} (h : H[i]? = some r) : H.set i r = H := by
  obtain ⟨h1, h2⟩ := List.getElem?_eq_some_iff.mp h
  rw [← h2]; exact List.set_getElem_self h1
section Walk
/-- the walk comes to its return -/
def Done (Z : State) (hB : Heap) (R : Room) (Q : Option Value → List Rec → Prop) (p : Program) (e : Env) (s : State) (below : List Frame) (S0 : State) : Prop :=
  ∃ U o, Steps p.tables e below S0 U ∧ U.status = .running ∧ Ended U below o ∧ ∃ v L H', o = .returned v ∧ Q v H' ∧ Hp Z hB U.heap H' ∧ Fr hB.size L ∧ FrameEnd s o U L R.cells R.slots
def Cx (Z : State) (hB : Heap) (y : MethodName) (bytes : ByteArray) (ml : Nat) (ret : Option FieldType) (n1 : Nat) (p : Program) (s : State) (m : MethodId) (meth : Method) (c : Code) : Prop :=
  p.tables.exec = Jvm.exec ∧ Z.Warmed39 s.vm ∧ c.code = bytes ∧ c.maxLocals = ml ∧ s.vm.findClass y.cls = some m.cls ∧ meth.name = y.name ∧ meth.sig.returnType = ret ∧ meth.locks = false ∧ s.heap.size = hB.size + n1
def WP (l : Launch) (Z : State) (hB : Heap) (y : MethodName) (bytes : ByteArray) (ml : Nat) (ret : Option FieldType) (R : Room) (n1 : Nat) (Q : Option Value → List Rec → Prop) (sl : Nat) (H : List Rec) (pc : Nat) (Ls : Array Slot) (st : List Value) : Prop :=
  ∀ p e s m args below meth c, Cx Z hB y bytes ml ret n1 p s m meth c → ∀ T locs cells slots, Stand p l e R s m args below meth c T locs cells slots → Fr hB.size locs → Hp Z hB T.heap H → slots ≤ sl →
    Done Z hB R Q p e s below (T.setTop (mkF m pc Ls st))
/-- a method's contract at given arguments and records -/
def Ctr (l : Launch) (Z : State) (hB : Heap) (y : MethodName) (bytes : ByteArray) (ml : Nat) (ret : Option FieldType) (ws : List Jvm.Cond) (rm : Room) (as' : Array Value) (H : List Rec) (Q : Option Value → List Rec → Prop) : Prop :=
  MetFree l y (head1 (Jvm.Cond.code y bytes ml ret :: ws) rm) (fun a U => a = as' ∧ Z.Warmed39 U.vm ∧ Hp Z hB U.heap H) (fun _ _ _ _ _ => True)
    (fun _ U o U' => ∃ v L H', o = .returned v ∧ Q v H' ∧ Hp Z hB U'.heap H' ∧ Fr hB.size L ∧ FrameEnd U o U' L rm.cells rm.slots)
variable {l : Launch} {Z : State} {hB : Heap} {y : MethodName} {bytes : ByteArray} {ml : Nat} {ret : Option FieldType} {R : Room} {n1 : Nat} {Q : Option Value → List Rec → Prop} {sl : Nat} {H H' : List Rec} {pc pc' : Nat} {Ls Ls' : Array Slot} {st st' rest : List Value} {a0 : Array Value}
theorem exact' {p : Program} {l : Launch} {e : Env} {R : Room} {s : State} {m : MethodId} {args : Array Value} {below : List Frame} {meth : Method} {c : Code} {T : State} {locs : List Loc} {cells slots : Nat} (X : Stand p l e R s m args below meth c T locs cells slots) {k : Nat} (hk : T.heap.size ≤ s.heap.size + k) : Stand p l e R s m args below meth c T locs k slots :=
  { X with same := ⟨X.same.1, X.same.2.1, hk, X.same.2.2.2⟩ }
theorem ctr {ws : List Jvm.Cond} {as' : Array Value} (hpn : plainFor y = true) (ef : ∀ m, entryFrame m as' ml = mkF m 0 Ls []) (h : WP l Z hB y bytes ml ret R H.length Q 0 H 0 Ls []) : Ctr l Z hB y bytes ml ret ws R as' H Q := by
  refine MetFree.of_bodySF hpn hisR ?_
  intro p e s m args below meth c s₁ Bd hml0 hP hK
  obtain ⟨rfl, hZ, hh⟩ := hP
  have X0 := Stand.of_body Bd
  have e0 : s₁.heap = s.heap := by rw [Bd.state]; rfl
  obtain ⟨U, o, st, h1, h2, v, L, H', ho, hq, hp, hf, hfe⟩ := h p e s m _ below meth c ⟨Bd.exec, hZ, Bd.bytes, hml0, findClass_of_methodNamed Bd.named, (name_of_methodNamed Bd.named Bd.method).1, Bd.returns, Bd.notSynchronized, hh.1⟩ s₁ [] 0 0 X0 (Fr.nil _) (by rw [e0]; exact hh) (Nat.zero_le _)
  exact ⟨U, o, castTop (ef m) st, h1, h2, v, L, H', ho, hq, hp, hf, hfe⟩
/-- a step that leaves the state as it is, but for the frame -/
theorem WP.step (k : ∀ (p : Program) (e : Env) (s : State) (m : MethodId) (args : Array Value) (below : List Frame) (meth : Method) (c : Code) (T : State) (locs : List Loc) (cells slots : Nat), Cx Z hB y bytes ml ret n1 p s m meth c → Stand p l e R s m args below meth c T locs cells slots → Hp Z hB T.heap H → ∀ target, Steps p.tables e below (T.setTop (mkF m pc' Ls' st')) target → Steps p.tables e below (T.setTop (mkF m pc Ls st)) target)
    (hr : WP l Z hB y bytes ml ret R n1 Q sl H pc' Ls' st') : WP l Z hB y bytes ml ret R n1 Q sl H pc Ls st := by
  intro p e s m args below meth c C T locs cells slots X N P hs
  obtain ⟨U, o, h1, h2⟩ := hr p e s m args below meth c C T locs cells slots X N P hs
  exact ⟨U, o, k p e s m args below meth c T locs cells slots C X P U h1, h2⟩
/-- a step that warms the tables -/
theorem WP.stepT (k : ∀ (p : Program) (e : Env) (s : State) (m : MethodId) (args : Array Value) (below : List Frame) (meth : Method) (c : Code) (T : State) (locs : List Loc) (cells slots : Nat), Cx Z hB y bytes ml ret n1 p s m meth c → Stand p l e R s m args below meth c T locs cells slots → Hp Z hB T.heap H → ∃ T', Stand p l e R s m args below meth c T' locs cells slots ∧ T'.heap = T.heap ∧ ∀ target, Steps p.tables e below (T'.setTop (mkF m pc' Ls' st')) target → Steps p.tables e below (T.setTop (mkF m pc Ls st)) target)
    (hr : WP l Z hB y bytes ml ret R n1 Q sl H pc' Ls' st') : WP l Z hB y bytes ml ret R n1 Q sl H pc Ls st := by
  intro p e s m args below meth c C T locs cells slots X N P hs
  obtain ⟨T', X', e', k'⟩ := k p e s m args below meth c T locs cells slots C X P
  obtain ⟨U, o, h1, h2⟩ := hr p e s m args below meth c C T' locs cells slots X' N (by rw [e']; exact P) hs
  exact ⟨U, o, k' U h1, h2⟩
/-- a step that moves the heap -/
theorem WP.stepH {sl' : Nat} (k : ∀ (p : Program) (e : Env) (s : State) (m : MethodId) (args : Array Value) (below : List Frame) (meth : Method) (c : Code) (T : State) (locs : List Loc) (cells slots : Nat), Cx Z hB y bytes ml ret n1 p s m meth c → Stand p l e R s m args below meth c T locs cells slots → T.heap.size = s.heap.size + cells → Fr hB.size locs → Hp Z hB T.heap H → slots ≤ sl →
      ∃ T' locs' cells' slots', Stand p l e R s m args below meth c T' locs' cells' slots' ∧ Fr hB.size locs' ∧ Hp Z hB T'.heap H' ∧ slots' ≤ sl' ∧ ∀ target, Steps p.tables e below (T'.setTop (mkF m pc' Ls' st')) target → Steps p.tables e below (T.setTop (mkF m pc Ls st)) target)
    (hr : WP l Z hB y bytes ml ret R n1 Q sl' H' pc' Ls' st') : WP l Z hB y bytes ml ret R n1 Q sl H pc Ls st := by
  intro p e s m args below meth c C T locs cells slots X N P hs
  have hz : T.heap.size = s.heap.size + (T.heap.size - s.heap.size) := by have := X.same.2.1; have : s.heap.size ≤ T.heap.size := this; omega
  obtain ⟨T', locs', cells', slots', X', N', P', hs', k'⟩ := k p e s m args below meth c T locs _ slots C (exact' X (Nat.le_of_eq hz)) hz N P hs
  obtain ⟨U, o, h1, h2⟩ := hr p e s m args below meth c C T' locs' cells' slots' X' N' P' hs'
  exact ⟨U, o, k' U h1, h2⟩
theorem WP.heap (e : H = H') (h : WP l Z hB y bytes ml ret R n1 Q sl H' pc Ls st) : WP l Z hB y bytes ml ret R n1 Q sl H pc Ls st := e ▸ h
theorem WP.monoQ {Q' : Option Value → List Rec → Prop} (hq : ∀ v H, Q v H → Q' v H) (h : WP l Z hB y bytes ml ret R n1 Q sl H pc Ls st) : WP l Z hB y bytes ml ret R n1 Q' sl H pc Ls st := by
  intro p e s m args below meth c C T locs cells slots X N P hs
  obtain ⟨U, o, h1, h2, h3, v, L, H', h4, h5, h6⟩ := h p e s m args below meth c C T locs cells slots X N P hs
  exact ⟨U, o, h1, h2, h3, v, L, H', h4, hq _ _ h5, h6⟩
theorem WP.mono {sl' : Nat} (hs : sl ≤ sl') (h : WP l Z hB y bytes ml ret R n1 Q sl' H pc Ls st) : WP l Z hB y bytes ml ret R n1 Q sl H pc Ls st := by
  intro p e s m args below meth c C T locs cells slots X N P hs'
  exact h p e s m args below meth c C T locs cells slots X N P (Nat.le_trans hs' hs)
theorem aloadN {k : Fin 4} {v : Value} (hd : decode bytes pc = .ok (.aload_n k, 1)) (hl : Ls[k.val]? = some (.val v)) (hv : v.isRef = true) (hp : pc + 1 = pc') (hr : WP l Z hB y bytes ml ret R n1 Q sl H pc' Ls (v :: st)) : WP l Z hB y bytes ml ret R n1 Q sl H pc Ls (st) := by
  subst hp
  exact WP.step (fun p e s m args below meth c T locs cells slots C X _ tgt h => XS.aloadN X.here C.1 rfl (hb C.2.2.1 hd) hl hv h) hr
theorem aload {k : Nat} {v : Value} (hd : decode bytes pc = .ok (.aload k, 2)) (hl : Ls[k]? = some (.val v)) (hv : v.isRef = true) (hp : pc + 2 = pc') (hr : WP l Z hB y bytes ml ret R n1 Q sl H pc' Ls (v :: st)) : WP l Z hB y bytes ml ret R n1 Q sl H pc Ls (st) := by
  subst hp
  exact WP.step (fun p e s m args below meth c T locs cells slots C X _ tgt h => XS.aload X.here C.1 rfl (hb C.2.2.1 hd) hl hv h) hr
theorem iloadN {k : Fin 4} {x : Int32} (hd : decode bytes pc = .ok (.iload_n k, 1)) (hl : Ls[k.val]? = some (.val (.int x))) (hp : pc + 1 = pc') (hr : WP l Z hB y bytes ml ret R n1 Q sl H pc' Ls (.int x :: st)) : WP l Z hB y bytes ml ret R n1 Q sl H pc Ls (st) := by
  subst hp
  exact WP.step (fun p e s m args below meth c T locs cells slots C X _ tgt h => XS.iloadN X.here C.1 rfl (hb C.2.2.1 hd) hl h) hr
theorem iload {k : Nat} {x : Int32} (hd : decode bytes pc = .ok (.iload k, 2)) (hl : Ls[k]? = some (.val (.int x))) (hp : pc + 2 = pc') (hr : WP l Z hB y bytes ml ret R n1 Q sl H pc' Ls (.int x :: st)) : WP l Z hB y bytes ml ret R n1 Q sl H pc Ls (st) := by
  subst hp
  exact WP.step (fun p e s m args below meth c T locs cells slots C X _ tgt h => XS.iload X.here C.1 rfl (hb C.2.2.1 hd) hl h) hr
theorem lloadN {k : Fin 4} {x : Int64} (hd : decode bytes pc = .ok (.lload_n k, 1)) (hl : Ls[k.val]? = some (.val (.long x))) (hp : pc + 1 = pc') (hr : WP l Z hB y bytes ml ret R n1 Q sl H pc' Ls (.long x :: st)) : WP l Z hB y bytes ml ret R n1 Q sl H pc Ls (st) := by
  subst hp
  exact WP.step (fun p e s m args below meth c T locs cells slots C X _ tgt h => XT.lloadN X.here C.1 rfl (hb C.2.2.1 hd) hl h) hr
theorem lload {k : Nat} {x : Int64} (hd : decode bytes pc = .ok (.lload k, 2)) (hl : Ls[k]? = some (.val (.long x))) (hp : pc + 2 = pc') (hr : WP l Z hB y bytes ml ret R n1 Q sl H pc' Ls (.long x :: st)) : WP l Z hB y bytes ml ret R n1 Q sl H pc Ls (st) := by
  subst hp
  exact WP.step (fun p e s m args below meth c T locs cells slots C X _ tgt h => XT.lload X.here C.1 rfl (hb C.2.2.1 hd) hl h) hr
theorem iconst {i : Int} (x : Int32) (hd : decode bytes pc = .ok (.iconst i, 1)) (hv : Int32.ofInt i = x) (hp : pc + 1 = pc') (hr : WP l Z hB y bytes ml ret R n1 Q sl H pc' Ls (.int x :: st)) : WP l Z hB y bytes ml ret R n1 Q sl H pc Ls (st) := by
  subst hp
  exact WP.step (fun p e s m args below meth c T locs cells slots C X _ tgt h => XS.iconst X.here C.1 rfl (hb C.2.2.1 hd) (hv ▸ h)) hr
theorem bipush {i : Int} (x : Int32) (hd : decode bytes pc = .ok (.bipush i, 2)) (hv : (Int8.ofInt i).toInt32 = x) (hp : pc + 2 = pc') (hr : WP l Z hB y bytes ml ret R n1 Q sl H pc' Ls (.int x :: st)) : WP l Z hB y bytes ml ret R n1 Q sl H pc Ls (st) := by
  subst hp
  exact WP.step (fun p e s m args below meth c T locs cells slots C X _ tgt h => XS.bipush X.here C.1 rfl (hb C.2.2.1 hd) (hv ▸ h)) hr
theorem sipush {i : Int} (x : Int32) (hd : decode bytes pc = .ok (.sipush i, 3)) (hv : (Int16.ofInt i).toInt32 = x) (hp : pc + 3 = pc') (hr : WP l Z hB y bytes ml ret R n1 Q sl H pc' Ls (.int x :: st)) : WP l Z hB y bytes ml ret R n1 Q sl H pc Ls (st) := by
  subst hp
  exact WP.step (fun p e s m args below meth c T locs cells slots C X _ tgt h => XT.sipushV X.here C.1 rfl x (hb C.2.2.1 hd) hv h) hr
theorem lconst {k : Fin 2} (x : Int64) (hd : decode bytes pc = .ok (.lconst k, 1)) (hv : Int64.ofNat k = x) (hp : pc + 1 = pc') (hr : WP l Z hB y bytes ml ret R n1 Q sl H pc' Ls (.long x :: st)) : WP l Z hB y bytes ml ret R n1 Q sl H pc Ls (st) := by
  subst hp
  exact WP.step (fun p e s m args below meth c T locs cells slots C X _ tgt h => XT.lconst X.here C.1 rfl (hb C.2.2.1 hd) (hv ▸ h)) hr
theorem aconstNull  (hd : decode bytes pc = .ok (.aconst_null, 1)) (hp : pc + 1 = pc') (hr : WP l Z hB y bytes ml ret R n1 Q sl H pc' Ls (.null :: st)) : WP l Z hB y bytes ml ret R n1 Q sl H pc Ls (st) := by
  subst hp
  exact WP.step (fun p e s m args below meth c T locs cells slots C X _ tgt h => XS.aconstNull X.here C.1 rfl (hb C.2.2.1 hd) h) hr
theorem iadd {x z : Int32} (hd : decode bytes pc = .ok (.iadd, 1)) (hp : pc + 1 = pc') (hr : WP l Z hB y bytes ml ret R n1 Q sl H pc' Ls (.int (x + z) :: st)) : WP l Z hB y bytes ml ret R n1 Q sl H pc Ls (.int z :: .int x :: st) := by
  subst hp
  exact WP.step (fun p e s m args below meth c T locs cells slots C X _ tgt h => XS.iadd X.here C.1 rfl (hb C.2.2.1 hd) rfl h) hr
theorem isub {x z : Int32} (hd : decode bytes pc = .ok (.isub, 1)) (hp : pc + 1 = pc') (hr : WP l Z hB y bytes ml ret R n1 Q sl H pc' Ls (.int (x - z) :: st)) : WP l Z hB y bytes ml ret R n1 Q sl H pc Ls (.int z :: .int x :: st) := by
  subst hp
  exact WP.step (fun p e s m args below meth c T locs cells slots C X _ tgt h => XS.isub X.here C.1 rfl (hb C.2.2.1 hd) rfl h) hr
theorem iand {x z : Int32} (hd : decode bytes pc = .ok (.iand, 1)) (hp : pc + 1 = pc') (hr : WP l Z hB y bytes ml ret R n1 Q sl H pc' Ls (.int (x &&& z) :: st)) : WP l Z hB y bytes ml ret R n1 Q sl H pc Ls (.int z :: .int x :: st) := by
  subst hp
  exact WP.step (fun p e s m args below meth c T locs cells slots C X _ tgt h => XS.iand X.here C.1 rfl (hb C.2.2.1 hd) rfl h) hr
theorem imul {x z : Int32} (hd : decode bytes pc = .ok (.imul, 1)) (hp : pc + 1 = pc') (hr : WP l Z hB y bytes ml ret R n1 Q sl H pc' Ls (.int (x * z) :: st)) : WP l Z hB y bytes ml ret R n1 Q sl H pc Ls (.int z :: .int x :: st) := by
  subst hp
  exact WP.step (fun p e s m args below meth c T locs cells slots C X _ tgt h => XS.imul X.here C.1 rfl (hb C.2.2.1 hd) rfl h) hr
theorem ixor {x z : Int32} (hd : decode bytes pc = .ok (.ixor, 1)) (hp : pc + 1 = pc') (hr : WP l Z hB y bytes ml ret R n1 Q sl H pc' Ls (.int (x ^^^ z) :: st)) : WP l Z hB y bytes ml ret R n1 Q sl H pc Ls (.int z :: .int x :: st) := by
  subst hp
  exact WP.step (fun p e s m args below meth c T locs cells slots C X _ tgt h => XT.ixor X.here C.1 rfl (hb C.2.2.1 hd) rfl h) hr
theorem ior {x z : Int32} (hd : decode bytes pc = .ok (.ior, 1)) (hp : pc + 1 = pc') (hr : WP l Z hB y bytes ml ret R n1 Q sl H pc' Ls (.int (x ||| z) :: st)) : WP l Z hB y bytes ml ret R n1 Q sl H pc Ls (.int z :: .int x :: st) := by
  subst hp
  exact WP.step (fun p e s m args below meth c T locs cells slots C X _ tgt h => XT.ior X.here C.1 rfl (hb C.2.2.1 hd) rfl h) hr
theorem ishl {x z : Int32} (hd : decode bytes pc = .ok (.ishl, 1)) (hp : pc + 1 = pc') (hr : WP l Z hB y bytes ml ret R n1 Q sl H pc' Ls (.int (x <<< (z &&& 31)) :: st)) : WP l Z hB y bytes ml ret R n1 Q sl H pc Ls (.int z :: .int x :: st) := by
  subst hp
  exact WP.step (fun p e s m args below meth c T locs cells slots C X _ tgt h => XT.ishl X.here C.1 rfl (hb C.2.2.1 hd) rfl h) hr
theorem ishr {x z : Int32} (hd : decode bytes pc = .ok (.ishr, 1)) (hp : pc + 1 = pc') (hr : WP l Z hB y bytes ml ret R n1 Q sl H pc' Ls (.int (x >>> (z &&& 31)) :: st)) : WP l Z hB y bytes ml ret R n1 Q sl H pc Ls (.int z :: .int x :: st) := by
  subst hp
  exact WP.step (fun p e s m args below meth c T locs cells slots C X _ tgt h => XT.ishr X.here C.1 rfl (hb C.2.2.1 hd) rfl h) hr
theorem iushr {x z : Int32} (hd : decode bytes pc = .ok (.iushr, 1)) (hp : pc + 1 = pc') (hr : WP l Z hB y bytes ml ret R n1 Q sl H pc' Ls (.int (XT.ushr x z) :: st)) : WP l Z hB y bytes ml ret R n1 Q sl H pc Ls (.int z :: .int x :: st) := by
  subst hp
  exact WP.step (fun p e s m args below meth c T locs cells slots C X _ tgt h => XT.iushr X.here C.1 rfl (hb C.2.2.1 hd) rfl h) hr
theorem ladd {x z : Int64} (hd : decode bytes pc = .ok (.ladd, 1)) (hp : pc + 1 = pc') (hr : WP l Z hB y bytes ml ret R n1 Q sl H pc' Ls (.long (x + z) :: st)) : WP l Z hB y bytes ml ret R n1 Q sl H pc Ls (.long z :: .long x :: st) := by
  subst hp
  exact WP.step (fun p e s m args below meth c T locs cells slots C X _ tgt h => XT.ladd X.here C.1 rfl (hb C.2.2.1 hd) rfl h) hr
theorem lsub {x z : Int64} (hd : decode bytes pc = .ok (.lsub, 1)) (hp : pc + 1 = pc') (hr : WP l Z hB y bytes ml ret R n1 Q sl H pc' Ls (.long (x - z) :: st)) : WP l Z hB y bytes ml ret R n1 Q sl H pc Ls (.long z :: .long x :: st) := by
  subst hp
  exact WP.step (fun p e s m args below meth c T locs cells slots C X _ tgt h => XT.lsub X.here C.1 rfl (hb C.2.2.1 hd) rfl h) hr
theorem land {x z : Int64} (hd : decode bytes pc = .ok (.land, 1)) (hp : pc + 1 = pc') (hr : WP l Z hB y bytes ml ret R n1 Q sl H pc' Ls (.long (x &&& z) :: st)) : WP l Z hB y bytes ml ret R n1 Q sl H pc Ls (.long z :: .long x :: st) := by
  subst hp
  exact WP.step (fun p e s m args below meth c T locs cells slots C X _ tgt h => XT.land X.here C.1 rfl (hb C.2.2.1 hd) rfl h) hr
theorem lmul {x z : Int64} (hd : decode bytes pc = .ok (.lmul, 1)) (hp : pc + 1 = pc') (hr : WP l Z hB y bytes ml ret R n1 Q sl H pc' Ls (.long (x * z) :: st)) : WP l Z hB y bytes ml ret R n1 Q sl H pc Ls (.long z :: .long x :: st) := by
  subst hp
  exact WP.step (fun p e s m args below meth c T locs cells slots C X _ tgt h => XT.lmul X.here C.1 rfl (hb C.2.2.1 hd) rfl h) hr
theorem lushr {x : Int64} {z : Int32} (hd : decode bytes pc = .ok (.lushr, 1)) (hp : pc + 1 = pc') (hr : WP l Z hB y bytes ml ret R n1 Q sl H pc' Ls (.long (XT.ushrL x z) :: st)) : WP l Z hB y bytes ml ret R n1 Q sl H pc Ls (.int z :: .long x :: st) := by
  subst hp
  exact WP.step (fun p e s m args below meth c T locs cells slots C X _ tgt h => XT.lushr X.here C.1 rfl (hb C.2.2.1 hd) rfl h) hr
theorem lcmp {x z : Int64} (hd : decode bytes pc = .ok (.lcmp, 1)) (hp : pc + 1 = pc') (hr : WP l Z hB y bytes ml ret R n1 Q sl H pc' Ls (.int (XT.cmpL x z) :: st)) : WP l Z hB y bytes ml ret R n1 Q sl H pc Ls (.long z :: .long x :: st) := by
  subst hp
  exact WP.step (fun p e s m args below meth c T locs cells slots C X _ tgt h => XT.lcmp X.here C.1 rfl (hb C.2.2.1 hd) rfl h) hr
theorem idiv {x z : Int32} (hd : decode bytes pc = .ok (.idiv, 1)) (hz : z ≠ 0) (hp : pc + 1 = pc') (hr : WP l Z hB y bytes ml ret R n1 Q sl H pc' Ls (.int (x / z) :: st)) : WP l Z hB y bytes ml ret R n1 Q sl H pc Ls (.int z :: .int x :: st) := by
  subst hp
  exact WP.step (fun p e s m args below meth c T locs cells slots C X _ tgt h => XS.idiv X.here C.1 rfl (hb C.2.2.1 hd) rfl hz h) hr
theorem irem {x z : Int32} (hd : decode bytes pc = .ok (.irem, 1)) (hz : z ≠ 0) (hp : pc + 1 = pc') (hr : WP l Z hB y bytes ml ret R n1 Q sl H pc' Ls (.int (x % z) :: st)) : WP l Z hB y bytes ml ret R n1 Q sl H pc Ls (.int z :: .int x :: st) := by
  subst hp
  exact WP.step (fun p e s m args below meth c T locs cells slots C X _ tgt h => iremM X C.1 rfl (hb C.2.2.1 hd) rfl hz h) hr
theorem ineg {x : Int32} (hd : decode bytes pc = .ok (.ineg, 1)) (hp : pc + 1 = pc') (hr : WP l Z hB y bytes ml ret R n1 Q sl H pc' Ls (.int (-x) :: st)) : WP l Z hB y bytes ml ret R n1 Q sl H pc Ls (.int x :: st) := by
  subst hp
  exact WP.step (fun p e s m args below meth c T locs cells slots C X _ tgt h => XS.ineg X.here C.1 rfl (hb C.2.2.1 hd) rfl h) hr
theorem lneg {x : Int64} (hd : decode bytes pc = .ok (.lneg, 1)) (hp : pc + 1 = pc') (hr : WP l Z hB y bytes ml ret R n1 Q sl H pc' Ls (.long (-x) :: st)) : WP l Z hB y bytes ml ret R n1 Q sl H pc Ls (.long x :: st) := by
  subst hp
  exact WP.step (fun p e s m args below meth c T locs cells slots C X _ tgt h => XT.lneg X.here C.1 rfl (hb C.2.2.1 hd) rfl h) hr
theorem i2l {x : Int32} (hd : decode bytes pc = .ok (.i2l, 1)) (hp : pc + 1 = pc') (hr : WP l Z hB y bytes ml ret R n1 Q sl H pc' Ls (.long x.toInt64 :: st)) : WP l Z hB y bytes ml ret R n1 Q sl H pc Ls (.int x :: st) := by
  subst hp
  exact WP.step (fun p e s m args below meth c T locs cells slots C X _ tgt h => XT.i2l X.here C.1 rfl (hb C.2.2.1 hd) rfl h) hr
theorem l2i {x : Int64} (hd : decode bytes pc = .ok (.l2i, 1)) (hp : pc + 1 = pc') (hr : WP l Z hB y bytes ml ret R n1 Q sl H pc' Ls (.int x.toInt32 :: st)) : WP l Z hB y bytes ml ret R n1 Q sl H pc Ls (.long x :: st) := by
  subst hp
  exact WP.step (fun p e s m args below meth c T locs cells slots C X _ tgt h => XT.l2i X.here C.1 rfl (hb C.2.2.1 hd) rfl h) hr
theorem i2c {x : Int32} (hd : decode bytes pc = .ok (.i2c, 1)) (hp : pc + 1 = pc') (hr : WP l Z hB y bytes ml ret R n1 Q sl H pc' Ls (.int x.toUInt32.toUInt16.toUInt32.toInt32 :: st)) : WP l Z hB y bytes ml ret R n1 Q sl H pc Ls (.int x :: st) := by
  subst hp
  exact WP.step (fun p e s m args below meth c T locs cells slots C X _ tgt h => XT.i2c X.here C.1 rfl (hb C.2.2.1 hd) rfl h) hr
theorem i2b {x : Int32} (hd : decode bytes pc = .ok (.i2b, 1)) (hp : pc + 1 = pc') (hr : WP l Z hB y bytes ml ret R n1 Q sl H pc' Ls (.int x.toInt8.toInt32 :: st)) : WP l Z hB y bytes ml ret R n1 Q sl H pc Ls (.int x :: st) := by
  subst hp
  exact WP.step (fun p e s m args below meth c T locs cells slots C X _ tgt h => XT.i2b X.here C.1 rfl (hb C.2.2.1 hd) rfl h) hr
theorem dup {v : Value} (hd : decode bytes pc = .ok (.dup, 1)) (hc : v.category = 1) (hp : pc + 1 = pc') (hr : WP l Z hB y bytes ml ret R n1 Q sl H pc' Ls (v :: v :: st)) : WP l Z hB y bytes ml ret R n1 Q sl H pc Ls (v :: st) := by
  subst hp
  exact WP.step (fun p e s m args below meth c T locs cells slots C X _ tgt h => XS.dup X.here C.1 rfl (hb C.2.2.1 hd) rfl hc h) hr
theorem dupX1 {v w : Value} (hd : decode bytes pc = .ok (.dup_x1, 1)) (hc : v.category = 1) (hc2 : w.category = 1) (hp : pc + 1 = pc') (hr : WP l Z hB y bytes ml ret R n1 Q sl H pc' Ls (v :: w :: v :: st)) : WP l Z hB y bytes ml ret R n1 Q sl H pc Ls (v :: w :: st) := by
  subst hp
  exact WP.step (fun p e s m args below meth c T locs cells slots C X _ tgt h => XT.dupX1 X.here C.1 rfl (hb C.2.2.1 hd) rfl hc hc2 h) hr
theorem dup2 {v w : Value} (hd : decode bytes pc = .ok (.dup2, 1)) (hc : v.category = 1) (hc2 : w.category = 1) (hp : pc + 1 = pc') (hr : WP l Z hB y bytes ml ret R n1 Q sl H pc' Ls (v :: w :: v :: w :: st)) : WP l Z hB y bytes ml ret R n1 Q sl H pc Ls (v :: w :: st) := by
  subst hp
  exact WP.step (fun p e s m args below meth c T locs cells slots C X _ tgt h => XT.dup2 X.here C.1 rfl (hb C.2.2.1 hd) rfl hc hc2 h) hr
theorem popV {v : Value} (hd : decode bytes pc = .ok (.pop, 1)) (hc : v.category = 1) (hp : pc + 1 = pc') (hr : WP l Z hB y bytes ml ret R n1 Q sl H pc' Ls (st)) : WP l Z hB y bytes ml ret R n1 Q sl H pc Ls (v :: st) := by
  subst hp
  exact WP.step (fun p e s m args below meth c T locs cells slots C X _ tgt h => XT.pop X.here C.1 rfl (hb C.2.2.1 hd) rfl hc h) hr
theorem istoreN {k : Fin 4} {x : Int32} (hd : decode bytes pc = .ok (.istore_n k, 1)) (hl : storeLocals Ls k.val (.int x) = some Ls') (hp : pc + 1 = pc') (hr : WP l Z hB y bytes ml ret R n1 Q sl H pc' Ls' (st)) : WP l Z hB y bytes ml ret R n1 Q sl H pc Ls (.int x :: st) := by
  subst hp
  exact WP.step (fun p e s m args below meth c T locs cells slots C X _ tgt h => XS.istoreN X.here C.1 rfl (hb C.2.2.1 hd) rfl hl h) hr
theorem istore {k : Nat} {x : Int32} (hd : decode bytes pc = .ok (.istore k, 2)) (hl : storeLocals Ls k (.int x) = some Ls') (hp : pc + 2 = pc') (hr : WP l Z hB y bytes ml ret R n1 Q sl H pc' Ls' (st)) : WP l Z hB y bytes ml ret R n1 Q sl H pc Ls (.int x :: st) := by
  subst hp
  exact WP.step (fun p e s m args below meth c T locs cells slots C X _ tgt h => XS.istore X.here C.1 rfl (hb C.2.2.1 hd) rfl hl h) hr
theorem lstoreN {k : Fin 4} {x : Int64} (hd : decode bytes pc = .ok (.lstore_n k, 1)) (hl : storeLocals Ls k.val (.long x) = some Ls') (hp : pc + 1 = pc') (hr : WP l Z hB y bytes ml ret R n1 Q sl H pc' Ls' (st)) : WP l Z hB y bytes ml ret R n1 Q sl H pc Ls (.long x :: st) := by
  subst hp
  exact WP.step (fun p e s m args below meth c T locs cells slots C X _ tgt h => XT.lstoreN X.here C.1 rfl (hb C.2.2.1 hd) rfl hl h) hr
theorem lstore {k : Nat} {x : Int64} (hd : decode bytes pc = .ok (.lstore k, 2)) (hl : storeLocals Ls k (.long x) = some Ls') (hp : pc + 2 = pc') (hr : WP l Z hB y bytes ml ret R n1 Q sl H pc' Ls' (st)) : WP l Z hB y bytes ml ret R n1 Q sl H pc Ls (.long x :: st) := by
  subst hp
  exact WP.step (fun p e s m args below meth c T locs cells slots C X _ tgt h => XT.lstore X.here C.1 rfl (hb C.2.2.1 hd) rfl hl h) hr
theorem astoreN {k : Fin 4} {v : Value} (hd : decode bytes pc = .ok (.astore_n k, 1)) (hv : v.isRef = true) (hl : storeLocals Ls k.val v = some Ls') (hp : pc + 1 = pc') (hr : WP l Z hB y bytes ml ret R n1 Q sl H pc' Ls' (st)) : WP l Z hB y bytes ml ret R n1 Q sl H pc Ls (v :: st) := by
  subst hp
  exact WP.step (fun p e s m args below meth c T locs cells slots C X _ tgt h => XS.astoreN X.here C.1 rfl (hb C.2.2.1 hd) rfl hv hl h) hr
theorem astore {k : Nat} {v : Value} (hd : decode bytes pc = .ok (.astore k, 2)) (hv : v.isRef = true) (hl : storeLocals Ls k v = some Ls') (hp : pc + 2 = pc') (hr : WP l Z hB y bytes ml ret R n1 Q sl H pc' Ls' (st)) : WP l Z hB y bytes ml ret R n1 Q sl H pc Ls (v :: st) := by
  subst hp
  exact WP.step (fun p e s m args below meth c T locs cells slots C X _ tgt h => XS.astore X.here C.1 rfl (hb C.2.2.1 hd) rfl hv hl h) hr
theorem iinc {k : Nat} {cst : Int} {x : Int32} (z : Int32) (hd : decode bytes pc = .ok (.iinc k cst, 3)) (hl : Ls[k]? = some (.val (.int x))) (hz : x + Int32.ofInt cst = z) (hl' : storeLocals Ls k (.int z) = some Ls') (hp : pc + 3 = pc') (hr : WP l Z hB y bytes ml ret R n1 Q sl H pc' Ls' (st)) : WP l Z hB y bytes ml ret R n1 Q sl H pc Ls (st) := by
  subst hp
  exact WP.step (fun p e s m args below meth c T locs cells slots C X _ tgt h => XS.iinc X.here C.1 rfl (hb C.2.2.1 hd) hl (hz ▸ hl') h) hr
theorem goTo  {o : Int} (hd : decode bytes pc = .ok (.goto o, 3)) (ho : 0 ≤ (pc : Int) + o) (hp : ((pc : Int) + o).toNat = pc') (hr : WP l Z hB y bytes ml ret R n1 Q sl H pc' Ls st) : WP l Z hB y bytes ml ret R n1 Q sl H pc Ls (st) :=
  WP.step (fun p e s m args below meth c T locs cells slots C X _ tgt h => XS.goto X.here C.1 rfl rfl (hb C.2.2.1 hd) ho hp h) hr
theorem ifY {cd : ClassFile.Cond} {x : Int32} {o : Int} (hd : decode bytes pc = .ok (.ifCond cd o, 3)) (hc : ifCond.holds cd x = true) (ho : 0 ≤ (pc : Int) + o) (hp : ((pc : Int) + o).toNat = pc') (hr : WP l Z hB y bytes ml ret R n1 Q sl H pc' Ls st) : WP l Z hB y bytes ml ret R n1 Q sl H pc Ls (.int x :: st) :=
  WP.step (fun p e s m args below meth c T locs cells slots C X _ tgt h => XS.ifYes X.here C.1 rfl rfl (hb C.2.2.1 hd) rfl hc ho hp h) hr
theorem ifN {cd : ClassFile.Cond} {x : Int32} {o : Int} (hd : decode bytes pc = .ok (.ifCond cd o, 3)) (hc : ifCond.holds cd x = false) (hp : pc + 3 = pc') (hr : WP l Z hB y bytes ml ret R n1 Q sl H pc' Ls st) : WP l Z hB y bytes ml ret R n1 Q sl H pc Ls (.int x :: st) := by
  subst hp
  exact WP.step (fun p e s m args below meth c T locs cells slots C X _ tgt h => XS.ifNo X.here C.1 rfl (hb C.2.2.1 hd) rfl hc h) hr
theorem icY {cd : ClassFile.Cond} {x z : Int32} {o : Int} (hd : decode bytes pc = .ok (.if_icmp cd o, 3)) (hc : if_icmp.holds cd x z = true) (ho : 0 ≤ (pc : Int) + o) (hp : ((pc : Int) + o).toNat = pc') (hr : WP l Z hB y bytes ml ret R n1 Q sl H pc' Ls st) : WP l Z hB y bytes ml ret R n1 Q sl H pc Ls (.int z :: .int x :: st) :=
  WP.step (fun p e s m args below meth c T locs cells slots C X _ tgt h => XS.icmpYes X.here C.1 rfl rfl (hb C.2.2.1 hd) rfl hc ho hp h) hr
theorem icN {cd : ClassFile.Cond} {x z : Int32} {o : Int} (hd : decode bytes pc = .ok (.if_icmp cd o, 3)) (hc : if_icmp.holds cd x z = false) (hp : pc + 3 = pc') (hr : WP l Z hB y bytes ml ret R n1 Q sl H pc' Ls st) : WP l Z hB y bytes ml ret R n1 Q sl H pc Ls (.int z :: .int x :: st) := by
  subst hp
  exact WP.step (fun p e s m args below meth c T locs cells slots C X _ tgt h => XS.icmpNo X.here C.1 rfl (hb C.2.2.1 hd) rfl hc h) hr
theorem nullY  {o : Int} (hd : decode bytes pc = .ok (.ifnull o, 3)) (ho : 0 ≤ (pc : Int) + o) (hp : ((pc : Int) + o).toNat = pc') (hr : WP l Z hB y bytes ml ret R n1 Q sl H pc' Ls st) : WP l Z hB y bytes ml ret R n1 Q sl H pc Ls (.null :: st) :=
  WP.step (fun p e s m args below meth c T locs cells slots C X _ tgt h => XS.ifnullYes X.here C.1 rfl rfl (hb C.2.2.1 hd) rfl ho hp h) hr
theorem nullN {b : Addr} {o : Int} (hd : decode bytes pc = .ok (.ifnull o, 3)) (hp : pc + 3 = pc') (hr : WP l Z hB y bytes ml ret R n1 Q sl H pc' Ls st) : WP l Z hB y bytes ml ret R n1 Q sl H pc Ls (.ref b :: st) := by
  subst hp
  exact WP.step (fun p e s m args below meth c T locs cells slots C X _ tgt h => XS.ifnullNo X.here C.1 rfl (hb C.2.2.1 hd) rfl h) hr
theorem nonnullY {b : Addr} {o : Int} (hd : decode bytes pc = .ok (.ifnonnull o, 3)) (ho : 0 ≤ (pc : Int) + o) (hp : ((pc : Int) + o).toNat = pc') (hr : WP l Z hB y bytes ml ret R n1 Q sl H pc' Ls st) : WP l Z hB y bytes ml ret R n1 Q sl H pc Ls (.ref b :: st) :=
  WP.step (fun p e s m args below meth c T locs cells slots C X _ tgt h => XT.ifnonnullYes X.here C.1 rfl rfl (hb C.2.2.1 hd) rfl ho hp h) hr
theorem nonnullN  {o : Int} (hd : decode bytes pc = .ok (.ifnonnull o, 3)) (hp : pc + 3 = pc') (hr : WP l Z hB y bytes ml ret R n1 Q sl H pc' Ls st) : WP l Z hB y bytes ml ret R n1 Q sl H pc Ls (.null :: st) := by
  subst hp
  exact WP.step (fun p e s m args below meth c T locs cells slots C X _ tgt h => XT.ifnonnullNo X.here C.1 rfl (hb C.2.2.1 hd) rfl h) hr
theorem acY {cd : ClassFile.ACond} {v w : Value} {o : Int} (hd : decode bytes pc = .ok (.if_acmp cd o, 3)) (hv : v.isRef = true) (hw : w.isRef = true) (hc : XT.acmp cd v w = true) (ho : 0 ≤ (pc : Int) + o) (hp : ((pc : Int) + o).toNat = pc') (hr : WP l Z hB y bytes ml ret R n1 Q sl H pc' Ls st) : WP l Z hB y bytes ml ret R n1 Q sl H pc Ls (w :: v :: st) :=
  WP.step (fun p e s m args below meth c T locs cells slots C X _ tgt h => XT.acmpYes X.here C.1 rfl rfl (hb C.2.2.1 hd) rfl hv hw hc ho hp h) hr
theorem acN {cd : ClassFile.ACond} {v w : Value} {o : Int} (hd : decode bytes pc = .ok (.if_acmp cd o, 3)) (hv : v.isRef = true) (hw : w.isRef = true) (hc : XT.acmp cd v w = false) (hp : pc + 3 = pc') (hr : WP l Z hB y bytes ml ret R n1 Q sl H pc' Ls st) : WP l Z hB y bytes ml ret R n1 Q sl H pc Ls (w :: v :: st) := by
  subst hp
  exact WP.step (fun p e s m args below meth c T locs cells slots C X _ tgt h => XT.acmpNo X.here C.1 rfl (hb C.2.2.1 hd) rfl hv hw hc h) hr
theorem tswIn {dflt low high : Int} {offs : Array Int} {len : Nat} {o : Int} {i : Int32} (hd : decode bytes pc = .ok (.tableswitch dflt low high offs, len)) (hin : ¬ (i.toInt < low ∨ i.toInt > high)) (hoff : offs[(i.toInt - low).toNat]? = some o) (ho : 0 ≤ (pc : Int) + o) (hp : ((pc : Int) + o).toNat = pc') (hr : WP l Z hB y bytes ml ret R n1 Q sl H pc' Ls st) : WP l Z hB y bytes ml ret R n1 Q sl H pc Ls (.int i :: st) :=
  WP.step (fun p e s m args below meth c T locs cells slots C X _ tgt h => XS.tswIn X.here C.1 rfl rfl (hb C.2.2.1 hd) rfl hin hoff ho hp h) hr
theorem dupX2 {u v w : Value} (hd : decode bytes pc = .ok (.dup_x2, 1)) (h1 : u.category = 1) (h2 : v.category = 1) (h3 : w.category = 1) (hp : pc + 1 = pc') (hr : WP l Z hB y bytes ml ret R n1 Q sl H pc' Ls (u :: v :: w :: u :: st)) : WP l Z hB y bytes ml ret R n1 Q sl H pc Ls (u :: v :: w :: st) := by
  subst hp
  refine WP.step (fun p e s m args below meth c T locs cells slots C X _ tgt h => ?_) hr
  have hx := C.1
  have hd' := (hb C.2.2.1 hd)
  jvm_step X.here [X.here.top, hx, hd', h1, h2, h3]
  exact h
theorem pop2L {x : Int64} (hd : decode bytes pc = .ok (.pop2, 1)) (hp : pc + 1 = pc') (hr : WP l Z hB y bytes ml ret R n1 Q sl H pc' Ls st) : WP l Z hB y bytes ml ret R n1 Q sl H pc Ls (.long x :: st) := by
  subst hp
  refine WP.step (fun p e s m args below meth c T locs cells slots C X _ tgt h => ?_) hr
  have hx := C.1
  have hd' := (hb C.2.2.1 hd)
  jvm_step X.here [X.here.top, hx, hd', Value.category]
  exact h
theorem getFl {a : Addr} {R0 O n d host : String} {v : Value} {index : Nat} (hd : decode bytes pc = .ok (.getfield index, 3)) (w : (Jvm.Cond.fieldLink y.cls index R0 n d).before a0 Z = true ∨ (Jvm.Cond.fieldLinkNest y.cls index R0 n d host).before a0 Z = true) (via : Via Z R0 O n d) (F : ∀ h, Hp Z hB h H → Fld Z h a O n d v) (hp : pc + 3 = pc') (hr : WP l Z hB y bytes ml ret R n1 Q sl H pc' Ls (v :: st)) : WP l Z hB y bytes ml ret R n1 Q sl H pc Ls (.ref a :: st) := by
  subst hp
  exact WP.stepT (fun p e s m args below meth c T locs cells slots C X P => getF X C.1 C.2.1 C.2.2.2.2.1 w via rfl (F _ P) (g := mkF m pc Ls (.ref a :: st)) rfl rfl (hb C.2.2.1 hd)) hr
theorem getF0 {O n d : String} {v : Value} {index i j : Nat} {C : String} {ks : List Key} {vs : List Value} (hd : decode bytes pc = .ok (.getfield index, 3)) (w : (Jvm.Cond.fieldLink y.cls index O n d).before a0 Z = true) (hi : H[i]? = some (obj C ks vs)) (hk : ks[j]? = some (O, n, d)) (hv : vs[j]? = some v) (hp : pc + 3 = pc') (hr : WP l Z hB y bytes ml ret R n1 Q sl H pc' Ls (v :: st)) : WP l Z hB y bytes ml ret R n1 Q sl H pc Ls (rf hB i :: st) :=
  getFl (host := "") hd (Or.inl w) Via.refl (fun _ P => P.fld hi hk hv) hp hr
theorem getFold {a : Addr} {O n d : String} {v : Value} {index : Nat} (hd : decode bytes pc = .ok (.getfield index, 3)) (w : (Jvm.Cond.fieldLink y.cls index O n d).before a0 Z = true) (F : Fld Z hB a O n d v) (hp : pc + 3 = pc') (hr : WP l Z hB y bytes ml ret R n1 Q sl H pc' Ls (v :: st)) : WP l Z hB y bytes ml ret R n1 Q sl H pc Ls (.ref a :: st) :=
  getFl (host := "") hd (Or.inl w) Via.refl (fun _ P => F.ext P.toExt) hp hr
theorem getSt {O n d : String} {v : Value} {index : Nat} (hd : decode bytes pc = .ok (.getstatic index, 3)) (w : (Jvm.Cond.fieldLink y.cls index O n d).before a0 Z = true) (F : Sta Z hB O n d v) (hp : pc + 3 = pc') (hr : WP l Z hB y bytes ml ret R n1 Q sl H pc' Ls (v :: st)) : WP l Z hB y bytes ml ret R n1 Q sl H pc Ls st := by
  subst hp
  exact WP.stepT (fun p e s m args below meth c T locs cells slots C X P => getS2 X C.1 C.2.1 C.2.2.2.2.1 (host := "") (Or.inl w) Via.refl rfl (F.ext P.toExt) (g := mkF m pc Ls st) rfl (hb C.2.2.1 hd)) hr
theorem putF0 {O n d : String} {v : Value} {ty : FieldType} {index i j kk : Nat} {C : String} {ks : List Key} {vs : List Value} (hd : decode bytes pc = .ok (.putfield index, 3)) (w : (Jvm.Cond.fieldLink y.cls index O n d).before a0 Z = true) (hi : H[i]? = some (obj C ks vs)) (hk : ks[j]? = some (O, n, d)) (hj : j < vs.length)
    (L : (Jvm.Cond.lays C O n d).before a0 Z = true ∨ ((Jvm.Cond.laysFinal C O n d).before a0 Z = true ∧ y.cls = O ∧ y.name = "<init>")) (wi : (Jvm.Cond.instantiable C kk).before a0 Z = true) (hty : parseFieldDescriptor d = some ty) (hn : narrow ty v = v) (hf : fits ty v = true) (hH : H.set i (obj C ks (vs.set j v)) = H') (hp : pc + 3 = pc') (hr : WP l Z hB y bytes ml ret R n1 Q sl H' pc' Ls st) : WP l Z hB y bytes ml ret R n1 Q sl H pc Ls (v :: rf hB i :: st) := by
  subst hp; subst hH
  refine WP.stepH (fun p e s m args below meth c T locs cells slots C X hz N P hs => ?_) hr
  obtain ⟨T', h', X', e', W, k⟩ := putF X C.1 C.2.1 C.2.2.2.2.1 (host := "") (Or.inl w) Via.refl rfl (P.fld hi hk (List.getElem?_eq_getElem hj)) (P.exa hi) (L.imp id fun q => ⟨q.1, q.2.1, C.2.2.2.2.2.1.trans q.2.2⟩) wi hty hn hf (g := mkF m pc Ls (v :: rf hB i :: st)) rfl rfl (hb C.2.2.1 hd)
  exact ⟨T', _, _, _, X', Fr.snoc X' N (Nat.le_add_right _ _), by rw [e']; exact P.wrO hi hk hj W, hs, k⟩
theorem initObj {i' : Addr} {index : Nat} (hd : decode bytes pc = .ok (.invokespecial index, 3)) (w1 : (Jvm.Cond.methodLink y.cls index Lib.objectInit).before a0 Z = true) (w2 : (Jvm.Cond.instanceMethod Lib.objectInit).before a0 Z = true) (w3 : (Jvm.Cond.code Lib.objectInit ⟨#[0xb1]⟩ 1 none).before a0 Z = true) (hml : Ls.size = ml) (hf : 1 ≤ R.frames) (hl : (st.map fun v => v.category).sum + 12 ≤ R.locals) (hp : pc + 3 = pc') (hr : WP l Z hB y bytes ml ret R n1 Q sl H pc' Ls st) : WP l Z hB y bytes ml ret R n1 Q sl H pc Ls (.ref i' :: st) := by
  subst hp
  exact WP.stepT (fun p e s m args below meth c T locs cells slots C X P => initO X C.1 C.2.1 C.2.2.2.2.1 w1 w2 w3 rfl (g := mkF m pc Ls (.ref i' :: st)) rfl (hml.trans C.2.2.2.1.symm) rfl (hb C.2.2.1 hd) hf (W := (st.map fun v => v.category).sum) (by show 2 * 0 + _ ≤ _; omega) hl) hr
theorem newObj {C : String} {index n : Nat} {ks : List Key} {vs : List Value} (hd : decode bytes pc = .ok (.new index, 3)) (w : (Jvm.Cond.classLink y.cls index C).before a0 Z = true) (wi : (Jvm.Cond.instantiable C n).before a0 Z = true) (wz : (Jvm.Cond.initialized C).before a0 Z = true)
    (hlaid : ∀ (i : Nat) (k : Key) (v : Value), ks[i]? = some k → vs[i]? = some v → Laid Z a0 C k.1 k.2.1 k.2.2 ∧ ∃ ty, parseFieldDescriptor k.2.2 = some ty ∧ v = defaultValue ty) (hdist : ∀ (i j : Nat) (k k' : Key), ks[i]? = some k → ks[j]? = some k' → i ≠ j → kslot Z k ≠ kslot Z k')
    (hc : H.length + 1 ≤ n1 + R.cells) (hsl : sl + n ≤ R.slots) (hH : H ++ [obj C ks vs] = H') (hlen : H.length = i) (hp : pc + 3 = pc') (hr : WP l Z hB y bytes ml ret R n1 Q (sl + n) H' pc' Ls (rf hB i :: st)) : WP l Z hB y bytes ml ret R n1 Q sl H pc Ls st := by
  subst hp; subst hH; subst hlen
  refine WP.stepH (fun p e s m args below meth c T locs cells slots Cx X hz N P hs => ?_) hr
  have hsz := Cx.2.2.2.2.2.2.2.2
  have hp1 := P.1
  obtain ⟨T', h', X', e', E, A, D, U, k⟩ := newO X Cx.1 Cx.2.1 Cx.2.2.2.2.1 w wi wz rfl (g := mkF m pc Ls st) rfl (hb Cx.2.2.1 hd) (by omega) (by omega)
  subst e'
  have hle := X'.heapSize
  refine ⟨T', _, _, _, X', N, P.push E (by omega) ⟨A, U, fun i k v h1 h2 => ?_, hdist⟩, by omega, by rw [show rf hB H.length = .ref T.heap.size from by show Value.ref _ = _; rw [hp1]]; exact k⟩
  obtain ⟨q1, ty, q2, rfl⟩ := hlaid i k v h1 h2
  exact D q1 q2
theorem newArr {aty : ArrayType} {i : Nat} {n : Int32} {nn : Nat} (hd : decode bytes pc = .ok (.newarray aty, 2)) (w : (Jvm.Cond.arrayClass (newarray.typeOf aty)).before a0 Z = true) (hn : ¬ n < 0) (hnn : n.toNatClampNeg = nn) (hb8 : nn * 8 ≤ 536870912) (hdf : fits (newarray.typeOf aty) (defaultValue (newarray.typeOf aty)) = true) (hnr : (∀ C, newarray.typeOf aty ≠ .object C) ∧ ∀ t, newarray.typeOf aty ≠ .array t)
    (hc : H.length + 1 ≤ n1 + R.cells) (hsl : sl + nn ≤ R.slots) (hH : H ++ [arr (newarray.typeOf aty) (List.replicate nn (defaultValue (newarray.typeOf aty)))] = H') (hlen : H.length = i) (hp : pc + 2 = pc') (hr : WP l Z hB y bytes ml ret R n1 Q (sl + nn) H' pc' Ls (rf hB i :: st)) : WP l Z hB y bytes ml ret R n1 Q sl H pc Ls (.int n :: st) := by
  subst hp; subst hH; subst hlen; subst hnn
  refine WP.stepH (fun p e s m args below meth c T locs cells slots Cx X hz N P hs => ?_) hr
  have hsz := Cx.2.2.2.2.2.2.2.2
  have hp1 := P.1
  obtain ⟨T', h', cA, X', e', E, A, Ex, k⟩ := newPE X Cx.1 Cx.2.1 w rfl (g := mkF m pc Ls (.int n :: st)) rfl (hb Cx.2.2.1 hd) rfl hn (cap := n.toNatClampNeg) (Nat.le_refl _) hb8 (by omega) (by omega) rfl
  subst e'
  have hle := X'.heapSize
  refine ⟨T', _, _, _, X', N, P.push E (by omega) ⟨_, A, by simp [newA], rfl, Ex, ⟨fun C q => absurd q (hnr.1 C), fun t q => absurd q (hnr.2 t)⟩, fun v hv => by rw [List.eq_of_mem_replicate hv]; exact hdf⟩, by omega, by rw [show rf hB H.length = .ref T.heap.size from by show Value.ref _ = _; rw [hp1]]; exact k⟩
theorem newRef {C : String} {index i : Nat} {n : Int32} {nn : Nat} (hd : decode bytes pc = .ok (.anewarray index, 3)) (w1 : (Jvm.Cond.classLink y.cls index C).before a0 Z = true) (w2 : (Jvm.Cond.arrayOver (.object C)).before a0 Z = true) (hn : ¬ n < 0) (hnn : n.toNatClampNeg = nn) (hb8 : nn * 8 ≤ 536870912)
    (hc : H.length + 1 ≤ n1 + R.cells) (hsl : sl + nn ≤ R.slots) (hH : H ++ [arr (.object C) (List.replicate nn .null)] = H') (hlen : H.length = i) (hp : pc + 3 = pc') (hr : WP l Z hB y bytes ml ret R n1 Q (sl + nn) H' pc' Ls (rf hB i :: st)) : WP l Z hB y bytes ml ret R n1 Q sl H pc Ls (.int n :: st) := by
  subst hp; subst hH; subst hlen; subst hnn
  refine WP.stepH (fun p e s m args below meth c T locs cells slots Cx X hz N P hs => ?_) hr
  have hsz := Cx.2.2.2.2.2.2.2.2
  have hp1 := P.1
  obtain ⟨T', h', cA, X', e', E, A, Ex, O, k⟩ := newRE X Cx.1 Cx.2.1 Cx.2.2.2.2.1 w1 w2 rfl (g := mkF m pc Ls (.int n :: st)) rfl (hb Cx.2.2.1 hd) rfl hn (cap := n.toNatClampNeg) (Nat.le_refl _) hb8 (by omega) (by omega) rfl
  subst e'
  have hle := X'.heapSize
  refine ⟨T', _, _, _, X', N, P.push E (by omega) ⟨_, A, by simp [newA, defaultValue], rfl, Ex, ⟨fun C' q => (by cases q; exact O), fun t q => (by cases q)⟩, fun v hv => by rw [List.eq_of_mem_replicate hv]; rfl⟩, by omega, by rw [show rf hB H.length = .ref T.heap.size from by show Value.ref _ = _; rw [hp1]]; exact k⟩
theorem newRefA {ty : FieldType} {C : String} {index i : Nat} {n : Int32} {nn : Nat} (hd : decode bytes pc = .ok (.anewarray index, 3)) (hC : (FieldType.array ty).toString = C) (w1 : (Jvm.Cond.classLink y.cls index C).before a0 Z = true) (w2 : (Jvm.Cond.arrayOver (.array ty)).before a0 Z = true) (hn : ¬ n < 0) (hnn : n.toNatClampNeg = nn) (hb8 : nn * 8 ≤ 536870912)
    (hc : H.length + 1 ≤ n1 + R.cells) (hsl : sl + nn ≤ R.slots) (hH : H ++ [arr (.array ty) (List.replicate nn .null)] = H') (hlen : H.length = i) (hp : pc + 3 = pc') (hr : WP l Z hB y bytes ml ret R n1 Q (sl + nn) H' pc' Ls (rf hB i :: st)) : WP l Z hB y bytes ml ret R n1 Q sl H pc Ls (.int n :: st) := by
  subst hp; subst hH; subst hlen; subst hnn; subst hC
  refine WP.stepH (fun p e s m args below meth c T locs cells slots Cx X hz N P hs => ?_) hr
  have hsz := Cx.2.2.2.2.2.2.2.2
  have hp1 := P.1
  obtain ⟨T', h', cA, X', e', E, A, Ex, O, k⟩ := newRA X Cx.1 Cx.2.1 Cx.2.2.2.2.1 rfl w1 w2 rfl (g := mkF m pc Ls (.int n :: st)) rfl (hb Cx.2.2.1 hd) rfl hn (cap := n.toNatClampNeg) (Nat.le_refl _) hb8 (by omega) (by omega) rfl
  subst e'
  have hle := X'.heapSize
  refine ⟨T', _, _, _, X', N, P.push E (by omega) ⟨_, A, by simp [newA, defaultValue], rfl, Ex, ⟨fun C' q => (by cases q), fun t q => (by cases q; exact O)⟩, fun v hv => by rw [List.eq_of_mem_replicate hv]; rfl⟩, by omega, by rw [show rf hB H.length = .ref T.heap.size from by show Value.ref _ = _; rw [hp1]]; exact k⟩
theorem inb {c : Cell} {vs : List Value} {j : Int32} {v : Value} (hc : c.slots = vs.toArray) (h0 : ¬ j < 0) (hv : vs[j.toNatClampNeg]? = some v) : ¬ (j < 0 ∨ c.slots.size ≤ j.toNatClampNeg) ∧ c.slots[j.toNatClampNeg]? = some v := by
  have := (List.getElem?_eq_some_iff.mp hv).1
  refine ⟨fun q => q.elim h0 fun z => ?_, by rw [hc]; simpa using hv⟩
  rw [hc, List.size_toArray] at z; omega
theorem arrLen {i : Nat} {t : FieldType} {vs : List Value} {z : Int32} (hd : decode bytes pc = .ok (.arraylength, 1)) (hi : H[i]? = some (arr t vs)) (hz : vs.length.toInt32 = z) (hp : pc + 1 = pc') (hr : WP l Z hB y bytes ml ret R n1 Q sl H pc' Ls (.int z :: st)) : WP l Z hB y bytes ml ret R n1 Q sl H pc Ls (rf hB i :: st) := by
  subst hp
  refine WP.step (fun p e s m args below meth c T locs cells slots C X P tgt h => ?_) hr
  obtain ⟨cl, h1, h2, -⟩ := P.at hi
  exact X.arraylength C.1 h1.1 (State.isArrayOf_alike C.2.1.alike h1.2.1) (g := mkF m pc Ls (rf hB i :: st)) rfl rfl (hb C.2.2.1 hd) _ (by rw [h2, List.size_toArray, hz]; exact h)
theorem arrLenOld {a : Addr} {t : FieldType} {cl : Cell} {z : Int32} (hd : decode bytes pc = .ok (.arraylength, 1)) (A : Arr Z hB a cl t) (hz : cl.slots.size.toInt32 = z) (hp : pc + 1 = pc') (hr : WP l Z hB y bytes ml ret R n1 Q sl H pc' Ls (.int z :: st)) : WP l Z hB y bytes ml ret R n1 Q sl H pc Ls (.ref a :: st) := by
  subst hp
  refine WP.step (fun p e s m args below meth c T locs cells slots C X P tgt h => ?_) hr
  have h1 := A.ext P.toExt
  exact X.arraylength C.1 h1.1 (State.isArrayOf_alike C.2.1.alike h1.2.1) (g := mkF m pc Ls (.ref a :: st)) rfl rfl (hb C.2.2.1 hd) _ (by rw [hz]; exact h)
theorem iaload {i : Nat} {vs : List Value} {j : Int32} {v : Value} {jn : Nat} (hd : decode bytes pc = .ok (.iaload, 1)) (hi : H[i]? = some (arr .int vs)) (h0 : ¬ j < 0) (hjn : j.toNatClampNeg = jn) (hv : vs[jn]? = some v) (hp : pc + 1 = pc') (hr : WP l Z hB y bytes ml ret R n1 Q sl H pc' Ls (v :: st)) : WP l Z hB y bytes ml ret R n1 Q sl H pc Ls (.int j :: rf hB i :: st) := by
  subst hp; subst hjn
  refine WP.step (fun p e s m args below meth c T locs cells slots C X P tgt h => ?_) hr
  obtain ⟨cl, h1, h2, -⟩ := P.at hi
  exact X.iaload C.1 h1.1 (State.isArrayOf_alike C.2.1.alike h1.2.1) h1.2.2 (inb h2 h0 hv).1 (inb h2 h0 hv).2 (g := mkF m pc Ls (.int j :: rf hB i :: st)) rfl rfl (hb C.2.2.1 hd) _ h
theorem laload {i : Nat} {vs : List Value} {j : Int32} {v : Value} {jn : Nat} (hd : decode bytes pc = .ok (.laload, 1)) (hi : H[i]? = some (arr .long vs)) (h0 : ¬ j < 0) (hjn : j.toNatClampNeg = jn) (hv : vs[jn]? = some v) (hp : pc + 1 = pc') (hr : WP l Z hB y bytes ml ret R n1 Q sl H pc' Ls (v :: st)) : WP l Z hB y bytes ml ret R n1 Q sl H pc Ls (.int j :: rf hB i :: st) := by
  subst hp; subst hjn
  refine WP.step (fun p e s m args below meth c T locs cells slots C X P tgt h => ?_) hr
  obtain ⟨cl, h1, h2, -⟩ := P.at hi
  exact X.laload C.1 h1.1 (State.isArrayOf_alike C.2.1.alike h1.2.1) h1.2.2 (inb h2 h0 hv).1 (inb h2 h0 hv).2 (g := mkF m pc Ls (.int j :: rf hB i :: st)) rfl rfl (hb C.2.2.1 hd) _ h
theorem caload {i : Nat} {vs : List Value} {j : Int32} {v : Value} {jn : Nat} (hd : decode bytes pc = .ok (.caload, 1)) (hi : H[i]? = some (arr .char vs)) (h0 : ¬ j < 0) (hjn : j.toNatClampNeg = jn) (hv : vs[jn]? = some v) (hp : pc + 1 = pc') (hr : WP l Z hB y bytes ml ret R n1 Q sl H pc' Ls (v :: st)) : WP l Z hB y bytes ml ret R n1 Q sl H pc Ls (.int j :: rf hB i :: st) := by
  subst hp; subst hjn
  refine WP.step (fun p e s m args below meth c T locs cells slots C X P tgt h => ?_) hr
  obtain ⟨cl, h1, h2, -⟩ := P.at hi
  exact X.caload C.1 h1.1 (State.isArrayOf_alike C.2.1.alike h1.2.1) h1.2.2 (inb h2 h0 hv).1 (inb h2 h0 hv).2 (g := mkF m pc Ls (.int j :: rf hB i :: st)) rfl rfl (hb C.2.2.1 hd) _ h
theorem baload {i : Nat} {vs : List Value} {j : Int32} {v : Value} {jn : Nat} (hd : decode bytes pc = .ok (.baload, 1)) (hi : H[i]? = some (arr .byte vs)) (h0 : ¬ j < 0) (hjn : j.toNatClampNeg = jn) (hv : vs[jn]? = some v) (hp : pc + 1 = pc') (hr : WP l Z hB y bytes ml ret R n1 Q sl H pc' Ls (v :: st)) : WP l Z hB y bytes ml ret R n1 Q sl H pc Ls (.int j :: rf hB i :: st) := by
  subst hp; subst hjn
  refine WP.step (fun p e s m args below meth c T locs cells slots C X P tgt h => ?_) hr
  obtain ⟨cl, h1, h2, -⟩ := P.at hi
  exact X.baloadBytes C.1 h1.1 (State.isArrayOf_alike C.2.1.alike h1.2.1) h1.2.2 (inb h2 h0 hv).1 (inb h2 h0 hv).2 (g := mkF m pc Ls (.int j :: rf hB i :: st)) rfl rfl (hb C.2.2.1 hd) _ h
theorem zaload {i : Nat} {vs : List Value} {j : Int32} {v : Value} {jn : Nat} (hd : decode bytes pc = .ok (.baload, 1)) (hi : H[i]? = some (arr .boolean vs)) (h0 : ¬ j < 0) (hjn : j.toNatClampNeg = jn) (hv : vs[jn]? = some v) (hp : pc + 1 = pc') (hr : WP l Z hB y bytes ml ret R n1 Q sl H pc' Ls (v :: st)) : WP l Z hB y bytes ml ret R n1 Q sl H pc Ls (.int j :: rf hB i :: st) := by
  subst hp; subst hjn
  refine WP.step (fun p e s m args below meth c T locs cells slots C X P tgt h => ?_) hr
  obtain ⟨cl, h1, h2, -⟩ := P.at hi
  exact X.baloadBooleans C.1 h1.1 (State.isArrayOf_alike C.2.1.alike h1.2.1) h1.2.2 (inb h2 h0 hv).1 (inb h2 h0 hv).2 (g := mkF m pc Ls (.int j :: rf hB i :: st)) rfl rfl (hb C.2.2.1 hd) _ h
theorem aaload {i : Nat} {t : FieldType} {vs : List Value} {j : Int32} {v : Value} {jn : Nat} (hd : decode bytes pc = .ok (.aaload, 1)) (hi : H[i]? = some (arr t vs)) (ht : t.isReference = true) (h0 : ¬ j < 0) (hjn : j.toNatClampNeg = jn) (hv : vs[jn]? = some v) (hp : pc + 1 = pc') (hr : WP l Z hB y bytes ml ret R n1 Q sl H pc' Ls (v :: st)) : WP l Z hB y bytes ml ret R n1 Q sl H pc Ls (.int j :: rf hB i :: st) := by
  subst hp; subst hjn
  refine WP.step (fun p e s m args below meth c T locs cells slots C X P tgt h => ?_) hr
  obtain ⟨cl, h1, h2, -⟩ := P.at hi
  exact X.aaload C.1 h1.1 (State.isArrayOf_alike C.2.1.alike h1.2.1) ht h1.2.2 (inb h2 h0 hv).1 (inb h2 h0 hv).2 (g := mkF m pc Ls (.int j :: rf hB i :: st)) rfl rfl (hb C.2.2.1 hd) _ h
theorem baloadOld {a : Addr} {cl : Cell} {j : Int32} {v : Value} (hd : decode bytes pc = .ok (.baload, 1)) (A : Arr Z hB a cl .byte) (h0 : ¬ (j < 0 ∨ cl.slots.size ≤ j.toNatClampNeg)) (hv : cl.slots[j.toNatClampNeg]? = some v) (hp : pc + 1 = pc') (hr : WP l Z hB y bytes ml ret R n1 Q sl H pc' Ls (v :: st)) : WP l Z hB y bytes ml ret R n1 Q sl H pc Ls (.int j :: .ref a :: st) := by
  subst hp
  refine WP.step (fun p e s m args below meth c T locs cells slots C X P tgt h => ?_) hr
  have h1 := A.ext P.toExt
  exact X.baloadBytes C.1 h1.1 (State.isArrayOf_alike C.2.1.alike h1.2.1) h1.2.2 h0 hv (g := mkF m pc Ls (.int j :: .ref a :: st)) rfl rfl (hb C.2.2.1 hd) _ h
theorem ialoadOld {a : Addr} {cl : Cell} {j : Int32} {v : Value} (hd : decode bytes pc = .ok (.iaload, 1)) (A : Arr Z hB a cl .int) (h0 : ¬ (j < 0 ∨ cl.slots.size ≤ j.toNatClampNeg)) (hv : cl.slots[j.toNatClampNeg]? = some v) (hp : pc + 1 = pc') (hr : WP l Z hB y bytes ml ret R n1 Q sl H pc' Ls (v :: st)) : WP l Z hB y bytes ml ret R n1 Q sl H pc Ls (.int j :: .ref a :: st) := by
  subst hp
  refine WP.step (fun p e s m args below meth c T locs cells slots C X P tgt h => ?_) hr
  have h1 := A.ext P.toExt
  exact X.iaload C.1 h1.1 (State.isArrayOf_alike C.2.1.alike h1.2.1) h1.2.2 h0 hv (g := mkF m pc Ls (.int j :: .ref a :: st)) rfl rfl (hb C.2.2.1 hd) _ h
theorem aaloadOld {a : Addr} {t : FieldType} {cl : Cell} {j : Int32} {v : Value} (hd : decode bytes pc = .ok (.aaload, 1)) (A : Arr Z hB a cl t) (ht : t.isReference = true) (h0 : ¬ (j < 0 ∨ cl.slots.size ≤ j.toNatClampNeg)) (hv : cl.slots[j.toNatClampNeg]? = some v) (hp : pc + 1 = pc') (hr : WP l Z hB y bytes ml ret R n1 Q sl H pc' Ls (v :: st)) : WP l Z hB y bytes ml ret R n1 Q sl H pc Ls (.int j :: .ref a :: st) := by
  subst hp
  refine WP.step (fun p e s m args below meth c T locs cells slots C X P tgt h => ?_) hr
  have h1 := A.ext P.toExt
  exact X.aaload C.1 h1.1 (State.isArrayOf_alike C.2.1.alike h1.2.1) ht h1.2.2 h0 hv (g := mkF m pc Ls (.int j :: .ref a :: st)) rfl rfl (hb C.2.2.1 hd) _ h
theorem iastore {i : Nat} {vs : List Value} {j : Int32} {x : Int32} {jn : Nat} (hd : decode bytes pc = .ok (.iastore, 1)) (hi : H[i]? = some (arr .int vs)) (h0 : ¬ j < 0) (hjn : j.toNatClampNeg = jn) (hlt : jn < vs.length) (hH : H.set i (arr .int (vs.set jn (.int x))) = H') (hp : pc + 1 = pc') (hr : WP l Z hB y bytes ml ret R n1 Q sl H' pc' Ls st) : WP l Z hB y bytes ml ret R n1 Q sl H pc Ls (.int x :: .int j :: rf hB i :: st) := by
  subst hp; subst hH; subst hjn
  refine WP.stepH (fun p e s m args below meth c T locs cells slots C X hz N P hs => ?_) hr
  obtain ⟨cl, h1, h2, -⟩ := P.at hi
  obtain ⟨T', h', X', e', W, k⟩ := stI X C.1 C.2.1 rfl h1 (inb h2 h0 (List.getElem?_eq_getElem hlt)).1 (g := mkF m pc Ls (.int x :: .int j :: rf hB i :: st)) rfl rfl (hb C.2.2.1 hd)
  exact ⟨T', _, _, _, X', Fr.snoc X' N (Nat.le_add_right _ _), by rw [e']; exact P.wrA hi (rfl) W, hs, k⟩
theorem lastore {i : Nat} {vs : List Value} {j : Int32} {x : Int64} {jn : Nat} (hd : decode bytes pc = .ok (.lastore, 1)) (hi : H[i]? = some (arr .long vs)) (h0 : ¬ j < 0) (hjn : j.toNatClampNeg = jn) (hlt : jn < vs.length) (hH : H.set i (arr .long (vs.set jn (.long x))) = H') (hp : pc + 1 = pc') (hr : WP l Z hB y bytes ml ret R n1 Q sl H' pc' Ls st) : WP l Z hB y bytes ml ret R n1 Q sl H pc Ls (.long x :: .int j :: rf hB i :: st) := by
  subst hp; subst hH; subst hjn
  refine WP.stepH (fun p e s m args below meth c T locs cells slots C X hz N P hs => ?_) hr
  obtain ⟨cl, h1, h2, -⟩ := P.at hi
  obtain ⟨T', h', X', e', W, k⟩ := stJ X C.1 C.2.1 rfl h1 (inb h2 h0 (List.getElem?_eq_getElem hlt)).1 (g := mkF m pc Ls (.long x :: .int j :: rf hB i :: st)) rfl rfl (hb C.2.2.1 hd)
  exact ⟨T', _, _, _, X', Fr.snoc X' N (Nat.le_add_right _ _), by rw [e']; exact P.wrA hi (rfl) W, hs, k⟩
theorem castore {i : Nat} {vs : List Value} {j : Int32} {x : Int32} {jn : Nat} (hd : decode bytes pc = .ok (.castore, 1)) (hi : H[i]? = some (arr .char vs)) (h0 : ¬ j < 0) (hjn : j.toNatClampNeg = jn) (hlt : jn < vs.length) (hH : H.set i (arr .char (vs.set jn (.int (nar .char x)))) = H') (hp : pc + 1 = pc') (hr : WP l Z hB y bytes ml ret R n1 Q sl H' pc' Ls st) : WP l Z hB y bytes ml ret R n1 Q sl H pc Ls (.int x :: .int j :: rf hB i :: st) := by
  subst hp; subst hH; subst hjn
  refine WP.stepH (fun p e s m args below meth c T locs cells slots C X hz N P hs => ?_) hr
  obtain ⟨cl, h1, h2, -⟩ := P.at hi
  obtain ⟨T', h', X', e', W, k⟩ := stC X C.1 C.2.1 rfl h1 (inb h2 h0 (List.getElem?_eq_getElem hlt)).1 (g := mkF m pc Ls (.int x :: .int j :: rf hB i :: st)) rfl rfl (hb C.2.2.1 hd)
  exact ⟨T', _, _, _, X', Fr.snoc X' N (Nat.le_add_right _ _), by rw [e']; exact P.wrA hi (fits_nar_char x) W, hs, k⟩
theorem bastore {i : Nat} {vs : List Value} {j : Int32} {x : Int32} {jn : Nat} (hd : decode bytes pc = .ok (.bastore, 1)) (hi : H[i]? = some (arr .byte vs)) (h0 : ¬ j < 0) (hjn : j.toNatClampNeg = jn) (hlt : jn < vs.length) (hH : H.set i (arr .byte (vs.set jn (.int (nar .byte x)))) = H') (hp : pc + 1 = pc') (hr : WP l Z hB y bytes ml ret R n1 Q sl H' pc' Ls st) : WP l Z hB y bytes ml ret R n1 Q sl H pc Ls (.int x :: .int j :: rf hB i :: st) := by
  subst hp; subst hH; subst hjn
  refine WP.stepH (fun p e s m args below meth c T locs cells slots C X hz N P hs => ?_) hr
  obtain ⟨cl, h1, h2, -⟩ := P.at hi
  obtain ⟨T', h', X', e', W, k⟩ := stB X C.1 C.2.1 rfl h1 (inb h2 h0 (List.getElem?_eq_getElem hlt)).1 (g := mkF m pc Ls (.int x :: .int j :: rf hB i :: st)) rfl rfl (hb C.2.2.1 hd)
  exact ⟨T', _, _, _, X', Fr.snoc X' N (Nat.le_add_right _ _), by rw [e']; exact P.wrA hi (fits_nar_byte x) W, hs, k⟩
theorem zastore {i : Nat} {vs : List Value} {j : Int32} {x : Int32} {jn : Nat} (hd : decode bytes pc = .ok (.bastore, 1)) (hi : H[i]? = some (arr .boolean vs)) (h0 : ¬ j < 0) (hjn : j.toNatClampNeg = jn) (hlt : jn < vs.length) (hH : H.set i (arr .boolean (vs.set jn (.int (nar .boolean x)))) = H') (hp : pc + 1 = pc') (hr : WP l Z hB y bytes ml ret R n1 Q sl H' pc' Ls st) : WP l Z hB y bytes ml ret R n1 Q sl H pc Ls (.int x :: .int j :: rf hB i :: st) := by
  subst hp; subst hH; subst hjn
  refine WP.stepH (fun p e s m args below meth c T locs cells slots C X hz N P hs => ?_) hr
  obtain ⟨cl, h1, h2, -⟩ := P.at hi
  obtain ⟨T', h', X', e', W, k⟩ := stZ X C.1 C.2.1 rfl h1 (inb h2 h0 (List.getElem?_eq_getElem hlt)).1 (g := mkF m pc Ls (.int x :: .int j :: rf hB i :: st)) rfl rfl (hb C.2.2.1 hd)
  exact ⟨T', _, _, _, X', Fr.snoc X' N (Nat.le_add_right _ _), by rw [e']; exact P.wrA hi (fits_nar_bool x) W, hs, k⟩
theorem aastore {i : Nat} {t : FieldType} {vs : List Value} {j : Int32} {v : Value} {jn : Nat} (hd : decode bytes pc = .ok (.aastore, 1)) (hi : H[i]? = some (arr t vs)) (ht : t.isReference = true) (F : ∀ h, Hp Z hB h H → Sto Z h (hB.size + i) v) (hf : fits t v = true) (h0 : ¬ j < 0) (hjn : j.toNatClampNeg = jn) (hlt : jn < vs.length) (hH : H.set i (arr t (vs.set jn v)) = H') (hp : pc + 1 = pc') (hr : WP l Z hB y bytes ml ret R n1 Q sl H' pc' Ls st) : WP l Z hB y bytes ml ret R n1 Q sl H pc Ls (v :: .int j :: rf hB i :: st) := by
  subst hp; subst hH; subst hjn
  refine WP.stepH (fun p e s m args below meth c T locs cells slots C X hz N P hs => ?_) hr
  obtain ⟨cl, h1, h2, -⟩ := P.at hi
  obtain ⟨T', h', X', e', W, k⟩ := stR X C.1 C.2.1 rfl h1 (inb h2 h0 (List.getElem?_eq_getElem hlt)).1 ht (F _ P) (g := mkF m pc Ls (v :: .int j :: rf hB i :: st)) rfl rfl (hb C.2.2.1 hd)
  exact ⟨T', _, _, _, X', Fr.snoc X' N (Nat.le_add_right _ _), by rw [e']; exact P.wrA hi hf W, hs, k⟩
theorem ialoadI {i : Nat} {xs : List Int32} {j x : Int32} {jn : Nat} (hd : decode bytes pc = .ok (.iaload, 1)) (hi : H[i]? = some (ints xs)) (h0 : ¬ j < 0) (hjn : j.toNatClampNeg = jn) (hv : xs[jn]? = some x) (hp : pc + 1 = pc') (hr : WP l Z hB y bytes ml ret R n1 Q sl H pc' Ls (.int x :: st)) : WP l Z hB y bytes ml ret R n1 Q sl H pc Ls (.int j :: rf hB i :: st) :=
  iaload hd hi h0 hjn (by rw [List.getElem?_map, hv]; rfl) hp hr
theorem iastoreI {i : Nat} {xs : List Int32} {j x : Int32} {jn : Nat} (hd : decode bytes pc = .ok (.iastore, 1)) (hi : H[i]? = some (ints xs)) (h0 : ¬ j < 0) (hjn : j.toNatClampNeg = jn) (hlt : jn < xs.length) (hH : H.set i (ints (xs.set jn x)) = H') (hp : pc + 1 = pc') (hr : WP l Z hB y bytes ml ret R n1 Q sl H' pc' Ls st) : WP l Z hB y bytes ml ret R n1 Q sl H pc Ls (.int x :: .int j :: rf hB i :: st) :=
  iastore hd hi h0 hjn (by rw [List.length_map]; exact hlt) (by rw [← hH]; show H.set i (arr .int ((xs.map Value.int).set jn (Value.int x))) = H.set i (arr .int ((xs.set jn x).map Value.int)); rw [List.map_set]) hp hr
theorem ialoadG {i : Nat} {xs : List Int32} {j x : Int32} (hd : decode bytes pc = .ok (.iaload, 1)) (hi : H[i]? = some (ints xs)) (hg : gI xs j = some x) (hp : pc + 1 = pc') (hr : WP l Z hB y bytes ml ret R n1 Q sl H pc' Ls (.int x :: st)) : WP l Z hB y bytes ml ret R n1 Q sl H pc Ls (.int j :: rf hB i :: st) :=
  ialoadI hd hi (gI_at hg).1 rfl (gI_at hg).2 hp hr
theorem iastoreG {i : Nat} {xs xs' : List Int32} {j x : Int32} (hd : decode bytes pc = .ok (.iastore, 1)) (hi : H[i]? = some (ints xs)) (hg : sI xs j x = some xs') (hH : H.set i (ints xs') = H') (hp : pc + 1 = pc') (hr : WP l Z hB y bytes ml ret R n1 Q sl H' pc' Ls st) : WP l Z hB y bytes ml ret R n1 Q sl H pc Ls (.int x :: .int j :: rf hB i :: st) :=
  iastoreI hd hi (sI_at hg).1 rfl (sI_at hg).2.1 (by rw [← hH, (sI_at hg).2.2]) hp hr
theorem lastoreG {i : Nat} {xs xs' : List Int64} {j : Int32} {x : Int64} (hd : decode bytes pc = .ok (.lastore, 1)) (hi : H[i]? = some (longs xs)) (hg : sJ xs j x = some xs') (hH : H.set i (longs xs') = H') (hp : pc + 1 = pc') (hr : WP l Z hB y bytes ml ret R n1 Q sl H' pc' Ls st) : WP l Z hB y bytes ml ret R n1 Q sl H pc Ls (.long x :: .int j :: rf hB i :: st) :=
  lastore hd hi (sJ_at hg).1 rfl (by rw [List.length_map]; exact (sJ_at hg).2.1) (by rw [← hH, (sJ_at hg).2.2]; show H.set i (arr .long ((xs.map Value.long).set j.toNatClampNeg (Value.long x))) = H.set i (arr .long ((xs.set j.toNatClampNeg x).map Value.long)); rw [List.map_set]) hp hr
theorem stoO {h : Heap} (P : Hp Z hB h H) {i : Nat} {C : String} {vs : List Value} {b : Addr} (hi : H[i]? = some (arr (.object C) vs)) (I : Ins Z h b C true) : Sto Z h (hB.size + i) (.ref b) := by
  obtain ⟨cl, h1, -, -, -, h6, -⟩ := P.at hi
  exact Sto.of h1 (h6.1 _ rfl) I
theorem stoA {h : Heap} (P : Hp Z hB h H) {i : Nat} {ty : FieldType} {C : String} {vs : List Value} {b : Addr} (hi : H[i]? = some (arr (.array ty) vs)) (hC : (FieldType.array ty).toString = C) (I : Ins Z h b C true) : Sto Z h (hB.size + i) (.ref b) := by
  subst hC
  obtain ⟨cl, h1, -, -, -, h6, -⟩ := P.at hi
  obtain ⟨k, comp, o1, o2, o3⟩ := h6.2 _ rfl
  obtain ⟨cv, cT, i1, i2, i3⟩ := I
  cases o3.symm.trans i2
  simp only [Bool.and_eq_true, Bool.not_eq_true'] at i3
  obtain ⟨kc, q⟩ := Vm.classAt_of_findClass o3
  obtain ⟨kv, q2⟩ := Vm.classAt_of_assignable i3.2 ⟨kc, q⟩
  exact Or.inr ⟨cl, cv, k, kv, kc, _, _, b, h1.1, o1, o2, q, rfl, i1, i3.1, q2, i3.2⟩
/-- System.arraycopy into an array made since -/
theorem arraycopy {a : Addr} {i index : Nat} {t t' : FieldType} {vs vd us : List Value} {z sp dp nn : Int32} {spn dpn n : Nat} {dv : Value} (hd : decode bytes pc = .ok (.invokestatic index, 3)) (w1 : (Jvm.Cond.methodLink y.cls index Jvm.Stand.acN).before a0 Z = true) (w2 : (Jvm.Cond.native Jvm.Stand.acN).before a0 Z = true) (w3 : (Jvm.Cond.static Jvm.Stand.acN).before a0 Z = true) (w4 : (Jvm.Cond.initialized "java/lang/System").before a0 Z = true)
    (A : ∀ h, Hp Z hB h H → ∃ k, Arv Z h a k t z vs dv) (hi : H[i]? = some (arr t' vd)) (hty : (t = t' ∧ refKind t = false) ∨ (refKind t = true ∧ refKind t' = true ∧ ∀ h, Hp Z hB h H → StoL Z h (hB.size + i) us)) (h1 : ¬ sp < 0) (h2 : ¬ dp < 0) (h3 : ¬ nn < 0) (e1 : sp.toNatClampNeg = spn) (e2 : dp.toNatClampNeg = dpn) (e3 : nn.toNatClampNeg = n) (h4 : spn + n ≤ z.toNatClampNeg) (h5 : dpn + n ≤ vd.length) (hl : vd.length < 2 ^ 31)
    (hus : us = (List.range n).map fun j => vs.getD (spn + j) dv) (hml : Ls.size = ml) (hf : 1 ≤ R.frames) (hlo : (st.map fun v => v.category).sum + (nativeFrameWords "java/lang/System" "arraycopy" 5 + 11) ≤ R.locals) (hH : H.set i (arr t' (vd.take dpn ++ us ++ vd.drop (dpn + n))) = H') (hp : pc + 3 = pc') (hr : WP l Z hB y bytes ml ret R n1 Q sl H' pc' Ls st) : WP l Z hB y bytes ml ret R n1 Q sl H pc Ls (.int nn :: .int dp :: rf hB i :: .int sp :: .ref a :: st) := by
  subst hp; subst hH; subst e1; subst e2; subst e3
  refine WP.stepH (fun p e s m args below meth c T locs cells slots C X hz N P hs => ?_) hr
  obtain ⟨k, A⟩ := A _ P
  obtain ⟨k', B⟩ := P.arv hi hl .null
  obtain ⟨T', h', L, X', e', N', K, B', stp⟩ := cpA X C.1 C.2.1 C.2.2.2.2.1 w1 w2 w3 w4 rfl A B (hty.imp id fun q => ⟨q.1, q.2.1, q.2.2 _ P⟩) h1 h2 h3 h4 (by rw [(toNat_len hl).1]; exact h5) hus h5 N (Nat.le_add_right _ _) (g := mkF m pc Ls (.int nn :: .int dp :: rf hB i :: .int sp :: .ref a :: st)) rfl (hml.trans C.2.2.2.1.symm) rfl (hb C.2.2.1 hd) hf (W := (st.map fun v => v.category).sum) (by show 2 * 0 + _ ≤ _; omega) hlo
  subst e'
  have hle := X'.heapSize
  have ul : us.length = nn.toNatClampNeg := by rw [hus]; simp
  exact ⟨T', L, cells, slots, X', N', P.copied hi (by omega) K hl (by simp only [List.length_append, List.length_take, List.length_drop, ul]; omega) B', hs, stp⟩
theorem ldcInt {index : Nat} {x : Int32} (hd : decode bytes pc = .ok (.ldc index, 2)) (w : (Jvm.Cond.constant y.cls index x).before a0 Z = true) (hp : pc + 2 = pc') (hr : WP l Z hB y bytes ml ret R n1 Q sl H pc' Ls (.int x :: st)) : WP l Z hB y bytes ml ret R n1 Q sl H pc Ls st := by
  subst hp
  exact WP.step (fun p e s m args below meth c T locs cells slots C X P tgt h => X.ldcInt C.1 C.2.2.2.2.1 (mvT C.2.1 w) (g := mkF m pc Ls st) rfl (hb C.2.2.1 hd) _ h) hr
theorem ldc2Long {index : Nat} {x : Int64} (hd : decode bytes pc = .ok (.ldc2_w index, 3)) (w : (Jvm.Cond.constantLong y.cls index x).before a0 Z = true) (hp : pc + 3 = pc') (hr : WP l Z hB y bytes ml ret R n1 Q sl H pc' Ls (.long x :: st)) : WP l Z hB y bytes ml ret R n1 Q sl H pc Ls st := by
  subst hp
  exact WP.step (fun p e s m args below meth c T locs cells slots C X P tgt h => X.ldc2Long C.1 C.2.2.2.2.1 (mvT C.2.1 w) (g := mkF m pc Ls st) rfl (hb C.2.2.1 hd) _ h) hr
theorem castTo {K : String} {index : Nat} {a : Addr} (hd : decode bytes pc = .ok (.checkcast index, 3)) (w : (Jvm.Cond.classLink y.cls index K).before a0 Z = true) (F : ∀ h, Hp Z hB h H → Ins Z h a K true) (hp : pc + 3 = pc') (hr : WP l Z hB y bytes ml ret R n1 Q sl H pc' Ls (.ref a :: st)) : WP l Z hB y bytes ml ret R n1 Q sl H pc Ls (.ref a :: st) := by
  subst hp
  exact WP.stepT (fun p e s m args below meth c T locs cells slots C X P => castY X C.1 C.2.1 C.2.2.2.2.1 w rfl (F _ P) (g := mkF m pc Ls (.ref a :: st)) rfl rfl (hb C.2.2.1 hd)) hr
theorem instYes {K : String} {index : Nat} {a : Addr} (hd : decode bytes pc = .ok (.instanceof index, 3)) (w : (Jvm.Cond.classLink y.cls index K).before a0 Z = true) (F : ∀ h, Hp Z hB h H → Ins Z h a K true) (hp : pc + 3 = pc') (hr : WP l Z hB y bytes ml ret R n1 Q sl H pc' Ls (.int 1 :: st)) : WP l Z hB y bytes ml ret R n1 Q sl H pc Ls (.ref a :: st) := by
  subst hp
  exact WP.stepT (fun p e s m args below meth c T locs cells slots C X P => instY X C.1 C.2.1 C.2.2.2.2.1 w rfl (F _ P) (g := mkF m pc Ls (.ref a :: st)) rfl rfl (hb C.2.2.1 hd)) hr
theorem instNot {K C : String} {index : Nat} {a : Addr} (hd : decode bytes pc = .ok (.instanceof index, 3)) (w : (Jvm.Cond.classLink y.cls index K).before a0 Z = true) (E : ∀ h, Hp Z hB h H → Exa Z h a C) (F : ∃ c t, Z.vm.findClass C = some c ∧ Z.vm.findClass K = some t ∧ Z.vm.assignable c t = false) (hp : pc + 3 = pc') (hr : WP l Z hB y bytes ml ret R n1 Q sl H pc' Ls (.int 0 :: st)) : WP l Z hB y bytes ml ret R n1 Q sl H pc Ls (.ref a :: st) := by
  subst hp
  exact WP.stepT (fun p e s m args below meth c T locs cells slots C X P => instNo X C.1 C.2.1 C.2.2.2.2.1 w rfl (E _ P) F (g := mkF m pc Ls (.ref a :: st)) rfl rfl (hb C.2.2.1 hd)) hr
theorem instNull {index : Nat} (hd : decode bytes pc = .ok (.instanceof index, 3)) (hp : pc + 3 = pc') (hr : WP l Z hB y bytes ml ret R n1 Q sl H pc' Ls (.int 0 :: st)) : WP l Z hB y bytes ml ret R n1 Q sl H pc Ls (.null :: st) := by
  subst hp
  exact WP.step (fun p e s m args below meth c T locs cells slots C X P tgt h => X.instanceofNull C.1 (g := mkF m pc Ls (.null :: st)) rfl rfl (hb C.2.2.1 hd) _ h) hr
theorem castNull {index : Nat} (hd : decode bytes pc = .ok (.checkcast index, 3)) (hp : pc + 3 = pc') (hr : WP l Z hB y bytes ml ret R n1 Q sl H pc' Ls (.null :: st)) : WP l Z hB y bytes ml ret R n1 Q sl H pc Ls (.null :: st) := by
  subst hp
  exact WP.step (fun p e s m args below meth c T locs cells slots C X P tgt h => X.checkcastNull C.1 (g := mkF m pc Ls (.null :: st)) rfl rfl (hb C.2.2.1 hd) _ h) hr
/-! returns -/
theorem retV {w : Value} {t : FieldType} {i : Instr} (hd : decode bytes pc = .ok (i, 1)) (hret : ret = some t) (hn : narrow t w = w)
    (hi : (i = .ireturn ∧ (t = .int ∨ t = .boolean ∨ t = .byte ∨ t = .char ∨ t = .short) ∧ ∃ z, w = .int z) ∨ (i = .lreturn ∧ t = .long ∧ ∃ z, w = .long z) ∨ (i = .dreturn ∧ t = .double ∧ ∃ z, w = .double z) ∨ (i = .freturn ∧ t = .float ∧ ∃ z, w = .float z) ∨ (i = .areturn ∧ t.isReference = true ∧ w.isRef = true))
    (hc : H.length ≤ n1 + R.cells) (hs : sl ≤ R.slots) (hQ : Q (some w) H) : WP l Z hB y bytes ml ret R n1 Q sl H pc Ls (w :: st) := by
  intro p e s m args below meth c C T locs cells slots X N P hs'
  have hr := C.2.2.2.2.2.2.1.trans hret
  have hsz := C.2.2.2.2.2.2.2.2
  have hp1 := P.1
  obtain ⟨fs, hl, hrun, hended, hW, hsame⟩ := (exact' X (k := R.cells) (by omega)).leave (v := some w) (fun h => by rw [hr] at h; cases h) C.2.2.2.2.2.2.2.1
  exact ⟨_, _, retOut X C.1 hr hn hi (hb C.2.2.1 hd) hl, hrun, hended, some w, locs, H, rfl, hQ, P, N, ⟨_, rfl⟩, hW, hsame.mono (Nat.le_refl _) (Nat.le_trans hs' hs)⟩
theorem iret {x : Int32} {t : FieldType} (hd : decode bytes pc = .ok (.ireturn, 1)) (hret : ret = some t) (ht : t = .int ∨ t = .boolean ∨ t = .byte ∨ t = .char ∨ t = .short) (hn : narrow t (.int x) = .int x) (hc : H.length ≤ n1 + R.cells) (hs : sl ≤ R.slots) (hQ : Q (some (.int x)) H) : WP l Z hB y bytes ml ret R n1 Q sl H pc Ls (.int x :: st) :=
  retV hd hret hn (Or.inl ⟨rfl, ht, _, rfl⟩) hc hs hQ
theorem iretN {x : Int32} {t : FieldType} (hd : decode bytes pc = .ok (.ireturn, 1)) (hret : ret = some t) (ht : t = .boolean ∨ t = .byte ∨ t = .char ∨ t = .short) (hc : H.length ≤ n1 + R.cells) (hs : sl ≤ R.slots) (hQ : Q (some (.int (nar t x))) H) : WP l Z hB y bytes ml ret R n1 Q sl H pc Ls (.int x :: st) := by
  intro p e s m args below meth c C T locs cells slots X N P hs'
  have hr := C.2.2.2.2.2.2.1.trans hret
  have hsz := C.2.2.2.2.2.2.2.2
  have hp1 := P.1
  obtain ⟨fs, hl, hrun, hended, hW, hsame⟩ := (exact' X (k := R.cells) (by omega)).leave (v := some (.int (nar t x))) (fun h => by rw [hr] at h; cases h) C.2.2.2.2.2.2.2.1
  exact ⟨_, _, retN X C.1 hr ht (hb C.2.2.1 hd) hl, hrun, hended, _, locs, H, rfl, hQ, P, N, ⟨_, rfl⟩, hW, hsame.mono (Nat.le_refl _) (Nat.le_trans hs' hs)⟩
theorem lret {x : Int64} (hd : decode bytes pc = .ok (.lreturn, 1)) (hret : ret = some .long) (hc : H.length ≤ n1 + R.cells) (hs : sl ≤ R.slots) (hQ : Q (some (.long x)) H) : WP l Z hB y bytes ml ret R n1 Q sl H pc Ls (.long x :: st) :=
  retV hd hret rfl (Or.inr (Or.inl ⟨rfl, rfl, _, rfl⟩)) hc hs hQ
theorem aret {w : Value} {t : FieldType} (hd : decode bytes pc = .ok (.areturn, 1)) (hret : ret = some t) (ht : t.isReference = true) (hw : w.isRef = true) (hc : H.length ≤ n1 + R.cells) (hs : sl ≤ R.slots) (hQ : Q (some w) H) : WP l Z hB y bytes ml ret R n1 Q sl H pc Ls (w :: st) :=
  retV hd hret (by rcases ref_cases hw with rfl | ⟨a, rfl⟩ <;> cases t <;> first | rfl | cases ht) (Or.inr (Or.inr (Or.inr (Or.inr ⟨rfl, ht, hw⟩)))) hc hs hQ
theorem vret (hd : decode bytes pc = .ok (.return_, 1)) (hret : ret = none) (hc : H.length ≤ n1 + R.cells) (hs : sl ≤ R.slots) (hQ : Q none H) : WP l Z hB y bytes ml ret R n1 Q sl H pc Ls [] := by
  intro p e s m args below meth c C T locs cells slots X N P hs'
  have hr := C.2.2.2.2.2.2.1.trans hret
  have hsz := C.2.2.2.2.2.2.2.2
  have hp1 := P.1
  obtain ⟨fs, hl, hrun, hended, hW, hsame⟩ := (exact' X (k := R.cells) (by omega)).leave (v := none) (fun _ => rfl) C.2.2.2.2.2.2.2.1
  exact ⟨_, _, X.returnOut C.1 hr (hb C.2.2.1 hd) hl, hrun, hended, none, locs, H, rfl, hQ, P, N, ⟨_, rfl⟩, hW, hsame.mono (Nat.le_refl _) (Nat.le_trans hs' hs)⟩
/-! calls -/
section Calls
variable {y' z' : MethodName} {bytes' : ByteArray} {ml' : Nat} {ret' : Option FieldType} {rm : Room} {Q' : Option Value → List Rec → Prop} {index : Nat} {argsL st0 : List Value}
theorem mkBack {p : Program} {e : Env} {s : State} {args : Array Value} {below : List Frame} {h : Heap} {len W : Nat} {as' : Array Value} (hC : Ctr l Z hB y' bytes' ml' ret' [] rm as' H Q') (P : Hp Z hB h H) (hZ : Z.Warmed39 s.vm) (w4 : (Jvm.Cond.code y' bytes' ml' ret').before a0 Z = true) (w3 : (Jvm.Cond.initialized y'.cls).before a0 Z = true) (hfr : rm.frames + 1 ≤ R.frames) (hlo : W + (ml' + 11) + rm.locals ≤ R.locals) :
    Back l R p e below s args y' len W (fun A a => a = as' ∧ A.U.heap = h ∧ A.cells + rm.cells ≤ R.cells ∧ A.slots + rm.slots ≤ R.slots)
      (fun A _ v B => ∃ L, (∃ H', Q' v H' ∧ Hp Z hB B.U.heap H' ∧ Fr hB.size L) ∧ B.locs = A.locs ++ L ∧ B.cells = A.cells + rm.cells ∧ B.slots = A.slots + rm.slots) :=
  backOf (Q := fun v h L => ∃ H', Q' v H' ∧ Hp Z hB h H' ∧ Fr hB.size L) (MetFree.mono hC (fun a s h => ⟨h.1, h.2.1, by rw [h.2.2]; exact P⟩) (fun _ _ _ _ _ h => h) (fun a s o s' _ ⟨v, L, H', h1, h2, h3, h4, h5⟩ => ⟨v, L, h1, ⟨H', h2, h3, h4⟩, h5⟩)) hZ w4 w3 hfr hlo
theorem callS (hd : decode bytes pc = .ok (.invokestatic index, 3)) (w1 : (Jvm.Cond.methodLink y.cls index y').before a0 Z = true) (w2 : (Jvm.Cond.static y').before a0 Z = true) (w3 : (Jvm.Cond.initialized y'.cls).before a0 Z = true) (w4 : (Jvm.Cond.code y' bytes' ml' ret').before a0 Z = true) (hy : y'.cls ≠ "java/lang/invoke/MethodHandle" ∧ y'.cls ≠ "java/lang/invoke/VarHandle") (hlen : ∀ sig, parseMethodDescriptor y'.desc = some sig → argsL.length = sig.parameters.length)
    (hC : Ctr l Z hB y' bytes' ml' ret' [] rm argsL.toArray H Q') (hml : Ls.size = ml) (hfr : rm.frames + 1 ≤ R.frames) (hlo : (st.map fun v => v.category).sum + (ml' + 11) + rm.locals ≤ R.locals) (hcl : H.length + rm.cells ≤ n1 + R.cells) (hsl : sl + rm.slots ≤ R.slots) (hst : argsL.reverse ++ st = st0) (hp : pc + 3 = pc')
    (hr : ∀ v H', Q' v H' → WP l Z hB y bytes ml ret R n1 Q (sl + rm.slots) H' pc' Ls (v.toList ++ st)) : WP l Z hB y bytes ml ret R n1 Q sl H pc Ls st0 := by
  subst hp; subst hst
  intro p e s m args below meth c C T locs cells slots X N P hs
  have hsz := C.2.2.2.2.2.2.2.2
  have hp1 := P.1
  have hz : T.heap.size = s.heap.size + (T.heap.size - s.heap.size) := by have := X.same.2.1; have : s.heap.size ≤ T.heap.size := this; omega
  obtain ⟨v, vm1, ⟨U', ls, cc, ss⟩, -, X', ⟨L, hq, e1, e2, e3⟩, stp⟩ := Jvm.LawKit.callS (exact' X (Nat.le_of_eq hz)) C.1 (y := y') C.2.2.2.2.1 (mvT C.2.1 w1) (mvT C.2.1 w2) (mvT C.2.1 w3) (mvT C.2.1 w4) hy (mkBack (W := (st.map fun v => v.category).sum) hC P C.2.1 w4 w3 hfr hlo) (g := mkF m pc Ls (argsL.reverse ++ st)) rfl (hml.trans C.2.2.2.1.symm) (argsL := argsL) (rest := st) hlen rfl (by show 2 * 0 + _ ≤ _; omega) (hb C.2.2.1 hd) (fun _ _ => ⟨rfl, rfl, by show T.heap.size - s.heap.size + _ ≤ _; omega, by show slots + _ ≤ _; omega⟩)
  dsimp only [Pt.U, Pt.locs, Pt.cells, Pt.slots] at X' e1 e2 e3 stp hq
  subst e1 e2 e3
  obtain ⟨H', q1, q2, q3⟩ := hq
  obtain ⟨U, o, h1, h2⟩ := hr v H' q1 p e s m args below meth c C U' _ _ _ X' (Fr.app N q3) q2 (by omega)
  exact ⟨U, o, stp U h1, h2⟩
theorem callI {a : Addr} (hd : decode bytes pc = .ok (.invokespecial index, 3)) (hy1 : y'.name = "<init>") (w1 : (Jvm.Cond.methodLink y.cls index y').before a0 Z = true) (w2 : (Jvm.Cond.instanceMethod y').before a0 Z = true) (w3 : (Jvm.Cond.initialized y'.cls).before a0 Z = true) (w4 : (Jvm.Cond.code y' bytes' ml' none).before a0 Z = true) (hy : y'.cls ≠ "java/lang/invoke/MethodHandle" ∧ y'.cls ≠ "java/lang/invoke/VarHandle") (hlen : ∀ sig, parseMethodDescriptor y'.desc = some sig → argsL.length = sig.parameters.length)
    (hC : Ctr l Z hB y' bytes' ml' none [] rm (.ref a :: argsL).toArray H Q') (hml : Ls.size = ml) (hfr : rm.frames + 1 ≤ R.frames) (hlo : (st.map fun v => v.category).sum + (ml' + 11) + rm.locals ≤ R.locals) (hcl : H.length + rm.cells ≤ n1 + R.cells) (hsl : sl + rm.slots ≤ R.slots) (hst : argsL.reverse ++ .ref a :: st = st0) (hp : pc + 3 = pc')
    (hr : ∀ v H', Q' v H' → WP l Z hB y bytes ml ret R n1 Q (sl + rm.slots) H' pc' Ls (v.toList ++ st)) : WP l Z hB y bytes ml ret R n1 Q sl H pc Ls st0 := by
  subst hp; subst hst
  intro p e s m args below meth c C T locs cells slots X N P hs
  have hsz := C.2.2.2.2.2.2.2.2
  have hp1 := P.1
  have hz : T.heap.size = s.heap.size + (T.heap.size - s.heap.size) := by have := X.same.2.1; have : s.heap.size ≤ T.heap.size := this; omega
  obtain ⟨v, vm1, ⟨U', ls, cc, ss⟩, -, X', ⟨L, hq, e1, e2, e3⟩, stp⟩ := (exact' X (Nat.le_of_eq hz)).specialBack C.1 (y := y') hy1 C.2.2.2.2.1 (mvT C.2.1 w1) (mvT C.2.1 w2) (mvT C.2.1 w4) hy (mkBack (W := (st.map fun v => v.category).sum) hC P C.2.1 w4 w3 hfr hlo) (g := mkF m pc Ls (argsL.reverse ++ .ref a :: st)) rfl (hml.trans C.2.2.2.1.symm) (Steps.refl _) (a := a) (argsL := argsL) (rest := st) hlen rfl (by show 2 * 0 + _ ≤ _; omega) (hb C.2.2.1 hd) (fun _ _ => ⟨rfl, rfl, by show T.heap.size - s.heap.size + _ ≤ _; omega, by show slots + _ ≤ _; omega⟩)
  dsimp only [Pt.U, Pt.locs, Pt.cells, Pt.slots] at X' e1 e2 e3 stp hq
  subst e1 e2 e3
  obtain ⟨H', q1, q2, q3⟩ := hq
  obtain ⟨U, o, h1, h2⟩ := hr v H' q1 p e s m args below meth c C U' _ _ _ X' (Fr.app N q3) q2 (by omega)
  exact ⟨U, o, stp.trans h1, h2⟩
theorem nfSel {C : String} (w : (Jvm.Cond.selects C y' y').before a0 Z = true) : ∀ s : State, Z.Warmed39 s.vm → NotFace s y' := fun s hZ => notFace_of_selects (args := #[]) (mvT hZ w)
theorem callV {a : Addr} {C : String} (hd : decode bytes pc = .ok (.invokevirtual index, 3)) (w1 : (Jvm.Cond.methodLink y.cls index y').before a0 Z = true) (w2 : (Jvm.Cond.declares y').before a0 Z = true) (hnf : ∀ s : State, Z.Warmed39 s.vm → NotFace s y') (w5 : (Jvm.Cond.selects C y' z').before a0 Z = true) (w6 : (Jvm.Cond.instanceMethod z').before a0 Z = true) (w3 : (Jvm.Cond.initialized z'.cls).before a0 Z = true) (w4 : (Jvm.Cond.code z' bytes' ml' ret').before a0 Z = true) (hy : y'.cls ≠ "java/lang/invoke/MethodHandle" ∧ y'.cls ≠ "java/lang/invoke/VarHandle") (hlen : ∀ sig, parseMethodDescriptor y'.desc = some sig → argsL.length = sig.parameters.length)
    (E : ∀ h, Hp Z hB h H → Exa Z h a C) (hC : Ctr l Z hB z' bytes' ml' ret' [] rm (.ref a :: argsL).toArray H Q') (hml : Ls.size = ml) (hfr : rm.frames + 1 ≤ R.frames) (hlo : (st.map fun v => v.category).sum + (ml' + 11) + rm.locals ≤ R.locals) (hcl : H.length + rm.cells ≤ n1 + R.cells) (hsl : sl + rm.slots ≤ R.slots) (hst : argsL.reverse ++ .ref a :: st = st0) (hp : pc + 3 = pc')
    (hr : ∀ v H', Q' v H' → WP l Z hB y bytes ml ret R n1 Q (sl + rm.slots) H' pc' Ls (v.toList ++ st)) : WP l Z hB y bytes ml ret R n1 Q sl H pc Ls st0 := by
  subst hp; subst hst
  intro p e s m args below meth c C' T locs cells slots X N P hs
  have hsz := C'.2.2.2.2.2.2.2.2
  have hp1 := P.1
  have hz : T.heap.size = s.heap.size + (T.heap.size - s.heap.size) := by have := X.same.2.1; have : s.heap.size ≤ T.heap.size := this; omega
  obtain ⟨cq, kq, qa, qb, qc⟩ := isOf (s := s) (T := T) C'.2.1 rfl (E _ P)
  obtain ⟨v, vm1, ⟨U', ls, cc, ss⟩, -, X', ⟨L, hq, e1, e2, e3⟩, stp⟩ := (exact' X (Nat.le_of_eq hz)).virtualBack C'.1 (y := y') (z := z') C'.2.2.2.2.1 (mvT C'.2.1 w1) (mvT C'.2.1 w2) (hnf s C'.2.1) (mvT C'.2.1 w5) (mvT C'.2.1 w6) hy (mkBack (W := (st.map fun v => v.category).sum) hC P C'.2.1 w4 w3 hfr hlo) qa qc (g := mkF m pc Ls (argsL.reverse ++ .ref a :: st)) rfl (hml.trans C'.2.2.2.1.symm) (Steps.refl _) (argsL := argsL) (rest := st) hlen rfl (by show 2 * 0 + _ ≤ _; omega) (hb C'.2.2.1 hd) (fun _ _ => ⟨rfl, rfl, by show T.heap.size - s.heap.size + _ ≤ _; omega, by show slots + _ ≤ _; omega⟩)
  dsimp only [Pt.U, Pt.locs, Pt.cells, Pt.slots] at X' e1 e2 e3 stp hq
  subst e1 e2 e3
  obtain ⟨H', q1, q2, q3⟩ := hq
  obtain ⟨U, o, h1, h2⟩ := hr v H' q1 p e s m args below meth c C' U' _ _ _ X' (Fr.app N q3) q2 (by omega)
  exact ⟨U, o, stp.trans h1, h2⟩
/-- through a subclass's name: the class 'owner' declares it -/
theorem callU {a : Addr} {C owner : String} (hd : decode bytes pc = .ok (.invokevirtual index, 3)) (w1 : (Jvm.Cond.methodLink y.cls index y').before a0 Z = true) (w7 : (Jvm.Cond.sameMethod y'.cls owner y'.name y'.desc).before a0 Z = true) (w2 : (Jvm.Cond.declares ⟨owner, y'.name, y'.desc⟩).before a0 Z = true) (w5 : (Jvm.Cond.selects C y' z').before a0 Z = true) (w6 : (Jvm.Cond.instanceMethod z').before a0 Z = true) (w3 : (Jvm.Cond.initialized z'.cls).before a0 Z = true) (w4 : (Jvm.Cond.code z' bytes' ml' ret').before a0 Z = true) (hy : owner ≠ "java/lang/invoke/MethodHandle" ∧ owner ≠ "java/lang/invoke/VarHandle") (hlen : ∀ sig, parseMethodDescriptor y'.desc = some sig → argsL.length = sig.parameters.length)
    (E : ∀ h, Hp Z hB h H → Exa Z h a C) (hC : Ctr l Z hB z' bytes' ml' ret' [] rm (.ref a :: argsL).toArray H Q') (hml : Ls.size = ml) (hfr : rm.frames + 1 ≤ R.frames) (hlo : (st.map fun v => v.category).sum + (ml' + 11) + rm.locals ≤ R.locals) (hcl : H.length + rm.cells ≤ n1 + R.cells) (hsl : sl + rm.slots ≤ R.slots) (hst : argsL.reverse ++ .ref a :: st = st0) (hp : pc + 3 = pc')
    (hr : ∀ v H', Q' v H' → WP l Z hB y bytes ml ret R n1 Q (sl + rm.slots) H' pc' Ls (v.toList ++ st)) : WP l Z hB y bytes ml ret R n1 Q sl H pc Ls st0 := by
  subst hp; subst hst
  intro p e s m args below meth c C' T locs cells slots X N P hs
  have hsz := C'.2.2.2.2.2.2.2.2
  have hp1 := P.1
  have hz : T.heap.size = s.heap.size + (T.heap.size - s.heap.size) := by have := X.same.2.1; have : s.heap.size ≤ T.heap.size := this; omega
  obtain ⟨cq, kq, qa, qb, qc⟩ := isOf (s := s) (T := T) C'.2.1 rfl (E _ P)
  obtain ⟨v, vm1, ⟨U', ls, cc, ss⟩, -, X', ⟨L, hq, e1, e2, e3⟩, stp⟩ := (exact' X (Nat.le_of_eq hz)).virtualBackUp C'.1 (x := y') (y := z') C'.2.2.2.2.1 (mvT C'.2.1 w1) (mvT C'.2.1 w7) (mvT C'.2.1 w2) hy (mvT C'.2.1 w5) (mvT C'.2.1 w6) (mkBack (W := (st.map fun v => v.category).sum) hC P C'.2.1 w4 w3 hfr hlo) qa qc (g := mkF m pc Ls (argsL.reverse ++ .ref a :: st)) rfl (hml.trans C'.2.2.2.1.symm) (Steps.refl _) (argsL := argsL) (rest := st) hlen rfl (by show 2 * 0 + _ ≤ _; omega) (hb C'.2.2.1 hd) (fun _ _ => ⟨rfl, rfl, by show T.heap.size - s.heap.size + _ ≤ _; omega, by show slots + _ ≤ _; omega⟩)
  dsimp only [Pt.U, Pt.locs, Pt.cells, Pt.slots] at X' e1 e2 e3 stp hq
  subst e1 e2 e3
  obtain ⟨H', q1, q2, q3⟩ := hq
  obtain ⟨U, o, h1, h2⟩ := hr v H' q1 p e s m args below meth c C' U' _ _ _ X' (Fr.app N q3) q2 (by omega)
  exact ⟨U, o, stp.trans h1, h2⟩
/-- a private method, by invokevirtual -/
theorem callP {a : Addr} {C : String} (hd : decode bytes pc = .ok (.invokevirtual index, 3)) (w1 : (Jvm.Cond.methodLink y.cls index y').before a0 Z = true) (w6 : (Jvm.Cond.instanceMethod y').before a0 Z = true) (w5 : (Jvm.Cond.selects y'.cls y' y').before a0 Z = true) (w8 : (Jvm.Cond.privateMethod y').before a0 Z = true) (w3 : (Jvm.Cond.initialized y'.cls).before a0 Z = true) (w4 : (Jvm.Cond.code y' bytes' ml' ret').before a0 Z = true) (hy : y'.cls ≠ "java/lang/invoke/MethodHandle" ∧ y'.cls ≠ "java/lang/invoke/VarHandle") (hlen : ∀ sig, parseMethodDescriptor y'.desc = some sig → argsL.length = sig.parameters.length)
    (E : ∀ h, Hp Z hB h H → Exa Z h a C) (hC : Ctr l Z hB y' bytes' ml' ret' [] rm (.ref a :: argsL).toArray H Q') (hml : Ls.size = ml) (hfr : rm.frames + 1 ≤ R.frames) (hlo : (st.map fun v => v.category).sum + (ml' + 11) + rm.locals ≤ R.locals) (hcl : H.length + rm.cells ≤ n1 + R.cells) (hsl : sl + rm.slots ≤ R.slots) (hst : argsL.reverse ++ .ref a :: st = st0) (hp : pc + 3 = pc')
    (hr : ∀ v H', Q' v H' → WP l Z hB y bytes ml ret R n1 Q (sl + rm.slots) H' pc' Ls (v.toList ++ st)) : WP l Z hB y bytes ml ret R n1 Q sl H pc Ls st0 := by
  subst hp; subst hst
  intro p e s m args below meth c C' T locs cells slots X N P hs
  have hsz := C'.2.2.2.2.2.2.2.2
  have hp1 := P.1
  have hz : T.heap.size = s.heap.size + (T.heap.size - s.heap.size) := by have := X.same.2.1; have : s.heap.size ≤ T.heap.size := this; omega
  obtain ⟨cq, qa, qb⟩ := (E _ P).cell
  obtain ⟨v, vm1, ⟨U', ls, cc, ss⟩, -, X', ⟨L, hq, e1, e2, e3⟩, stp⟩ := (exact' X (Nat.le_of_eq hz)).privateBack C'.1 (y := y') C'.2.2.2.2.1 (mvT C'.2.1 w1) (mvT C'.2.1 w6) (mvT C'.2.1 w5) (Cond.privateMethod_at (mvP C'.2.1 w8 (args := #[]))) (mvT C'.2.1 w4) hy (mkBack (W := (st.map fun v => v.category).sum) hC P C'.2.1 w4 w3 hfr hlo) (g := mkF m pc Ls (argsL.reverse ++ .ref a :: st)) rfl (hml.trans C'.2.2.2.1.symm) (Steps.refl _) (a := a) qa qb (argsL := argsL) (rest := st) hlen rfl (by show 2 * 0 + _ ≤ _; omega) (hb C'.2.2.1 hd) (fun _ _ => ⟨rfl, rfl, by show T.heap.size - s.heap.size + _ ≤ _; omega, by show slots + _ ≤ _; omega⟩)
  dsimp only [Pt.U, Pt.locs, Pt.cells, Pt.slots] at X' e1 e2 e3 stp hq
  subst e1 e2 e3
  obtain ⟨H', q1, q2, q3⟩ := hq
  obtain ⟨U, o, h1, h2⟩ := hr v H' q1 p e s m args below meth c C' U' _ _ _ X' (Fr.app N q3) q2 (by omega)
  exact ⟨U, o, stp.trans h1, h2⟩
theorem callF {a : Addr} {C : String} {count : Nat} (hfa : (Jvm.Cond.interfaceMethod y'.cls y'.cls y'.name y'.desc).faceAtom = true) (hd : decode bytes pc = .ok (.invokeinterface index count, 5)) (w1 : (Jvm.Cond.methodLink y.cls index y').before a0 Z = true) (w2 : (Jvm.Cond.declares y').before a0 Z = true) (wf : (Jvm.Cond.interfaceMethod y'.cls y'.cls y'.name y'.desc).before a0 Z = true) (w5 : (Jvm.Cond.selects C y' z').before a0 Z = true) (w6 : (Jvm.Cond.instanceMethod z').before a0 Z = true) (wp : (Jvm.Cond.publicMethod z').before a0 Z = true) (wu : (Jvm.Cond.unhidden C y'.name y'.desc).before a0 Z = true) (wc : (Jvm.Cond.castable C y'.cls).before a0 Z = true) (w3 : (Jvm.Cond.initialized z'.cls).before a0 Z = true) (w4 : (Jvm.Cond.code z' bytes' ml' ret').before a0 Z = true) (hy : y'.cls ≠ "java/lang/invoke/MethodHandle" ∧ y'.cls ≠ "java/lang/invoke/VarHandle") (hlen : ∀ sig, parseMethodDescriptor y'.desc = some sig → argsL.length = sig.parameters.length)
    (E : ∀ h, Hp Z hB h H → Exa Z h a C) (hC : Ctr l Z hB z' bytes' ml' ret' [] rm (.ref a :: argsL).toArray H Q') (hml : Ls.size = ml) (hfr : rm.frames + 1 ≤ R.frames) (hlo : (st.map fun v => v.category).sum + (ml' + 11) + rm.locals ≤ R.locals) (hcl : H.length + rm.cells ≤ n1 + R.cells) (hsl : sl + rm.slots ≤ R.slots) (hst : argsL.reverse ++ .ref a :: st = st0) (hp : pc + 5 = pc')
    (hr : ∀ v H', Q' v H' → WP l Z hB y bytes ml ret R n1 Q (sl + rm.slots) H' pc' Ls (v.toList ++ st)) : WP l Z hB y bytes ml ret R n1 Q sl H pc Ls st0 := by
  subst hp; subst hst
  intro p e s m args below meth c C' T locs cells slots X N P hs
  have hsz := C'.2.2.2.2.2.2.2.2
  have hp1 := P.1
  have hz : T.heap.size = s.heap.size + (T.heap.size - s.heap.size) := by have := X.same.2.1; have : s.heap.size ≤ T.heap.size := this; omega
  obtain ⟨cq, kq, qa, qb, qc⟩ := isOf (s := s) (T := T) C'.2.1 rfl (E _ P)
  obtain ⟨v, vm1, ⟨U', ls, cc, ss⟩, -, X', ⟨L, hq, e1, e2, e3⟩, stp⟩ := (exact' X (Nat.le_of_eq hz)).interfaceBack C'.1 (xi := y') (y := z') C'.2.2.2.2.1 (mvT C'.2.1 w1) (mvT C'.2.1 w2) (mvT C'.2.1 wf (by simp [Cond.onTables, Cond.keepsFace, Cond.keeps, Cond.steady, hfa])) (mvT C'.2.1 w5) (mvT C'.2.1 w6) (mvT C'.2.1 wp) (mvT C'.2.1 wu) (mvT C'.2.1 wc) hy (mkBack (W := (st.map fun v => v.category).sum) hC P C'.2.1 w4 w3 hfr hlo) qa qb qc (g := mkF m pc Ls (argsL.reverse ++ .ref a :: st)) rfl (hml.trans C'.2.2.2.1.symm) (Steps.refl _) (argsL := argsL) (rest := st) hlen rfl (by show 2 * 0 + _ ≤ _; omega) (hb C'.2.2.1 hd) (fun _ _ => ⟨rfl, rfl, by show T.heap.size - s.heap.size + _ ≤ _; omega, by show slots + _ ≤ _; omega⟩)
  dsimp only [Pt.U, Pt.locs, Pt.cells, Pt.slots] at X' e1 e2 e3 stp hq
  subst e1 e2 e3
  obtain ⟨H', q1, q2, q3⟩ := hq
  obtain ⟨U, o, h1, h2⟩ := hr v H' q1 p e s m args below meth c C' U' _ _ _ X' (Fr.app N q3) q2 (by omega)
  exact ⟨U, o, stp.trans h1, h2⟩
end Calls
theorem gsE {H : List Rec} {i : Nat} {r r' : Rec} (h : H[i]? = some r) : (H.set i r')[i]? = some r' := by
  have := (List.getElem?_eq_some_iff.mp h).1
  simp [List.getElem?_set, this]
theorem gsN {H : List Rec} {i j : Nat} {r r' : Rec} (hn : j ≠ i) (h : H[i]? = some r) : (H.set j r')[i]? = some r := by rw [List.getElem?_set_ne hn]; exact h
theorem gaL {H : List Rec} {i : Nat} {r r' : Rec} (h : H[i]? = some r) : (H ++ [r'])[i]? = some r := by
  have := (List.getElem?_eq_some_iff.mp h).1
  rw [List.getElem?_append_left this]; exact h
theorem gaR {H : List Rec} {i : Nat} {r : Rec} (h : H.length = i) : (H ++ [r])[i]? = some r := by subst h; simp
theorem saR {H : List Rec} {a b : Rec} : (H ++ [a]).set H.length b = H ++ [b] := by simp
theorem distK {C : String} {ks : List Key} (hl : ∀ (i : Nat) (k : Key), ks[i]? = some k → Laid Z a0 C k.1 k.2.1 k.2.2) (hn : (ks.map fun k => k.2.1).Nodup) (hd : (ks.all fun k => (parseFieldDescriptor k.2.2).isSome) = true) : ∀ (i j : Nat) (k k' : Key), ks[i]? = some k → ks[j]? = some k' → i ≠ j → kslot Z k ≠ kslot Z k' := by
  intro i j k k' h1 h2 hne
  obtain ⟨l1, g1⟩ := List.getElem?_eq_some_iff.mp h1
  obtain ⟨l2, g2⟩ := List.getElem?_eq_some_iff.mp h2
  have p1 := List.all_eq_true.mp hd k (List.mem_of_getElem? h1)
  have p2 := List.all_eq_true.mp hd k' (List.mem_of_getElem? h2)
  obtain ⟨t1, q1⟩ := Option.isSome_iff_exists.mp p1
  obtain ⟨t2, q2⟩ := Option.isSome_iff_exists.mp p2
  refine slot_ne (hl i k h1) (hl j k' h2) (fun e => hne ?_) q1 q2
  have hp := List.pairwise_iff_getElem.mp hn
  rcases Nat.lt_trichotomy i j with z | z | z
  · exact (hp i j (by simpa using l1) (by simpa using l2) z (by rw [List.getElem_map, List.getElem_map, g1, g2, e])).elim
  · exact z
  · exact (hp j i (by simpa using l2) (by simpa using l1) z (by rw [List.getElem_map, List.getElem_map, g1, g2, e])).elim
end Walk
section Start
variable {args : Array Value} {Z : State}
theorem exaOf {t : Term} {C : String} (h : (Jvm.Cond.exactly t C).value args Z none Z [] = some true) : ∃ a, t.eval args Z none [] Z = some (.ref a) ∧ Exa Z Z.heap a C := by
  obtain ⟨a, ha⟩ := exa_v h
  exact ⟨a, ha, Exa.start ha h⟩
theorem fldInt {t : Term} {C n d : String} {a : Addr} {k : Int32} (ha : t.eval args Z none [] Z = some (.ref a)) (h : (Jvm.Cond.eq (.field t C n d) (.int k)).value args Z none Z [] = some true) : Fld Z Z.heap a C n d (.int k) := by
  have e : (Term.field t C n d).eval args Z none [] Z = Z.fieldOf? a C n d := fld_at ha
  cases hf : Z.fieldOf? a C n d with
  | none => simp [Cond.value, e, hf] at h
  | some v =>
    have q : v = .int k := by cases v <;> simp [Cond.value, e, hf] at h <;> simp [Term.eval] at h; rw [h]
    exact q ▸ Fld.start hf
theorem subF {first s : State} {o : Option Outcome} {idx : List Nat} {a b : Term} {x y : Int32} (ha : a.eval args first o idx s = some (.int x)) (hb : b.eval args first o idx s = some (.int y)) : (Term.sub a b).eval args first o idx s = some (.int (x - y)) := by simp [Term.eval, ha, hb]
theorem lenOfT {t : Term} {a : Addr} {cl : Cell} {k : Int32} (ht : t.eval args Z none [] Z = some (.ref a)) (ha : Z.arrayAt? a = some cl) (h : (Jvm.Cond.eq (.length t) (.int k)).value args Z none Z [] = some true) : cl.slots.size < 2 ^ 31 ∧ cl.slots.size.toInt32 = k := by
  have e := eqv_i (show (Term.int k).eval args Z none [] Z = some (.int k) from rfl) h
  by_cases hl : cl.slots.size < 2 ^ 31
  · exact ⟨hl, Value.int.inj (Option.some.inj ((len_f ht ha hl).symm.trans e))⟩
  · simp [Term.eval, ht, ha] at e; omega
theorem elemI {t : Term} {a : Addr} {cl : Cell} {j k : Int32} (ht : t.eval args Z none [] Z = some (.ref a)) (ha : Z.arrayAt? a = some cl) (hj : ¬ j < 0) (h : (Jvm.Cond.eq (.elem t (.int j)) (.int k)).value args Z none Z [] = some true) : cl.slots[j.toNatClampNeg]? = some (.int k) :=
  (elem_f (a := .int j) ht (show (Term.int j).eval args Z none [] Z = some (.int j) from rfl) ha hj).symm.trans (eqv_i (show (Term.int k).eval args Z none [] Z = some (.int k) from rfl) h)
theorem nsRoot {a0 : Array Value} {O K : String} {n : Nat} (w : (Jvm.Cond.noSuperclass O).before a0 Z = true) (wi : (Jvm.Cond.instantiable K n).before a0 Z = true) (hn : O ≠ K) : NS Z O K := by
  obtain ⟨c, k, h1, h2, h3, -, -⟩ := Cond.noSuperclass_spec w
  obtain ⟨t, kt, g1, -⟩ := Cond.instantiable_spec wi
  have ne := ids_ne h1 g1 hn
  refine ⟨c, t, h1, g1, fun fuel => ?_⟩
  cases fuel with
  | zero => rfl
  | succ f => simp [Vm.isSubclassAux, ne, h2, h3]
theorem nsNo {a0 : Array Value} {C S K : String} {n : Nat} (w : (Jvm.Cond.superclass C S).before a0 Z = true) (wi : (Jvm.Cond.instantiable K n).before a0 Z = true) (q : NS Z C K) (hn : C ≠ K) : ∃ c t, Z.vm.findClass C = some c ∧ Z.vm.findClass K = some t ∧ Z.vm.assignable c t = false := by
  obtain ⟨c, t, h0, g0, n3⟩ := q
  obtain ⟨p, k, kp, h1, h2, h3, h4, h5, -, h7⟩ := Cond.superclass_spec h0 w
  obtain ⟨t', kt, g1, g2, g3, g4, -⟩ := Cond.instantiable_spec wi
  cases g0.symm.trans g1
  have ne := ids_ne h0 g0 hn
  simp only [Bool.or_eq_false_iff] at g4
  refine ⟨c, t, h0, g0, ?_⟩
  show Z.vm.assignableAux (255 + 1) c t = false
  simp [Vm.assignableAux, ne, h2, g2, h5, g3, g4.1, Vm.isSubclass, n3]
end Start
end Jvm.Wk
namespace Jvm.Pilot.@@N@@
open Jvm Jvm.ClassFile Sem Op Lib Jvm.Free Jvm.Stand Jvm.LawKit Jvm.RoadKit Bundle Jvm.Pilot.@@N@@.Jvm.D
open Jvm.Wk (obj arr ints longs rf Rec Key kslot RecAt Hp WP Ctr gsE gsN gaL gaR distK)
theorem pn_0 : plainFor ({ cls := "java/lang/Math", name := "min", desc := "(II)I" } : Jvm.MethodName) = true := by first | decide +kernel | exact plainFor_of_name (by first | (simp [plainName, overriddenIn]; done) | decide +kernel)
theorem pn_1 : plainFor ({ cls := "com/example/redoubt/redoubt/flow/FlowNetwork", name := "checkNode", desc := "(I)V" } : Jvm.MethodName) = true := by first | decide +kernel | exact plainFor_of_name (by first | (simp [plainName, overriddenIn]; done) | decide +kernel)
theorem pn_2 : plainFor ({ cls := "com/example/redoubt/redoubt/flow/FlowNetwork", name := "checkCapacity", desc := "(I)V" } : Jvm.MethodName) = true := by first | decide +kernel | exact plainFor_of_name (by first | (simp [plainName, overriddenIn]; done) | decide +kernel)
theorem pn_3 : plainFor ({ cls := "com/example/redoubt/redoubt/flow/FlowNetwork", name := "checkCost", desc := "(J)V" } : Jvm.MethodName) = true := by first | decide +kernel | exact plainFor_of_name (by first | (simp [plainName, overriddenIn]; done) | decide +kernel)
theorem pn_4 : plainFor ({ cls := "com/example/redoubt/redoubt/flow/FlowNetwork", name := "checkArc", desc := "(I)V" } : Jvm.MethodName) = true := by first | decide +kernel | exact plainFor_of_name (by first | (simp [plainName, overriddenIn]; done) | decide +kernel)
theorem pn_5 : plainFor ({ cls := "com/example/redoubt/redoubt/flow/FlowNetwork", name := "flow", desc := "(I)I" } : Jvm.MethodName) = true := by first | decide +kernel | exact plainFor_of_name (by first | (simp [plainName, overriddenIn]; done) | decide +kernel)
theorem pn_6 : plainFor ({ cls := "com/example/redoubt/redoubt/flow/FlowNetwork", name := "<init>", desc := "(I)V" } : Jvm.MethodName) = true := by first | decide +kernel | exact plainFor_of_name (by first | (simp [plainName, overriddenIn]; done) | decide +kernel)
theorem pn_7 : plainFor ({ cls := "com/example/redoubt/redoubt/flow/FlowNetwork", name := "addArc", desc := "(IIIJ)I" } : Jvm.MethodName) = true := by first | decide +kernel | exact plainFor_of_name (by first | (simp [plainName, overriddenIn]; done) | decide +kernel)
theorem pn_8 : plainFor ({ cls := "com/example/redoubt/redoubt/flow/FlowNetwork", name := "addArc", desc := "(III)I" } : Jvm.MethodName) = true := by first | decide +kernel | exact plainFor_of_name (by first | (simp [plainName, overriddenIn]; done) | decide +kernel)
theorem pn_9 : plainFor ({ cls := "com/example/redoubt/redoubt/flow/FlowNetwork", name := "residual", desc := "(I)I" } : Jvm.MethodName) = true := by first | decide +kernel | exact plainFor_of_name (by first | (simp [plainName, overriddenIn]; done) | decide +kernel)
theorem pn_10 : plainFor ({ cls := "com/example/redoubt/redoubt/flow/FlowNetwork", name := "climbs", desc := "(I[I)Z" } : Jvm.MethodName) = true := by first | decide +kernel | exact plainFor_of_name (by first | (simp [plainName, overriddenIn]; done) | decide +kernel)
theorem pn_11 : plainFor ({ cls := "java/util/Arrays", name := "fill", desc := "([II)V" } : Jvm.MethodName) = true := by first | decide +kernel | exact plainFor_of_name (by first | (simp [plainName, overriddenIn]; done) | decide +kernel)
theorem pn_12 : plainFor ({ cls := "com/example/redoubt/redoubt/flow/FlowNetwork", name := "levelFromSource", desc := "(II[I)Z" } : Jvm.MethodName) = true := by first | decide +kernel | exact plainFor_of_name (by first | (simp [plainName, overriddenIn]; done) | decide +kernel)
theorem pn_13 : plainFor ({ cls := "com/example/redoubt/redoubt/flow/FlowNetwork", name := "blockingFlow", desc := "(II[I[I[I)V" } : Jvm.MethodName) = true := by first | decide +kernel | exact plainFor_of_name (by first | (simp [plainName, overriddenIn]; done) | decide +kernel)
theorem pn_14 : plainFor ({ cls := "com/example/redoubt/redoubt/flow/FlowNetwork", name := "outflow", desc := "(I)J" } : Jvm.MethodName) = true := by first | decide +kernel | exact plainFor_of_name (by first | (simp [plainName, overriddenIn]; done) | decide +kernel)
theorem pn_15 : plainFor ({ cls := "com/example/redoubt/redoubt/flow/FlowNetwork", name := "prepare", desc := "(II)V" } : Jvm.MethodName) = true := by first | decide +kernel | exact plainFor_of_name (by first | (simp [plainName, overriddenIn]; done) | decide +kernel)
theorem pn_16 : plainFor ({ cls := "com/example/redoubt/redoubt/flow/FlowNetwork", name := "groupBySource", desc := "()[[I" } : Jvm.MethodName) = true := by first | decide +kernel | exact plainFor_of_name (by first | (simp [plainName, overriddenIn]; done) | decide +kernel)
theorem pn_17 : plainFor ({ cls := "com/example/redoubt/redoubt/flow/FlowNetwork", name := "maxFlow", desc := "(II)J" } : Jvm.MethodName) = true := by first | decide +kernel | exact plainFor_of_name (by first | (simp [plainName, overriddenIn]; done) | decide +kernel)
theorem pn_18 : plainFor ({ cls := "com/example/redoubt/redoubt/flow/FlowNetworkFlowPinLaw", name := "law", desc := "(IIII)Z" } : Jvm.MethodName) = true := by first | decide +kernel | exact plainFor_of_name (by first | (simp [plainName, overriddenIn]; done) | decide +kernel)
theorem pd_0 : parseMethodDescriptor "(I)V" = some ⟨[.int], none⟩ := by decide +kernel
theorem pd_1 : parseMethodDescriptor "(J)V" = some ⟨[.long], none⟩ := by decide +kernel
theorem pd_2 : parseMethodDescriptor "(IIIJ)I" = some ⟨[.int, .int, .int, .long], some .int⟩ := by decide +kernel
theorem pd_3 : parseMethodDescriptor "(I)I" = some ⟨[.int], some .int⟩ := by decide +kernel
theorem pd_4 : parseMethodDescriptor "([II)V" = some ⟨[(.array .int), .int], none⟩ := by decide +kernel
theorem pd_5 : parseMethodDescriptor "(II)I" = some ⟨[.int, .int], some .int⟩ := by decide +kernel
theorem pd_6 : parseMethodDescriptor "(I[I)Z" = some ⟨[.int, (.array .int)], some .boolean⟩ := by decide +kernel
theorem pd_7 : parseMethodDescriptor "()[[I" = some ⟨[], some (.array (.array .int))⟩ := by decide +kernel
theorem pd_8 : parseMethodDescriptor "(II[I)Z" = some ⟨[.int, .int, (.array .int)], some .boolean⟩ := by decide +kernel
theorem pd_9 : parseMethodDescriptor "(II[I[I[I)V" = some ⟨[.int, .int, (.array .int), (.array .int), (.array .int)], none⟩ := by decide +kernel
theorem pd_10 : parseMethodDescriptor "(I)J" = some ⟨[.int], some .long⟩ := by decide +kernel
theorem pd_11 : parseMethodDescriptor "(II)V" = some ⟨[.int, .int], none⟩ := by decide +kernel
theorem pd_12 : parseMethodDescriptor "(III)I" = some ⟨[.int, .int, .int], some .int⟩ := by decide +kernel
theorem pd_13 : parseMethodDescriptor "(II)J" = some ⟨[.int, .int], some .long⟩ := by decide +kernel
theorem d0_0 : decode prog_4_method_1_code 0 = .ok (.aload_n 0, 1) := by decide +kernel
theorem d0_1 : decode prog_4_method_1_code 1 = .ok (.invokespecial 1, 3) := by decide +kernel
theorem d0_4 : decode prog_4_method_1_code 4 = .ok (.aload_n 0, 1) := by decide +kernel
theorem d0_5 : decode prog_4_method_1_code 5 = .ok (.bipush 16, 2) := by decide +kernel
theorem d0_7 : decode prog_4_method_1_code 7 = .ok (.newarray .int, 2) := by decide +kernel
theorem d0_9 : decode prog_4_method_1_code 9 = .ok (.putfield 7, 3) := by decide +kernel
theorem d0_12 : decode prog_4_method_1_code 12 = .ok (.aload_n 0, 1) := by decide +kernel
theorem d0_13 : decode prog_4_method_1_code 13 = .ok (.bipush 16, 2) := by decide +kernel
theorem d0_15 : decode prog_4_method_1_code 15 = .ok (.newarray .int, 2) := by decide +kernel
theorem d0_17 : decode prog_4_method_1_code 17 = .ok (.putfield 13, 3) := by decide +kernel
theorem d0_20 : decode prog_4_method_1_code 20 = .ok (.aload_n 0, 1) := by decide +kernel
theorem d0_21 : decode prog_4_method_1_code 21 = .ok (.bipush 16, 2) := by decide +kernel
theorem d0_23 : decode prog_4_method_1_code 23 = .ok (.newarray .int, 2) := by decide +kernel
theorem d0_25 : decode prog_4_method_1_code 25 = .ok (.putfield 16, 3) := by decide +kernel
theorem d0_28 : decode prog_4_method_1_code 28 = .ok (.aload_n 0, 1) := by decide +kernel
theorem d0_29 : decode prog_4_method_1_code 29 = .ok (.bipush 16, 2) := by decide +kernel
theorem d0_31 : decode prog_4_method_1_code 31 = .ok (.newarray .long, 2) := by decide +kernel
theorem d0_33 : decode prog_4_method_1_code 33 = .ok (.putfield 19, 3) := by decide +kernel
theorem d0_36 : decode prog_4_method_1_code 36 = .ok (.iload_n 1, 1) := by decide +kernel
theorem d0_37 : decode prog_4_method_1_code 37 = .ok (.iconst 2, 1) := by decide +kernel
theorem d0_38 : decode prog_4_method_1_code 38 = .ok (.if_icmp .ge 17, 3) := by decide +kernel
theorem d0_55 : decode prog_4_method_1_code 55 = .ok (.aload_n 0, 1) := by decide +kernel
theorem d0_56 : decode prog_4_method_1_code 56 = .ok (.iload_n 1, 1) := by decide +kernel
theorem d0_57 : decode prog_4_method_1_code 57 = .ok (.putfield 32, 3) := by decide +kernel
theorem d0_60 : decode prog_4_method_1_code 60 = .ok (.return_, 1) := by decide +kernel
theorem d2_0 : decode prog_4_method_2_code 0 = .ok (.aload_n 0, 1) := by decide +kernel
theorem d2_1 : decode prog_4_method_2_code 1 = .ok (.iload_n 1, 1) := by decide +kernel
theorem d2_2 : decode prog_4_method_2_code 2 = .ok (.iload_n 2, 1) := by decide +kernel
theorem d2_3 : decode prog_4_method_2_code 3 = .ok (.iload_n 3, 1) := by decide +kernel
theorem d2_4 : decode prog_4_method_2_code 4 = .ok (.lconst 0, 1) := by decide +kernel
theorem d2_5 : decode prog_4_method_2_code 5 = .ok (.invokevirtual 36, 3) := by decide +kernel
theorem d2_8 : decode prog_4_method_2_code 8 = .ok (.ireturn, 1) := by decide +kernel
theorem d3_0 : decode prog_4_method_3_code 0 = .ok (.aload_n 0, 1) := by decide +kernel
theorem d3_1 : decode prog_4_method_3_code 1 = .ok (.iload_n 1, 1) := by decide +kernel
theorem d3_2 : decode prog_4_method_3_code 2 = .ok (.invokevirtual 40, 3) := by decide +kernel
theorem d3_5 : decode prog_4_method_3_code 5 = .ok (.aload_n 0, 1) := by decide +kernel
theorem d3_6 : decode prog_4_method_3_code 6 = .ok (.iload_n 2, 1) := by decide +kernel
theorem d3_7 : decode prog_4_method_3_code 7 = .ok (.invokevirtual 40, 3) := by decide +kernel
theorem d3_10 : decode prog_4_method_3_code 10 = .ok (.iload_n 3, 1) := by decide +kernel
theorem d3_11 : decode prog_4_method_3_code 11 = .ok (.invokestatic 44, 3) := by decide +kernel
theorem d3_14 : decode prog_4_method_3_code 14 = .ok (.lload 4, 2) := by decide +kernel
theorem d3_16 : decode prog_4_method_3_code 16 = .ok (.invokestatic 47, 3) := by decide +kernel
theorem d3_19 : decode prog_4_method_3_code 19 = .ok (.aload_n 0, 1) := by decide +kernel
theorem d3_20 : decode prog_4_method_3_code 20 = .ok (.getfield 51, 3) := by decide +kernel
theorem d3_23 : decode prog_4_method_3_code 23 = .ok (.aload_n 0, 1) := by decide +kernel
theorem d3_24 : decode prog_4_method_3_code 24 = .ok (.getfield 7, 3) := by decide +kernel
theorem d3_27 : decode prog_4_method_3_code 27 = .ok (.arraylength, 1) := by decide +kernel
theorem d3_28 : decode prog_4_method_3_code 28 = .ok (.if_icmp .ne 71, 3) := by decide +kernel
theorem d3_99 : decode prog_4_method_3_code 99 = .ok (.aload_n 0, 1) := by decide +kernel
theorem d3_100 : decode prog_4_method_3_code 100 = .ok (.getfield 7, 3) := by decide +kernel
theorem d3_103 : decode prog_4_method_3_code 103 = .ok (.aload_n 0, 1) := by decide +kernel
theorem d3_104 : decode prog_4_method_3_code 104 = .ok (.getfield 51, 3) := by decide +kernel
theorem d3_107 : decode prog_4_method_3_code 107 = .ok (.iload_n 2, 1) := by decide +kernel
theorem d3_108 : decode prog_4_method_3_code 108 = .ok (.iastore, 1) := by decide +kernel
theorem d3_109 : decode prog_4_method_3_code 109 = .ok (.aload_n 0, 1) := by decide +kernel
theorem d3_110 : decode prog_4_method_3_code 110 = .ok (.getfield 13, 3) := by decide +kernel
theorem d3_113 : decode prog_4_method_3_code 113 = .ok (.aload_n 0, 1) := by decide +kernel
theorem d3_114 : decode prog_4_method_3_code 114 = .ok (.getfield 51, 3) := by decide +kernel
theorem d3_117 : decode prog_4_method_3_code 117 = .ok (.iload_n 3, 1) := by decide +kernel
theorem d3_118 : decode prog_4_method_3_code 118 = .ok (.iastore, 1) := by decide +kernel
theorem d3_119 : decode prog_4_method_3_code 119 = .ok (.aload_n 0, 1) := by decide +kernel
theorem d3_120 : decode prog_4_method_3_code 120 = .ok (.getfield 19, 3) := by decide +kernel
theorem d3_123 : decode prog_4_method_3_code 123 = .ok (.aload_n 0, 1) := by decide +kernel
theorem d3_124 : decode prog_4_method_3_code 124 = .ok (.getfield 51, 3) := by decide +kernel
theorem d3_127 : decode prog_4_method_3_code 127 = .ok (.lload 4, 2) := by decide +kernel
theorem d3_129 : decode prog_4_method_3_code 129 = .ok (.lastore, 1) := by decide +kernel
theorem d3_130 : decode prog_4_method_3_code 130 = .ok (.aload_n 0, 1) := by decide +kernel
theorem d3_131 : decode prog_4_method_3_code 131 = .ok (.getfield 7, 3) := by decide +kernel
theorem d3_134 : decode prog_4_method_3_code 134 = .ok (.aload_n 0, 1) := by decide +kernel
theorem d3_135 : decode prog_4_method_3_code 135 = .ok (.getfield 51, 3) := by decide +kernel
theorem d3_138 : decode prog_4_method_3_code 138 = .ok (.iconst 1, 1) := by decide +kernel
theorem d3_139 : decode prog_4_method_3_code 139 = .ok (.iadd, 1) := by decide +kernel
theorem d3_140 : decode prog_4_method_3_code 140 = .ok (.iload_n 1, 1) := by decide +kernel
theorem d3_141 : decode prog_4_method_3_code 141 = .ok (.iastore, 1) := by decide +kernel
theorem d3_142 : decode prog_4_method_3_code 142 = .ok (.aload_n 0, 1) := by decide +kernel
theorem d3_143 : decode prog_4_method_3_code 143 = .ok (.getfield 19, 3) := by decide +kernel
theorem d3_146 : decode prog_4_method_3_code 146 = .ok (.aload_n 0, 1) := by decide +kernel
theorem d3_147 : decode prog_4_method_3_code 147 = .ok (.getfield 51, 3) := by decide +kernel
theorem d3_150 : decode prog_4_method_3_code 150 = .ok (.iconst 1, 1) := by decide +kernel
theorem d3_151 : decode prog_4_method_3_code 151 = .ok (.iadd, 1) := by decide +kernel
theorem d3_152 : decode prog_4_method_3_code 152 = .ok (.lload 4, 2) := by decide +kernel
theorem d3_154 : decode prog_4_method_3_code 154 = .ok (.lneg, 1) := by decide +kernel
theorem d3_155 : decode prog_4_method_3_code 155 = .ok (.lastore, 1) := by decide +kernel
theorem d3_156 : decode prog_4_method_3_code 156 = .ok (.aload_n 0, 1) := by decide +kernel
theorem d3_157 : decode prog_4_method_3_code 157 = .ok (.dup, 1) := by decide +kernel
theorem d3_158 : decode prog_4_method_3_code 158 = .ok (.getfield 51, 3) := by decide +kernel
theorem d3_161 : decode prog_4_method_3_code 161 = .ok (.iconst 2, 1) := by decide +kernel
theorem d3_162 : decode prog_4_method_3_code 162 = .ok (.iadd, 1) := by decide +kernel
theorem d3_163 : decode prog_4_method_3_code 163 = .ok (.putfield 51, 3) := by decide +kernel
theorem d3_166 : decode prog_4_method_3_code 166 = .ok (.aload_n 0, 1) := by decide +kernel
theorem d3_167 : decode prog_4_method_3_code 167 = .ok (.aconst_null, 1) := by decide +kernel
theorem d3_168 : decode prog_4_method_3_code 168 = .ok (.putfield 63, 3) := by decide +kernel
theorem d3_171 : decode prog_4_method_3_code 171 = .ok (.aload_n 0, 1) := by decide +kernel
theorem d3_172 : decode prog_4_method_3_code 172 = .ok (.getfield 51, 3) := by decide +kernel
theorem d3_175 : decode prog_4_method_3_code 175 = .ok (.iconst 2, 1) := by decide +kernel
theorem d3_176 : decode prog_4_method_3_code 176 = .ok (.idiv, 1) := by decide +kernel
theorem d3_177 : decode prog_4_method_3_code 177 = .ok (.iconst 1, 1) := by decide +kernel
theorem d3_178 : decode prog_4_method_3_code 178 = .ok (.isub, 1) := by decide +kernel
theorem d3_179 : decode prog_4_method_3_code 179 = .ok (.ireturn, 1) := by decide +kernel
theorem d4_0 : decode prog_4_method_17_code 0 = .ok (.iload_n 1, 1) := by decide +kernel
theorem d4_1 : decode prog_4_method_17_code 1 = .ok (.ifCond .lt 11, 3) := by decide +kernel
theorem d4_4 : decode prog_4_method_17_code 4 = .ok (.iload_n 1, 1) := by decide +kernel
theorem d4_5 : decode prog_4_method_17_code 5 = .ok (.aload_n 0, 1) := by decide +kernel
theorem d4_6 : decode prog_4_method_17_code 6 = .ok (.getfield 32, 3) := by decide +kernel
theorem d4_9 : decode prog_4_method_17_code 9 = .ok (.if_icmp .lt 21, 3) := by decide +kernel
theorem d4_30 : decode prog_4_method_17_code 30 = .ok (.return_, 1) := by decide +kernel
theorem d5_0 : decode prog_4_method_19_code 0 = .ok (.iload_n 0, 1) := by decide +kernel
theorem d5_1 : decode prog_4_method_19_code 1 = .ok (.ifCond .ge 17, 3) := by decide +kernel
theorem d5_18 : decode prog_4_method_19_code 18 = .ok (.return_, 1) := by decide +kernel
theorem d6_0 : decode prog_4_method_20_code 0 = .ok (.lload_n 0, 1) := by decide +kernel
theorem d6_1 : decode prog_4_method_20_code 1 = .ok (.lconst 0, 1) := by decide +kernel
theorem d6_2 : decode prog_4_method_20_code 2 = .ok (.lcmp, 1) := by decide +kernel
theorem d6_3 : decode prog_4_method_20_code 3 = .ok (.ifCond .ge 17, 3) := by decide +kernel
theorem d6_20 : decode prog_4_method_20_code 20 = .ok (.return_, 1) := by decide +kernel
theorem d7_0 : decode prog_4_method_6_code 0 = .ok (.aload_n 0, 1) := by decide +kernel
theorem d7_1 : decode prog_4_method_6_code 1 = .ok (.iload_n 1, 1) := by decide +kernel
theorem d7_2 : decode prog_4_method_6_code 2 = .ok (.invokevirtual 67, 3) := by decide +kernel
theorem d7_5 : decode prog_4_method_6_code 5 = .ok (.aload_n 0, 1) := by decide +kernel
theorem d7_6 : decode prog_4_method_6_code 6 = .ok (.getfield 16, 3) := by decide +kernel
theorem d7_9 : decode prog_4_method_6_code 9 = .ok (.iconst 2, 1) := by decide +kernel
theorem d7_10 : decode prog_4_method_6_code 10 = .ok (.iload_n 1, 1) := by decide +kernel
theorem d7_11 : decode prog_4_method_6_code 11 = .ok (.imul, 1) := by decide +kernel
theorem d7_12 : decode prog_4_method_6_code 12 = .ok (.iaload, 1) := by decide +kernel
theorem d7_13 : decode prog_4_method_6_code 13 = .ok (.ireturn, 1) := by decide +kernel
theorem d8_0 : decode prog_4_method_18_code 0 = .ok (.iload_n 1, 1) := by decide +kernel
theorem d8_1 : decode prog_4_method_18_code 1 = .ok (.ifCond .lt 13, 3) := by decide +kernel
theorem d8_4 : decode prog_4_method_18_code 4 = .ok (.iload_n 1, 1) := by decide +kernel
theorem d8_5 : decode prog_4_method_18_code 5 = .ok (.aload_n 0, 1) := by decide +kernel
theorem d8_6 : decode prog_4_method_18_code 6 = .ok (.getfield 51, 3) := by decide +kernel
theorem d8_9 : decode prog_4_method_18_code 9 = .ok (.iconst 2, 1) := by decide +kernel
theorem d8_10 : decode prog_4_method_18_code 10 = .ok (.idiv, 1) := by decide +kernel
theorem d8_11 : decode prog_4_method_18_code 11 = .ok (.if_icmp .lt 23, 3) := by decide +kernel
theorem d8_34 : decode prog_4_method_18_code 34 = .ok (.return_, 1) := by decide +kernel
theorem d9_0 : decode prog_4_method_8_code 0 = .ok (.aload_n 0, 1) := by decide +kernel
theorem d9_1 : decode prog_4_method_8_code 1 = .ok (.iload_n 1, 1) := by decide +kernel
theorem d9_2 : decode prog_4_method_8_code 2 = .ok (.iload_n 2, 1) := by decide +kernel
theorem d9_3 : decode prog_4_method_8_code 3 = .ok (.invokevirtual 77, 3) := by decide +kernel
theorem d9_6 : decode prog_4_method_8_code 6 = .ok (.aload_n 0, 1) := by decide +kernel
theorem d9_7 : decode prog_4_method_8_code 7 = .ok (.getfield 32, 3) := by decide +kernel
theorem d9_10 : decode prog_4_method_8_code 10 = .ok (.newarray .int, 2) := by decide +kernel
theorem d9_12 : decode prog_4_method_8_code 12 = .ok (.astore_n 3, 1) := by decide +kernel
theorem d9_13 : decode prog_4_method_8_code 13 = .ok (.aload_n 0, 1) := by decide +kernel
theorem d9_14 : decode prog_4_method_8_code 14 = .ok (.getfield 32, 3) := by decide +kernel
theorem d9_17 : decode prog_4_method_8_code 17 = .ok (.newarray .int, 2) := by decide +kernel
theorem d9_19 : decode prog_4_method_8_code 19 = .ok (.astore 4, 2) := by decide +kernel
theorem d9_21 : decode prog_4_method_8_code 21 = .ok (.aload_n 0, 1) := by decide +kernel
theorem d9_22 : decode prog_4_method_8_code 22 = .ok (.getfield 32, 3) := by decide +kernel
theorem d9_25 : decode prog_4_method_8_code 25 = .ok (.newarray .int, 2) := by decide +kernel
theorem d9_27 : decode prog_4_method_8_code 27 = .ok (.astore 5, 2) := by decide +kernel
theorem d9_29 : decode prog_4_method_8_code 29 = .ok (.aload_n 0, 1) := by decide +kernel
theorem d9_30 : decode prog_4_method_8_code 30 = .ok (.iload_n 1, 1) := by decide +kernel
theorem d9_31 : decode prog_4_method_8_code 31 = .ok (.iload_n 2, 1) := by decide +kernel
theorem d9_32 : decode prog_4_method_8_code 32 = .ok (.aload_n 3, 1) := by decide +kernel
theorem d9_33 : decode prog_4_method_8_code 33 = .ok (.invokevirtual 81, 3) := by decide +kernel
theorem d9_36 : decode prog_4_method_8_code 36 = .ok (.ifCond .eq 23, 3) := by decide +kernel
theorem d9_39 : decode prog_4_method_8_code 39 = .ok (.aload 4, 2) := by decide +kernel
theorem d9_41 : decode prog_4_method_8_code 41 = .ok (.iconst 0, 1) := by decide +kernel
theorem d9_42 : decode prog_4_method_8_code 42 = .ok (.invokestatic 85, 3) := by decide +kernel
theorem d9_45 : decode prog_4_method_8_code 45 = .ok (.aload_n 0, 1) := by decide +kernel
theorem d9_46 : decode prog_4_method_8_code 46 = .ok (.iload_n 1, 1) := by decide +kernel
theorem d9_47 : decode prog_4_method_8_code 47 = .ok (.iload_n 2, 1) := by decide +kernel
theorem d9_48 : decode prog_4_method_8_code 48 = .ok (.aload_n 3, 1) := by decide +kernel
theorem d9_49 : decode prog_4_method_8_code 49 = .ok (.aload 4, 2) := by decide +kernel
theorem d9_51 : decode prog_4_method_8_code 51 = .ok (.aload 5, 2) := by decide +kernel
theorem d9_53 : decode prog_4_method_8_code 53 = .ok (.invokevirtual 88, 3) := by decide +kernel
theorem d9_56 : decode prog_4_method_8_code 56 = .ok (.goto (-27), 3) := by decide +kernel
theorem d9_59 : decode prog_4_method_8_code 59 = .ok (.aload_n 0, 1) := by decide +kernel
theorem d9_60 : decode prog_4_method_8_code 60 = .ok (.iload_n 1, 1) := by decide +kernel
theorem d9_61 : decode prog_4_method_8_code 61 = .ok (.invokevirtual 92, 3) := by decide +kernel
theorem d9_64 : decode prog_4_method_8_code 64 = .ok (.lreturn, 1) := by decide +kernel
theorem d10_0 : decode prog_4_method_14_code 0 = .ok (.aload_n 0, 1) := by decide +kernel
theorem d10_1 : decode prog_4_method_14_code 1 = .ok (.iload_n 1, 1) := by decide +kernel
theorem d10_2 : decode prog_4_method_14_code 2 = .ok (.invokevirtual 40, 3) := by decide +kernel
theorem d10_5 : decode prog_4_method_14_code 5 = .ok (.aload_n 0, 1) := by decide +kernel
theorem d10_6 : decode prog_4_method_14_code 6 = .ok (.iload_n 2, 1) := by decide +kernel
theorem d10_7 : decode prog_4_method_14_code 7 = .ok (.invokevirtual 40, 3) := by decide +kernel
theorem d10_10 : decode prog_4_method_14_code 10 = .ok (.iload_n 1, 1) := by decide +kernel
theorem d10_11 : decode prog_4_method_14_code 11 = .ok (.iload_n 2, 1) := by decide +kernel
theorem d10_12 : decode prog_4_method_14_code 12 = .ok (.if_icmp .ne 17, 3) := by decide +kernel
theorem d10_29 : decode prog_4_method_14_code 29 = .ok (.aload_n 0, 1) := by decide +kernel
theorem d10_30 : decode prog_4_method_14_code 30 = .ok (.getfield 63, 3) := by decide +kernel
theorem d10_33 : decode prog_4_method_14_code 33 = .ok (.ifnonnull 11, 3) := by decide +kernel
theorem d10_36 : decode prog_4_method_14_code 36 = .ok (.aload_n 0, 1) := by decide +kernel
theorem d10_37 : decode prog_4_method_14_code 37 = .ok (.aload_n 0, 1) := by decide +kernel
theorem d10_38 : decode prog_4_method_14_code 38 = .ok (.invokevirtual 126, 3) := by decide +kernel
theorem d10_41 : decode prog_4_method_14_code 41 = .ok (.putfield 63, 3) := by decide +kernel
theorem d10_44 : decode prog_4_method_14_code 44 = .ok (.return_, 1) := by decide +kernel
theorem d11_0 : decode prog_4_method_16_code 0 = .ok (.aload_n 0, 1) := by decide +kernel
theorem d11_1 : decode prog_4_method_16_code 1 = .ok (.getfield 32, 3) := by decide +kernel
theorem d11_4 : decode prog_4_method_16_code 4 = .ok (.newarray .int, 2) := by decide +kernel
theorem d11_6 : decode prog_4_method_16_code 6 = .ok (.astore_n 1, 1) := by decide +kernel
theorem d11_7 : decode prog_4_method_16_code 7 = .ok (.iconst 0, 1) := by decide +kernel
theorem d11_8 : decode prog_4_method_16_code 8 = .ok (.istore_n 2, 1) := by decide +kernel
theorem d11_9 : decode prog_4_method_16_code 9 = .ok (.iload_n 2, 1) := by decide +kernel
theorem d11_10 : decode prog_4_method_16_code 10 = .ok (.aload_n 0, 1) := by decide +kernel
theorem d11_11 : decode prog_4_method_16_code 11 = .ok (.getfield 51, 3) := by decide +kernel
theorem d11_14 : decode prog_4_method_16_code 14 = .ok (.if_icmp .ge 23, 3) := by decide +kernel
theorem d11_17 : decode prog_4_method_16_code 17 = .ok (.aload_n 1, 1) := by decide +kernel
theorem d11_18 : decode prog_4_method_16_code 18 = .ok (.aload_n 0, 1) := by decide +kernel
theorem d11_19 : decode prog_4_method_16_code 19 = .ok (.getfield 7, 3) := by decide +kernel
theorem d11_22 : decode prog_4_method_16_code 22 = .ok (.iload_n 2, 1) := by decide +kernel
theorem d11_23 : decode prog_4_method_16_code 23 = .ok (.iconst 1, 1) := by decide +kernel
theorem d11_24 : decode prog_4_method_16_code 24 = .ok (.ixor, 1) := by decide +kernel
theorem d11_25 : decode prog_4_method_16_code 25 = .ok (.iaload, 1) := by decide +kernel
theorem d11_26 : decode prog_4_method_16_code 26 = .ok (.dup2, 1) := by decide +kernel
theorem d11_27 : decode prog_4_method_16_code 27 = .ok (.iaload, 1) := by decide +kernel
theorem d11_28 : decode prog_4_method_16_code 28 = .ok (.iconst 1, 1) := by decide +kernel
theorem d11_29 : decode prog_4_method_16_code 29 = .ok (.iadd, 1) := by decide +kernel
theorem d11_30 : decode prog_4_method_16_code 30 = .ok (.iastore, 1) := by decide +kernel
theorem d11_31 : decode prog_4_method_16_code 31 = .ok (.iinc 2 1, 3) := by decide +kernel
theorem d11_34 : decode prog_4_method_16_code 34 = .ok (.goto (-25), 3) := by decide +kernel
theorem d11_37 : decode prog_4_method_16_code 37 = .ok (.aload_n 0, 1) := by decide +kernel
theorem d11_38 : decode prog_4_method_16_code 38 = .ok (.getfield 32, 3) := by decide +kernel
theorem d11_41 : decode prog_4_method_16_code 41 = .ok (.anewarray 130, 3) := by decide +kernel
theorem d11_44 : decode prog_4_method_16_code 44 = .ok (.astore_n 2, 1) := by decide +kernel
theorem d11_45 : decode prog_4_method_16_code 45 = .ok (.iconst 0, 1) := by decide +kernel
theorem d11_46 : decode prog_4_method_16_code 46 = .ok (.istore_n 3, 1) := by decide +kernel
theorem d11_47 : decode prog_4_method_16_code 47 = .ok (.iload_n 3, 1) := by decide +kernel
theorem d11_48 : decode prog_4_method_16_code 48 = .ok (.aload_n 0, 1) := by decide +kernel
theorem d11_49 : decode prog_4_method_16_code 49 = .ok (.getfield 32, 3) := by decide +kernel
theorem d11_52 : decode prog_4_method_16_code 52 = .ok (.if_icmp .ge 21, 3) := by decide +kernel
theorem d11_55 : decode prog_4_method_16_code 55 = .ok (.aload_n 2, 1) := by decide +kernel
theorem d11_56 : decode prog_4_method_16_code 56 = .ok (.iload_n 3, 1) := by decide +kernel
theorem d11_57 : decode prog_4_method_16_code 57 = .ok (.aload_n 1, 1) := by decide +kernel
theorem d11_58 : decode prog_4_method_16_code 58 = .ok (.iload_n 3, 1) := by decide +kernel
theorem d11_59 : decode prog_4_method_16_code 59 = .ok (.iaload, 1) := by decide +kernel
theorem d11_60 : decode prog_4_method_16_code 60 = .ok (.newarray .int, 2) := by decide +kernel
theorem d11_62 : decode prog_4_method_16_code 62 = .ok (.aastore, 1) := by decide +kernel
theorem d11_63 : decode prog_4_method_16_code 63 = .ok (.aload_n 1, 1) := by decide +kernel
theorem d11_64 : decode prog_4_method_16_code 64 = .ok (.iload_n 3, 1) := by decide +kernel
theorem d11_65 : decode prog_4_method_16_code 65 = .ok (.iconst 0, 1) := by decide +kernel
theorem d11_66 : decode prog_4_method_16_code 66 = .ok (.iastore, 1) := by decide +kernel
theorem d11_67 : decode prog_4_method_16_code 67 = .ok (.iinc 3 1, 3) := by decide +kernel
theorem d11_70 : decode prog_4_method_16_code 70 = .ok (.goto (-23), 3) := by decide +kernel
theorem d11_73 : decode prog_4_method_16_code 73 = .ok (.iconst 0, 1) := by decide +kernel
theorem d11_74 : decode prog_4_method_16_code 74 = .ok (.istore_n 3, 1) := by decide +kernel
theorem d11_75 : decode prog_4_method_16_code 75 = .ok (.iload_n 3, 1) := by decide +kernel
theorem d11_76 : decode prog_4_method_16_code 76 = .ok (.aload_n 0, 1) := by decide +kernel
theorem d11_77 : decode prog_4_method_16_code 77 = .ok (.getfield 51, 3) := by decide +kernel
theorem d11_80 : decode prog_4_method_16_code 80 = .ok (.if_icmp .ge 34, 3) := by decide +kernel
theorem d11_83 : decode prog_4_method_16_code 83 = .ok (.aload_n 0, 1) := by decide +kernel
theorem d11_84 : decode prog_4_method_16_code 84 = .ok (.getfield 7, 3) := by decide +kernel
theorem d11_87 : decode prog_4_method_16_code 87 = .ok (.iload_n 3, 1) := by decide +kernel
theorem d11_88 : decode prog_4_method_16_code 88 = .ok (.iconst 1, 1) := by decide +kernel
theorem d11_89 : decode prog_4_method_16_code 89 = .ok (.ixor, 1) := by decide +kernel
theorem d11_90 : decode prog_4_method_16_code 90 = .ok (.iaload, 1) := by decide +kernel
theorem d11_91 : decode prog_4_method_16_code 91 = .ok (.istore 4, 2) := by decide +kernel
theorem d11_93 : decode prog_4_method_16_code 93 = .ok (.aload_n 2, 1) := by decide +kernel
theorem d11_94 : decode prog_4_method_16_code 94 = .ok (.iload 4, 2) := by decide +kernel
theorem d11_96 : decode prog_4_method_16_code 96 = .ok (.aaload, 1) := by decide +kernel
theorem d11_97 : decode prog_4_method_16_code 97 = .ok (.aload_n 1, 1) := by decide +kernel
theorem d11_98 : decode prog_4_method_16_code 98 = .ok (.iload 4, 2) := by decide +kernel
theorem d11_100 : decode prog_4_method_16_code 100 = .ok (.dup2, 1) := by decide +kernel
theorem d11_101 : decode prog_4_method_16_code 101 = .ok (.iaload, 1) := by decide +kernel
theorem d11_102 : decode prog_4_method_16_code 102 = .ok (.dup_x2, 1) := by decide +kernel
theorem d11_103 : decode prog_4_method_16_code 103 = .ok (.iconst 1, 1) := by decide +kernel
theorem d11_104 : decode prog_4_method_16_code 104 = .ok (.iadd, 1) := by decide +kernel
theorem d11_105 : decode prog_4_method_16_code 105 = .ok (.iastore, 1) := by decide +kernel
theorem d11_106 : decode prog_4_method_16_code 106 = .ok (.iload_n 3, 1) := by decide +kernel
theorem d11_107 : decode prog_4_method_16_code 107 = .ok (.iastore, 1) := by decide +kernel
theorem d11_108 : decode prog_4_method_16_code 108 = .ok (.iinc 3 1, 3) := by decide +kernel
theorem d11_111 : decode prog_4_method_16_code 111 = .ok (.goto (-36), 3) := by decide +kernel
theorem d11_114 : decode prog_4_method_16_code 114 = .ok (.aload_n 2, 1) := by decide +kernel
theorem d11_115 : decode prog_4_method_16_code 115 = .ok (.areturn, 1) := by decide +kernel
theorem d12_0 : decode prog_4_method_10_code 0 = .ok (.aload_n 3, 1) := by decide +kernel
theorem d12_1 : decode prog_4_method_10_code 1 = .ok (.iconst (-1), 1) := by decide +kernel
theorem d12_2 : decode prog_4_method_10_code 2 = .ok (.invokestatic 85, 3) := by decide +kernel
theorem d12_5 : decode prog_4_method_10_code 5 = .ok (.aload_n 0, 1) := by decide +kernel
theorem d12_6 : decode prog_4_method_10_code 6 = .ok (.getfield 32, 3) := by decide +kernel
theorem d12_9 : decode prog_4_method_10_code 9 = .ok (.newarray .int, 2) := by decide +kernel
theorem d12_11 : decode prog_4_method_10_code 11 = .ok (.astore 4, 2) := by decide +kernel
theorem d12_13 : decode prog_4_method_10_code 13 = .ok (.iconst 0, 1) := by decide +kernel
theorem d12_14 : decode prog_4_method_10_code 14 = .ok (.istore 5, 2) := by decide +kernel
theorem d12_16 : decode prog_4_method_10_code 16 = .ok (.aload_n 3, 1) := by decide +kernel
theorem d12_17 : decode prog_4_method_10_code 17 = .ok (.iload_n 1, 1) := by decide +kernel
theorem d12_18 : decode prog_4_method_10_code 18 = .ok (.iconst 0, 1) := by decide +kernel
theorem d12_19 : decode prog_4_method_10_code 19 = .ok (.iastore, 1) := by decide +kernel
theorem d12_20 : decode prog_4_method_10_code 20 = .ok (.aload 4, 2) := by decide +kernel
theorem d12_22 : decode prog_4_method_10_code 22 = .ok (.iload 5, 2) := by decide +kernel
theorem d12_24 : decode prog_4_method_10_code 24 = .ok (.iinc 5 1, 3) := by decide +kernel
theorem d12_27 : decode prog_4_method_10_code 27 = .ok (.iload_n 1, 1) := by decide +kernel
theorem d12_28 : decode prog_4_method_10_code 28 = .ok (.iastore, 1) := by decide +kernel
theorem d12_29 : decode prog_4_method_10_code 29 = .ok (.iconst 0, 1) := by decide +kernel
theorem d12_30 : decode prog_4_method_10_code 30 = .ok (.istore 6, 2) := by decide +kernel
theorem d12_32 : decode prog_4_method_10_code 32 = .ok (.iload 6, 2) := by decide +kernel
theorem d12_34 : decode prog_4_method_10_code 34 = .ok (.iload 5, 2) := by decide +kernel
theorem d12_36 : decode prog_4_method_10_code 36 = .ok (.if_icmp .ge 98, 3) := by decide +kernel
theorem d12_39 : decode prog_4_method_10_code 39 = .ok (.aload 4, 2) := by decide +kernel
theorem d12_41 : decode prog_4_method_10_code 41 = .ok (.iload 6, 2) := by decide +kernel
theorem d12_43 : decode prog_4_method_10_code 43 = .ok (.iaload, 1) := by decide +kernel
theorem d12_44 : decode prog_4_method_10_code 44 = .ok (.istore 7, 2) := by decide +kernel
theorem d12_46 : decode prog_4_method_10_code 46 = .ok (.aload_n 0, 1) := by decide +kernel
theorem d12_47 : decode prog_4_method_10_code 47 = .ok (.getfield 63, 3) := by decide +kernel
theorem d12_50 : decode prog_4_method_10_code 50 = .ok (.iload 7, 2) := by decide +kernel
theorem d12_52 : decode prog_4_method_10_code 52 = .ok (.aaload, 1) := by decide +kernel
theorem d12_53 : decode prog_4_method_10_code 53 = .ok (.astore 8, 2) := by decide +kernel
theorem d12_55 : decode prog_4_method_10_code 55 = .ok (.aload 8, 2) := by decide +kernel
theorem d12_57 : decode prog_4_method_10_code 57 = .ok (.arraylength, 1) := by decide +kernel
theorem d12_58 : decode prog_4_method_10_code 58 = .ok (.istore 9, 2) := by decide +kernel
theorem d12_60 : decode prog_4_method_10_code 60 = .ok (.iconst 0, 1) := by decide +kernel
theorem d12_61 : decode prog_4_method_10_code 61 = .ok (.istore 10, 2) := by decide +kernel
theorem d12_63 : decode prog_4_method_10_code 63 = .ok (.iload 10, 2) := by decide +kernel
theorem d12_65 : decode prog_4_method_10_code 65 = .ok (.iload 9, 2) := by decide +kernel
theorem d12_67 : decode prog_4_method_10_code 67 = .ok (.if_icmp .ge 61, 3) := by decide +kernel
theorem d12_70 : decode prog_4_method_10_code 70 = .ok (.aload 8, 2) := by decide +kernel
theorem d12_72 : decode prog_4_method_10_code 72 = .ok (.iload 10, 2) := by decide +kernel
theorem d12_74 : decode prog_4_method_10_code 74 = .ok (.iaload, 1) := by decide +kernel
theorem d12_75 : decode prog_4_method_10_code 75 = .ok (.istore 11, 2) := by decide +kernel
theorem d12_77 : decode prog_4_method_10_code 77 = .ok (.aload_n 0, 1) := by decide +kernel
theorem d12_78 : decode prog_4_method_10_code 78 = .ok (.getfield 7, 3) := by decide +kernel
theorem d12_81 : decode prog_4_method_10_code 81 = .ok (.iload 11, 2) := by decide +kernel
theorem d12_83 : decode prog_4_method_10_code 83 = .ok (.iaload, 1) := by decide +kernel
theorem d12_84 : decode prog_4_method_10_code 84 = .ok (.istore 12, 2) := by decide +kernel
theorem d12_86 : decode prog_4_method_10_code 86 = .ok (.aload_n 3, 1) := by decide +kernel
theorem d12_87 : decode prog_4_method_10_code 87 = .ok (.iload 12, 2) := by decide +kernel
theorem d12_89 : decode prog_4_method_10_code 89 = .ok (.iaload, 1) := by decide +kernel
theorem d12_90 : decode prog_4_method_10_code 90 = .ok (.ifCond .ge 32, 3) := by decide +kernel
theorem d12_93 : decode prog_4_method_10_code 93 = .ok (.aload_n 0, 1) := by decide +kernel
theorem d12_94 : decode prog_4_method_10_code 94 = .ok (.iload 11, 2) := by decide +kernel
theorem d12_96 : decode prog_4_method_10_code 96 = .ok (.invokevirtual 108, 3) := by decide +kernel
theorem d12_99 : decode prog_4_method_10_code 99 = .ok (.ifCond .le 23, 3) := by decide +kernel
theorem d12_102 : decode prog_4_method_10_code 102 = .ok (.aload_n 3, 1) := by decide +kernel
theorem d12_103 : decode prog_4_method_10_code 103 = .ok (.iload 12, 2) := by decide +kernel
theorem d12_105 : decode prog_4_method_10_code 105 = .ok (.aload_n 3, 1) := by decide +kernel
theorem d12_106 : decode prog_4_method_10_code 106 = .ok (.iload 7, 2) := by decide +kernel
theorem d12_108 : decode prog_4_method_10_code 108 = .ok (.iaload, 1) := by decide +kernel
theorem d12_109 : decode prog_4_method_10_code 109 = .ok (.iconst 1, 1) := by decide +kernel
theorem d12_110 : decode prog_4_method_10_code 110 = .ok (.iadd, 1) := by decide +kernel
theorem d12_111 : decode prog_4_method_10_code 111 = .ok (.iastore, 1) := by decide +kernel
theorem d12_112 : decode prog_4_method_10_code 112 = .ok (.aload 4, 2) := by decide +kernel
theorem d12_114 : decode prog_4_method_10_code 114 = .ok (.iload 5, 2) := by decide +kernel
theorem d12_116 : decode prog_4_method_10_code 116 = .ok (.iinc 5 1, 3) := by decide +kernel
theorem d12_119 : decode prog_4_method_10_code 119 = .ok (.iload 12, 2) := by decide +kernel
theorem d12_121 : decode prog_4_method_10_code 121 = .ok (.iastore, 1) := by decide +kernel
theorem d12_122 : decode prog_4_method_10_code 122 = .ok (.iinc 10 1, 3) := by decide +kernel
theorem d12_125 : decode prog_4_method_10_code 125 = .ok (.goto (-62), 3) := by decide +kernel
theorem d12_128 : decode prog_4_method_10_code 128 = .ok (.iinc 6 1, 3) := by decide +kernel
theorem d12_131 : decode prog_4_method_10_code 131 = .ok (.goto (-99), 3) := by decide +kernel
theorem d12_134 : decode prog_4_method_10_code 134 = .ok (.aload_n 3, 1) := by decide +kernel
theorem d12_135 : decode prog_4_method_10_code 135 = .ok (.iload_n 2, 1) := by decide +kernel
theorem d12_136 : decode prog_4_method_10_code 136 = .ok (.iaload, 1) := by decide +kernel
theorem d12_137 : decode prog_4_method_10_code 137 = .ok (.ifCond .lt 7, 3) := by decide +kernel
theorem d12_140 : decode prog_4_method_10_code 140 = .ok (.iconst 1, 1) := by decide +kernel
theorem d12_141 : decode prog_4_method_10_code 141 = .ok (.goto 4, 3) := by decide +kernel
theorem d12_144 : decode prog_4_method_10_code 144 = .ok (.iconst 0, 1) := by decide +kernel
theorem d12_145 : decode prog_4_method_10_code 145 = .ok (.ireturn, 1) := by decide +kernel
theorem d13_0 : decode jdk_65_method_103_code 0 = .ok (.iconst 0, 1) := by decide +kernel
theorem d13_1 : decode jdk_65_method_103_code 1 = .ok (.istore_n 2, 1) := by decide +kernel
theorem d13_2 : decode jdk_65_method_103_code 2 = .ok (.aload_n 0, 1) := by decide +kernel
theorem d13_3 : decode jdk_65_method_103_code 3 = .ok (.arraylength, 1) := by decide +kernel
theorem d13_4 : decode jdk_65_method_103_code 4 = .ok (.istore_n 3, 1) := by decide +kernel
theorem d13_5 : decode jdk_65_method_103_code 5 = .ok (.iload_n 2, 1) := by decide +kernel
theorem d13_6 : decode jdk_65_method_103_code 6 = .ok (.iload_n 3, 1) := by decide +kernel
theorem d13_7 : decode jdk_65_method_103_code 7 = .ok (.if_icmp .ge 13, 3) := by decide +kernel
theorem d13_10 : decode jdk_65_method_103_code 10 = .ok (.aload_n 0, 1) := by decide +kernel
theorem d13_11 : decode jdk_65_method_103_code 11 = .ok (.iload_n 2, 1) := by decide +kernel
theorem d13_12 : decode jdk_65_method_103_code 12 = .ok (.iload_n 1, 1) := by decide +kernel
theorem d13_13 : decode jdk_65_method_103_code 13 = .ok (.iastore, 1) := by decide +kernel
theorem d13_14 : decode jdk_65_method_103_code 14 = .ok (.iinc 2 1, 3) := by decide +kernel
theorem d13_17 : decode jdk_65_method_103_code 17 = .ok (.goto (-12), 3) := by decide +kernel
theorem d13_20 : decode jdk_65_method_103_code 20 = .ok (.return_, 1) := by decide +kernel
theorem d14_0 : decode prog_4_method_13_code 0 = .ok (.aload_n 0, 1) := by decide +kernel
theorem d14_1 : decode prog_4_method_13_code 1 = .ok (.getfield 13, 3) := by decide +kernel
theorem d14_4 : decode prog_4_method_13_code 4 = .ok (.iload_n 1, 1) := by decide +kernel
theorem d14_5 : decode prog_4_method_13_code 5 = .ok (.iaload, 1) := by decide +kernel
theorem d14_6 : decode prog_4_method_13_code 6 = .ok (.aload_n 0, 1) := by decide +kernel
theorem d14_7 : decode prog_4_method_13_code 7 = .ok (.getfield 16, 3) := by decide +kernel
theorem d14_10 : decode prog_4_method_13_code 10 = .ok (.iload_n 1, 1) := by decide +kernel
theorem d14_11 : decode prog_4_method_13_code 11 = .ok (.iaload, 1) := by decide +kernel
theorem d14_12 : decode prog_4_method_13_code 12 = .ok (.isub, 1) := by decide +kernel
theorem d14_13 : decode prog_4_method_13_code 13 = .ok (.ireturn, 1) := by decide +kernel
theorem d15_0 : decode prog_4_method_11_code 0 = .ok (.iconst 0, 1) := by decide +kernel
theorem d15_1 : decode prog_4_method_11_code 1 = .ok (.istore 6, 2) := by decide +kernel
theorem d15_3 : decode prog_4_method_11_code 3 = .ok (.iload_n 1, 1) := by decide +kernel
theorem d15_4 : decode prog_4_method_11_code 4 = .ok (.istore 7, 2) := by decide +kernel
theorem d15_6 : decode prog_4_method_11_code 6 = .ok (.iload 6, 2) := by decide +kernel
theorem d15_8 : decode prog_4_method_11_code 8 = .ok (.ifCond .gt 17, 3) := by decide +kernel
theorem d15_11 : decode prog_4_method_11_code 11 = .ok (.aload 4, 2) := by decide +kernel
theorem d15_13 : decode prog_4_method_11_code 13 = .ok (.iload_n 1, 1) := by decide +kernel
theorem d15_14 : decode prog_4_method_11_code 14 = .ok (.iaload, 1) := by decide +kernel
theorem d15_15 : decode prog_4_method_11_code 15 = .ok (.aload_n 0, 1) := by decide +kernel
theorem d15_16 : decode prog_4_method_11_code 16 = .ok (.getfield 63, 3) := by decide +kernel
theorem d15_19 : decode prog_4_method_11_code 19 = .ok (.iload_n 1, 1) := by decide +kernel
theorem d15_20 : decode prog_4_method_11_code 20 = .ok (.aaload, 1) := by decide +kernel
theorem d15_21 : decode prog_4_method_11_code 21 = .ok (.arraylength, 1) := by decide +kernel
theorem d15_22 : decode prog_4_method_11_code 22 = .ok (.if_icmp .ge 229, 3) := by decide +kernel
theorem d15_25 : decode prog_4_method_11_code 25 = .ok (.iload 7, 2) := by decide +kernel
theorem d15_27 : decode prog_4_method_11_code 27 = .ok (.iload_n 2, 1) := by decide +kernel
theorem d15_28 : decode prog_4_method_11_code 28 = .ok (.if_icmp .ne 96, 3) := by decide +kernel
theorem d15_31 : decode prog_4_method_11_code 31 = .ok (.ldc 114, 2) := by decide +kernel
theorem d15_33 : decode prog_4_method_11_code 33 = .ok (.istore 8, 2) := by decide +kernel
theorem d15_35 : decode prog_4_method_11_code 35 = .ok (.iconst 0, 1) := by decide +kernel
theorem d15_36 : decode prog_4_method_11_code 36 = .ok (.istore 9, 2) := by decide +kernel
theorem d15_38 : decode prog_4_method_11_code 38 = .ok (.iload 9, 2) := by decide +kernel
theorem d15_40 : decode prog_4_method_11_code 40 = .ok (.iload 6, 2) := by decide +kernel
theorem d15_42 : decode prog_4_method_11_code 42 = .ok (.if_icmp .ge 25, 3) := by decide +kernel
theorem d15_45 : decode prog_4_method_11_code 45 = .ok (.iload 8, 2) := by decide +kernel
theorem d15_47 : decode prog_4_method_11_code 47 = .ok (.aload_n 0, 1) := by decide +kernel
theorem d15_48 : decode prog_4_method_11_code 48 = .ok (.aload 5, 2) := by decide +kernel
theorem d15_50 : decode prog_4_method_11_code 50 = .ok (.iload 9, 2) := by decide +kernel
theorem d15_52 : decode prog_4_method_11_code 52 = .ok (.iaload, 1) := by decide +kernel
theorem d15_53 : decode prog_4_method_11_code 53 = .ok (.invokevirtual 108, 3) := by decide +kernel
theorem d15_56 : decode prog_4_method_11_code 56 = .ok (.invokestatic 115, 3) := by decide +kernel
theorem d15_59 : decode prog_4_method_11_code 59 = .ok (.istore 8, 2) := by decide +kernel
theorem d15_61 : decode prog_4_method_11_code 61 = .ok (.iinc 9 1, 3) := by decide +kernel
theorem d15_64 : decode prog_4_method_11_code 64 = .ok (.goto (-26), 3) := by decide +kernel
theorem d15_67 : decode prog_4_method_11_code 67 = .ok (.iconst 0, 1) := by decide +kernel
theorem d15_68 : decode prog_4_method_11_code 68 = .ok (.istore 9, 2) := by decide +kernel
theorem d15_70 : decode prog_4_method_11_code 70 = .ok (.iload 9, 2) := by decide +kernel
theorem d15_72 : decode prog_4_method_11_code 72 = .ok (.iload 6, 2) := by decide +kernel
theorem d15_74 : decode prog_4_method_11_code 74 = .ok (.if_icmp .ge 41, 3) := by decide +kernel
theorem d15_77 : decode prog_4_method_11_code 77 = .ok (.aload_n 0, 1) := by decide +kernel
theorem d15_78 : decode prog_4_method_11_code 78 = .ok (.getfield 16, 3) := by decide +kernel
theorem d15_81 : decode prog_4_method_11_code 81 = .ok (.aload 5, 2) := by decide +kernel
theorem d15_83 : decode prog_4_method_11_code 83 = .ok (.iload 9, 2) := by decide +kernel
theorem d15_85 : decode prog_4_method_11_code 85 = .ok (.iaload, 1) := by decide +kernel
theorem d15_86 : decode prog_4_method_11_code 86 = .ok (.dup2, 1) := by decide +kernel
theorem d15_87 : decode prog_4_method_11_code 87 = .ok (.iaload, 1) := by decide +kernel
theorem d15_88 : decode prog_4_method_11_code 88 = .ok (.iload 8, 2) := by decide +kernel
theorem d15_90 : decode prog_4_method_11_code 90 = .ok (.iadd, 1) := by decide +kernel
theorem d15_91 : decode prog_4_method_11_code 91 = .ok (.iastore, 1) := by decide +kernel
theorem d15_92 : decode prog_4_method_11_code 92 = .ok (.aload_n 0, 1) := by decide +kernel
theorem d15_93 : decode prog_4_method_11_code 93 = .ok (.getfield 16, 3) := by decide +kernel
theorem d15_96 : decode prog_4_method_11_code 96 = .ok (.aload 5, 2) := by decide +kernel
theorem d15_98 : decode prog_4_method_11_code 98 = .ok (.iload 9, 2) := by decide +kernel
theorem d15_100 : decode prog_4_method_11_code 100 = .ok (.iaload, 1) := by decide +kernel
theorem d15_101 : decode prog_4_method_11_code 101 = .ok (.iconst 1, 1) := by decide +kernel
theorem d15_102 : decode prog_4_method_11_code 102 = .ok (.ixor, 1) := by decide +kernel
theorem d15_103 : decode prog_4_method_11_code 103 = .ok (.dup2, 1) := by decide +kernel
theorem d15_104 : decode prog_4_method_11_code 104 = .ok (.iaload, 1) := by decide +kernel
theorem d15_105 : decode prog_4_method_11_code 105 = .ok (.iload 8, 2) := by decide +kernel
theorem d15_107 : decode prog_4_method_11_code 107 = .ok (.isub, 1) := by decide +kernel
theorem d15_108 : decode prog_4_method_11_code 108 = .ok (.iastore, 1) := by decide +kernel
theorem d15_109 : decode prog_4_method_11_code 109 = .ok (.iinc 9 1, 3) := by decide +kernel
theorem d15_112 : decode prog_4_method_11_code 112 = .ok (.goto (-42), 3) := by decide +kernel
theorem d15_115 : decode prog_4_method_11_code 115 = .ok (.iconst 0, 1) := by decide +kernel
theorem d15_116 : decode prog_4_method_11_code 116 = .ok (.istore 6, 2) := by decide +kernel
theorem d15_118 : decode prog_4_method_11_code 118 = .ok (.iload_n 1, 1) := by decide +kernel
theorem d15_119 : decode prog_4_method_11_code 119 = .ok (.istore 7, 2) := by decide +kernel
theorem d15_121 : decode prog_4_method_11_code 121 = .ok (.goto (-115), 3) := by decide +kernel
theorem d15_124 : decode prog_4_method_11_code 124 = .ok (.aload_n 0, 1) := by decide +kernel
theorem d15_125 : decode prog_4_method_11_code 125 = .ok (.getfield 63, 3) := by decide +kernel
theorem d15_128 : decode prog_4_method_11_code 128 = .ok (.iload 7, 2) := by decide +kernel
theorem d15_130 : decode prog_4_method_11_code 130 = .ok (.aaload, 1) := by decide +kernel
theorem d15_131 : decode prog_4_method_11_code 131 = .ok (.astore 8, 2) := by decide +kernel
theorem d15_133 : decode prog_4_method_11_code 133 = .ok (.aload 4, 2) := by decide +kernel
theorem d15_135 : decode prog_4_method_11_code 135 = .ok (.iload 7, 2) := by decide +kernel
theorem d15_137 : decode prog_4_method_11_code 137 = .ok (.iaload, 1) := by decide +kernel
theorem d15_138 : decode prog_4_method_11_code 138 = .ok (.aload 8, 2) := by decide +kernel
theorem d15_140 : decode prog_4_method_11_code 140 = .ok (.arraylength, 1) := by decide +kernel
theorem d15_141 : decode prog_4_method_11_code 141 = .ok (.if_icmp .ge 31, 3) := by decide +kernel
theorem d15_144 : decode prog_4_method_11_code 144 = .ok (.aload_n 0, 1) := by decide +kernel
theorem d15_145 : decode prog_4_method_11_code 145 = .ok (.aload 8, 2) := by decide +kernel
theorem d15_147 : decode prog_4_method_11_code 147 = .ok (.aload 4, 2) := by decide +kernel
theorem d15_149 : decode prog_4_method_11_code 149 = .ok (.iload 7, 2) := by decide +kernel
theorem d15_151 : decode prog_4_method_11_code 151 = .ok (.iaload, 1) := by decide +kernel
theorem d15_152 : decode prog_4_method_11_code 152 = .ok (.iaload, 1) := by decide +kernel
theorem d15_153 : decode prog_4_method_11_code 153 = .ok (.aload_n 3, 1) := by decide +kernel
theorem d15_154 : decode prog_4_method_11_code 154 = .ok (.invokevirtual 121, 3) := by decide +kernel
theorem d15_157 : decode prog_4_method_11_code 157 = .ok (.ifCond .ne 15, 3) := by decide +kernel
theorem d15_160 : decode prog_4_method_11_code 160 = .ok (.aload 4, 2) := by decide +kernel
theorem d15_162 : decode prog_4_method_11_code 162 = .ok (.iload 7, 2) := by decide +kernel
theorem d15_164 : decode prog_4_method_11_code 164 = .ok (.dup2, 1) := by decide +kernel
theorem d15_165 : decode prog_4_method_11_code 165 = .ok (.iaload, 1) := by decide +kernel
theorem d15_166 : decode prog_4_method_11_code 166 = .ok (.iconst 1, 1) := by decide +kernel
theorem d15_167 : decode prog_4_method_11_code 167 = .ok (.iadd, 1) := by decide +kernel
theorem d15_168 : decode prog_4_method_11_code 168 = .ok (.iastore, 1) := by decide +kernel
theorem d15_169 : decode prog_4_method_11_code 169 = .ok (.goto (-36), 3) := by decide +kernel
theorem d15_172 : decode prog_4_method_11_code 172 = .ok (.aload 4, 2) := by decide +kernel
theorem d15_174 : decode prog_4_method_11_code 174 = .ok (.iload 7, 2) := by decide +kernel
theorem d15_176 : decode prog_4_method_11_code 176 = .ok (.iaload, 1) := by decide +kernel
theorem d15_177 : decode prog_4_method_11_code 177 = .ok (.aload 8, 2) := by decide +kernel
theorem d15_179 : decode prog_4_method_11_code 179 = .ok (.arraylength, 1) := by decide +kernel
theorem d15_180 : decode prog_4_method_11_code 180 = .ok (.if_icmp .ge 37, 3) := by decide +kernel
theorem d15_183 : decode prog_4_method_11_code 183 = .ok (.aload 5, 2) := by decide +kernel
theorem d15_185 : decode prog_4_method_11_code 185 = .ok (.iload 6, 2) := by decide +kernel
theorem d15_187 : decode prog_4_method_11_code 187 = .ok (.iinc 6 1, 3) := by decide +kernel
theorem d15_190 : decode prog_4_method_11_code 190 = .ok (.aload 8, 2) := by decide +kernel
theorem d15_192 : decode prog_4_method_11_code 192 = .ok (.aload 4, 2) := by decide +kernel
theorem d15_194 : decode prog_4_method_11_code 194 = .ok (.iload 7, 2) := by decide +kernel
theorem d15_196 : decode prog_4_method_11_code 196 = .ok (.iaload, 1) := by decide +kernel
theorem d15_197 : decode prog_4_method_11_code 197 = .ok (.iaload, 1) := by decide +kernel
theorem d15_198 : decode prog_4_method_11_code 198 = .ok (.iastore, 1) := by decide +kernel
theorem d15_199 : decode prog_4_method_11_code 199 = .ok (.aload_n 0, 1) := by decide +kernel
theorem d15_200 : decode prog_4_method_11_code 200 = .ok (.getfield 7, 3) := by decide +kernel
theorem d15_203 : decode prog_4_method_11_code 203 = .ok (.aload 8, 2) := by decide +kernel
theorem d15_205 : decode prog_4_method_11_code 205 = .ok (.aload 4, 2) := by decide +kernel
theorem d15_207 : decode prog_4_method_11_code 207 = .ok (.iload 7, 2) := by decide +kernel
theorem d15_209 : decode prog_4_method_11_code 209 = .ok (.iaload, 1) := by decide +kernel
theorem d15_210 : decode prog_4_method_11_code 210 = .ok (.iaload, 1) := by decide +kernel
theorem d15_211 : decode prog_4_method_11_code 211 = .ok (.iaload, 1) := by decide +kernel
theorem d15_212 : decode prog_4_method_11_code 212 = .ok (.istore 7, 2) := by decide +kernel
theorem d15_214 : decode prog_4_method_11_code 214 = .ok (.goto 34, 3) := by decide +kernel
theorem d15_217 : decode prog_4_method_11_code 217 = .ok (.iload 6, 2) := by decide +kernel
theorem d15_219 : decode prog_4_method_11_code 219 = .ok (.ifCond .le 29, 3) := by decide +kernel
theorem d15_222 : decode prog_4_method_11_code 222 = .ok (.aload_n 0, 1) := by decide +kernel
theorem d15_223 : decode prog_4_method_11_code 223 = .ok (.getfield 7, 3) := by decide +kernel
theorem d15_226 : decode prog_4_method_11_code 226 = .ok (.aload 5, 2) := by decide +kernel
theorem d15_228 : decode prog_4_method_11_code 228 = .ok (.iinc 6 (-1), 3) := by decide +kernel
theorem d15_231 : decode prog_4_method_11_code 231 = .ok (.iload 6, 2) := by decide +kernel
theorem d15_233 : decode prog_4_method_11_code 233 = .ok (.iaload, 1) := by decide +kernel
theorem d15_234 : decode prog_4_method_11_code 234 = .ok (.iconst 1, 1) := by decide +kernel
theorem d15_235 : decode prog_4_method_11_code 235 = .ok (.ixor, 1) := by decide +kernel
theorem d15_236 : decode prog_4_method_11_code 236 = .ok (.iaload, 1) := by decide +kernel
theorem d15_237 : decode prog_4_method_11_code 237 = .ok (.istore 7, 2) := by decide +kernel
theorem d15_239 : decode prog_4_method_11_code 239 = .ok (.aload 4, 2) := by decide +kernel
theorem d15_241 : decode prog_4_method_11_code 241 = .ok (.iload 7, 2) := by decide +kernel
theorem d15_243 : decode prog_4_method_11_code 243 = .ok (.dup2, 1) := by decide +kernel
theorem d15_244 : decode prog_4_method_11_code 244 = .ok (.iaload, 1) := by decide +kernel
theorem d15_245 : decode prog_4_method_11_code 245 = .ok (.iconst 1, 1) := by decide +kernel
theorem d15_246 : decode prog_4_method_11_code 246 = .ok (.iadd, 1) := by decide +kernel
theorem d15_247 : decode prog_4_method_11_code 247 = .ok (.iastore, 1) := by decide +kernel
theorem d15_248 : decode prog_4_method_11_code 248 = .ok (.goto (-242), 3) := by decide +kernel
theorem d15_251 : decode prog_4_method_11_code 251 = .ok (.return_, 1) := by decide +kernel
theorem d16_0 : decode prog_4_method_12_code 0 = .ok (.aload_n 0, 1) := by decide +kernel
theorem d16_1 : decode prog_4_method_12_code 1 = .ok (.iload_n 1, 1) := by decide +kernel
theorem d16_2 : decode prog_4_method_12_code 2 = .ok (.invokevirtual 108, 3) := by decide +kernel
theorem d16_5 : decode prog_4_method_12_code 5 = .ok (.ifCond .le 30, 3) := by decide +kernel
theorem d16_8 : decode prog_4_method_12_code 8 = .ok (.aload_n 2, 1) := by decide +kernel
theorem d16_9 : decode prog_4_method_12_code 9 = .ok (.aload_n 0, 1) := by decide +kernel
theorem d16_10 : decode prog_4_method_12_code 10 = .ok (.getfield 7, 3) := by decide +kernel
theorem d16_13 : decode prog_4_method_12_code 13 = .ok (.iload_n 1, 1) := by decide +kernel
theorem d16_14 : decode prog_4_method_12_code 14 = .ok (.iaload, 1) := by decide +kernel
theorem d16_15 : decode prog_4_method_12_code 15 = .ok (.iaload, 1) := by decide +kernel
theorem d16_16 : decode prog_4_method_12_code 16 = .ok (.aload_n 2, 1) := by decide +kernel
theorem d16_17 : decode prog_4_method_12_code 17 = .ok (.aload_n 0, 1) := by decide +kernel
theorem d16_18 : decode prog_4_method_12_code 18 = .ok (.getfield 7, 3) := by decide +kernel
theorem d16_21 : decode prog_4_method_12_code 21 = .ok (.iload_n 1, 1) := by decide +kernel
theorem d16_22 : decode prog_4_method_12_code 22 = .ok (.iconst 1, 1) := by decide +kernel
theorem d16_23 : decode prog_4_method_12_code 23 = .ok (.ixor, 1) := by decide +kernel
theorem d16_24 : decode prog_4_method_12_code 24 = .ok (.iaload, 1) := by decide +kernel
theorem d16_25 : decode prog_4_method_12_code 25 = .ok (.iaload, 1) := by decide +kernel
theorem d16_26 : decode prog_4_method_12_code 26 = .ok (.iconst 1, 1) := by decide +kernel
theorem d16_27 : decode prog_4_method_12_code 27 = .ok (.iadd, 1) := by decide +kernel
theorem d16_28 : decode prog_4_method_12_code 28 = .ok (.if_icmp .ne 7, 3) := by decide +kernel
theorem d16_31 : decode prog_4_method_12_code 31 = .ok (.iconst 1, 1) := by decide +kernel
theorem d16_32 : decode prog_4_method_12_code 32 = .ok (.goto 4, 3) := by decide +kernel
theorem d16_35 : decode prog_4_method_12_code 35 = .ok (.iconst 0, 1) := by decide +kernel
theorem d16_36 : decode prog_4_method_12_code 36 = .ok (.ireturn, 1) := by decide +kernel
theorem d17_0 : decode jdk_29_method_69_code 0 = .ok (.iload_n 0, 1) := by decide +kernel
theorem d17_1 : decode jdk_29_method_69_code 1 = .ok (.iload_n 1, 1) := by decide +kernel
theorem d17_2 : decode jdk_29_method_69_code 2 = .ok (.if_icmp .gt 7, 3) := by decide +kernel
theorem d17_5 : decode jdk_29_method_69_code 5 = .ok (.iload_n 0, 1) := by decide +kernel
theorem d17_6 : decode jdk_29_method_69_code 6 = .ok (.goto 4, 3) := by decide +kernel
theorem d17_9 : decode jdk_29_method_69_code 9 = .ok (.iload_n 1, 1) := by decide +kernel
theorem d17_10 : decode jdk_29_method_69_code 10 = .ok (.ireturn, 1) := by decide +kernel
theorem d18_0 : decode prog_4_method_15_code 0 = .ok (.lconst 0, 1) := by decide +kernel
theorem d18_1 : decode prog_4_method_15_code 1 = .ok (.lstore_n 2, 1) := by decide +kernel
theorem d18_2 : decode prog_4_method_15_code 2 = .ok (.aload_n 0, 1) := by decide +kernel
theorem d18_3 : decode prog_4_method_15_code 3 = .ok (.getfield 63, 3) := by decide +kernel
theorem d18_6 : decode prog_4_method_15_code 6 = .ok (.iload_n 1, 1) := by decide +kernel
theorem d18_7 : decode prog_4_method_15_code 7 = .ok (.aaload, 1) := by decide +kernel
theorem d18_8 : decode prog_4_method_15_code 8 = .ok (.astore 4, 2) := by decide +kernel
theorem d18_10 : decode prog_4_method_15_code 10 = .ok (.aload 4, 2) := by decide +kernel
theorem d18_12 : decode prog_4_method_15_code 12 = .ok (.arraylength, 1) := by decide +kernel
theorem d18_13 : decode prog_4_method_15_code 13 = .ok (.istore 5, 2) := by decide +kernel
theorem d18_15 : decode prog_4_method_15_code 15 = .ok (.iconst 0, 1) := by decide +kernel
theorem d18_16 : decode prog_4_method_15_code 16 = .ok (.istore 6, 2) := by decide +kernel
theorem d18_18 : decode prog_4_method_15_code 18 = .ok (.iload 6, 2) := by decide +kernel
theorem d18_20 : decode prog_4_method_15_code 20 = .ok (.iload 5, 2) := by decide +kernel
theorem d18_22 : decode prog_4_method_15_code 22 = .ok (.if_icmp .ge 27, 3) := by decide +kernel
theorem d18_25 : decode prog_4_method_15_code 25 = .ok (.aload 4, 2) := by decide +kernel
theorem d18_27 : decode prog_4_method_15_code 27 = .ok (.iload 6, 2) := by decide +kernel
theorem d18_29 : decode prog_4_method_15_code 29 = .ok (.iaload, 1) := by decide +kernel
theorem d18_30 : decode prog_4_method_15_code 30 = .ok (.istore 7, 2) := by decide +kernel
theorem d18_32 : decode prog_4_method_15_code 32 = .ok (.lload_n 2, 1) := by decide +kernel
theorem d18_33 : decode prog_4_method_15_code 33 = .ok (.aload_n 0, 1) := by decide +kernel
theorem d18_34 : decode prog_4_method_15_code 34 = .ok (.getfield 16, 3) := by decide +kernel
theorem d18_37 : decode prog_4_method_15_code 37 = .ok (.iload 7, 2) := by decide +kernel
theorem d18_39 : decode prog_4_method_15_code 39 = .ok (.iaload, 1) := by decide +kernel
theorem d18_40 : decode prog_4_method_15_code 40 = .ok (.i2l, 1) := by decide +kernel
theorem d18_41 : decode prog_4_method_15_code 41 = .ok (.ladd, 1) := by decide +kernel
theorem d18_42 : decode prog_4_method_15_code 42 = .ok (.lstore_n 2, 1) := by decide +kernel
theorem d18_43 : decode prog_4_method_15_code 43 = .ok (.iinc 6 1, 3) := by decide +kernel
theorem d18_46 : decode prog_4_method_15_code 46 = .ok (.goto (-28), 3) := by decide +kernel
theorem d18_49 : decode prog_4_method_15_code 49 = .ok (.lload_n 2, 1) := by decide +kernel
theorem d18_50 : decode prog_4_method_15_code 50 = .ok (.lreturn, 1) := by decide +kernel
theorem wd0 {a0 : Array Value} {Z : State} (hw : ∀ d ∈ tables_1, d.before a0 Z = true) : ((Jvm.Cond.constant "com/example/redoubt/redoubt/flow/FlowNetworkFlowPinLaw" (7 : Nat) (2147483647 : Int32)) : Jvm.Cond).before a0 Z = true := hw _ (List.mem_of_getElem? (i := 0) rfl)
theorem wd1 {a0 : Array Value} {Z : State} (hw : ∀ d ∈ tables_1, d.before a0 Z = true) : ((Jvm.Cond.classLink "com/example/redoubt/redoubt/flow/FlowNetworkFlowPinLaw" (8 : Nat) "com/example/redoubt/redoubt/flow/FlowNetwork") : Jvm.Cond).before a0 Z = true := hw _ (List.mem_of_getElem? (i := 1) rfl)
theorem wd2 {a0 : Array Value} {Z : State} (hw : ∀ d ∈ tables_1, d.before a0 Z = true) : ((Jvm.Cond.instantiable "com/example/redoubt/redoubt/flow/FlowNetwork" (7 : Nat)) : Jvm.Cond).before a0 Z = true := hw _ (List.mem_of_getElem? (i := 2) rfl)
theorem wd3 {a0 : Array Value} {Z : State} (hw : ∀ d ∈ tables_1, d.before a0 Z = true) : ((Jvm.Cond.initialized "com/example/redoubt/redoubt/flow/FlowNetwork") : Jvm.Cond).before a0 Z = true := hw _ (List.mem_of_getElem? (i := 3) rfl)
theorem wd4 {a0 : Array Value} {Z : State} (hw : ∀ d ∈ tables_1, d.before a0 Z = true) : ((Jvm.Cond.methodLink "com/example/redoubt/redoubt/flow/FlowNetworkFlowPinLaw" (10 : Nat) ({ cls := "com/example/redoubt/redoubt/flow/FlowNetwork", name := "<init>", desc := "(I)V" } : Jvm.MethodName)) : Jvm.Cond).before a0 Z = true := hw _ (List.mem_of_getElem? (i := 4) rfl)
theorem wd5 {a0 : Array Value} {Z : State} (hw : ∀ d ∈ tables_1, d.before a0 Z = true) : ((Jvm.Cond.instanceMethod ({ cls := "com/example/redoubt/redoubt/flow/FlowNetwork", name := "<init>", desc := "(I)V" } : Jvm.MethodName)) : Jvm.Cond).before a0 Z = true := hw _ (List.mem_of_getElem? (i := 5) rfl)
theorem wd6 {a0 : Array Value} {Z : State} (hw : ∀ d ∈ tables_1, d.before a0 Z = true) : ((Jvm.Cond.code ({ cls := "com/example/redoubt/redoubt/flow/FlowNetwork", name := "<init>", desc := "(I)V" } : Jvm.MethodName) prog_4_method_1_code (2 : Nat) (Option.none : Option Jvm.ClassFile.FieldType)) : Jvm.Cond).before a0 Z = true := hw _ (List.mem_of_getElem? (i := 6) rfl)
theorem wd7 {a0 : Array Value} {Z : State} (hw : ∀ d ∈ tables_1, d.before a0 Z = true) : ((Jvm.Cond.methodLink "com/example/redoubt/redoubt/flow/FlowNetwork" (1 : Nat) ({ cls := "java/lang/Object", name := "<init>", desc := "()V" } : Jvm.MethodName)) : Jvm.Cond).before a0 Z = true := hw _ (List.mem_of_getElem? (i := 7) rfl)
theorem wd8 {a0 : Array Value} {Z : State} (hw : ∀ d ∈ tables_1, d.before a0 Z = true) : ((Jvm.Cond.instanceMethod ({ cls := "java/lang/Object", name := "<init>", desc := "()V" } : Jvm.MethodName)) : Jvm.Cond).before a0 Z = true := hw _ (List.mem_of_getElem? (i := 8) rfl)
theorem wd9 {a0 : Array Value} {Z : State} (hw : ∀ d ∈ tables_1, d.before a0 Z = true) : ((Jvm.Cond.code ({ cls := "java/lang/Object", name := "<init>", desc := "()V" } : Jvm.MethodName) object_method_1_code (1 : Nat) (Option.none : Option Jvm.ClassFile.FieldType)) : Jvm.Cond).before a0 Z = true := hw _ (List.mem_of_getElem? (i := 9) rfl)
theorem wd10 {a0 : Array Value} {Z : State} (hw : ∀ d ∈ tables_1, d.before a0 Z = true) : ((Jvm.Cond.arrayClass Jvm.ClassFile.FieldType.int) : Jvm.Cond).before a0 Z = true := hw _ (List.mem_of_getElem? (i := 10) rfl)
theorem wd11 {a0 : Array Value} {Z : State} (hw : ∀ d ∈ tables_1, d.before a0 Z = true) : ((Jvm.Cond.fieldLink "com/example/redoubt/redoubt/flow/FlowNetwork" (7 : Nat) "com/example/redoubt/redoubt/flow/FlowNetwork" "head" "[I") : Jvm.Cond).before a0 Z = true := hw _ (List.mem_of_getElem? (i := 11) rfl)
theorem wd12 {a0 : Array Value} {Z : State} (hw : ∀ d ∈ tables_1, d.before a0 Z = true) : ((Jvm.Cond.lays "com/example/redoubt/redoubt/flow/FlowNetwork" "com/example/redoubt/redoubt/flow/FlowNetwork" "head" "[I") : Jvm.Cond).before a0 Z = true := hw _ (List.mem_of_getElem? (i := 12) rfl)
theorem wd13 {a0 : Array Value} {Z : State} (hw : ∀ d ∈ tables_1, d.before a0 Z = true) : ((Jvm.Cond.fieldLink "com/example/redoubt/redoubt/flow/FlowNetwork" (13 : Nat) "com/example/redoubt/redoubt/flow/FlowNetwork" "capacity" "[I") : Jvm.Cond).before a0 Z = true := hw _ (List.mem_of_getElem? (i := 13) rfl)
theorem wd14 {a0 : Array Value} {Z : State} (hw : ∀ d ∈ tables_1, d.before a0 Z = true) : ((Jvm.Cond.lays "com/example/redoubt/redoubt/flow/FlowNetwork" "com/example/redoubt/redoubt/flow/FlowNetwork" "capacity" "[I") : Jvm.Cond).before a0 Z = true := hw _ (List.mem_of_getElem? (i := 14) rfl)
theorem wd15 {a0 : Array Value} {Z : State} (hw : ∀ d ∈ tables_1, d.before a0 Z = true) : ((Jvm.Cond.fieldLink "com/example/redoubt/redoubt/flow/FlowNetwork" (16 : Nat) "com/example/redoubt/redoubt/flow/FlowNetwork" "flow" "[I") : Jvm.Cond).before a0 Z = true := hw _ (List.mem_of_getElem? (i := 15) rfl)
theorem wd16 {a0 : Array Value} {Z : State} (hw : ∀ d ∈ tables_1, d.before a0 Z = true) : ((Jvm.Cond.lays "com/example/redoubt/redoubt/flow/FlowNetwork" "com/example/redoubt/redoubt/flow/FlowNetwork" "flow" "[I") : Jvm.Cond).before a0 Z = true := hw _ (List.mem_of_getElem? (i := 16) rfl)
theorem wd17 {a0 : Array Value} {Z : State} (hw : ∀ d ∈ tables_1, d.before a0 Z = true) : ((Jvm.Cond.arrayClass Jvm.ClassFile.FieldType.long) : Jvm.Cond).before a0 Z = true := hw _ (List.mem_of_getElem? (i := 17) rfl)
theorem wd18 {a0 : Array Value} {Z : State} (hw : ∀ d ∈ tables_1, d.before a0 Z = true) : ((Jvm.Cond.fieldLink "com/example/redoubt/redoubt/flow/FlowNetwork" (19 : Nat) "com/example/redoubt/redoubt/flow/FlowNetwork" "cost" "[J") : Jvm.Cond).before a0 Z = true := hw _ (List.mem_of_getElem? (i := 18) rfl)
theorem wd19 {a0 : Array Value} {Z : State} (hw : ∀ d ∈ tables_1, d.before a0 Z = true) : ((Jvm.Cond.lays "com/example/redoubt/redoubt/flow/FlowNetwork" "com/example/redoubt/redoubt/flow/FlowNetwork" "cost" "[J") : Jvm.Cond).before a0 Z = true := hw _ (List.mem_of_getElem? (i := 19) rfl)
theorem wd20 {a0 : Array Value} {Z : State} (hw : ∀ d ∈ tables_1, d.before a0 Z = true) : ((Jvm.Cond.fieldLink "com/example/redoubt/redoubt/flow/FlowNetwork" (32 : Nat) "com/example/redoubt/redoubt/flow/FlowNetwork" "nodes" "I") : Jvm.Cond).before a0 Z = true := hw _ (List.mem_of_getElem? (i := 20) rfl)
theorem wd21 {a0 : Array Value} {Z : State} (hw : ∀ d ∈ tables_1, d.before a0 Z = true) : ((Jvm.Cond.laysFinal "com/example/redoubt/redoubt/flow/FlowNetwork" "com/example/redoubt/redoubt/flow/FlowNetwork" "nodes" "I") : Jvm.Cond).before a0 Z = true := hw _ (List.mem_of_getElem? (i := 21) rfl)
theorem wd22 {a0 : Array Value} {Z : State} (hw : ∀ d ∈ tables_1, d.before a0 Z = true) : ((Jvm.Cond.methodLink "com/example/redoubt/redoubt/flow/FlowNetworkFlowPinLaw" (13 : Nat) ({ cls := "com/example/redoubt/redoubt/flow/FlowNetwork", name := "addArc", desc := "(III)I" } : Jvm.MethodName)) : Jvm.Cond).before a0 Z = true := hw _ (List.mem_of_getElem? (i := 22) rfl)
theorem wd23 {a0 : Array Value} {Z : State} (hw : ∀ d ∈ tables_1, d.before a0 Z = true) : ((Jvm.Cond.declares ({ cls := "com/example/redoubt/redoubt/flow/FlowNetwork", name := "addArc", desc := "(III)I" } : Jvm.MethodName)) : Jvm.Cond).before a0 Z = true := hw _ (List.mem_of_getElem? (i := 23) rfl)
theorem wd24 {a0 : Array Value} {Z : State} (hw : ∀ d ∈ tables_1, d.before a0 Z = true) : ((Jvm.Cond.instanceMethod ({ cls := "com/example/redoubt/redoubt/flow/FlowNetwork", name := "addArc", desc := "(III)I" } : Jvm.MethodName)) : Jvm.Cond).before a0 Z = true := hw _ (List.mem_of_getElem? (i := 24) rfl)
theorem wd25 {a0 : Array Value} {Z : State} (hw : ∀ d ∈ tables_1, d.before a0 Z = true) : ((Jvm.Cond.selects "com/example/redoubt/redoubt/flow/FlowNetwork" ({ cls := "com/example/redoubt/redoubt/flow/FlowNetwork", name := "addArc", desc := "(III)I" } : Jvm.MethodName) ({ cls := "com/example/redoubt/redoubt/flow/FlowNetwork", name := "addArc", desc := "(III)I" } : Jvm.MethodName)) : Jvm.Cond).before a0 Z = true := hw _ (List.mem_of_getElem? (i := 25) rfl)
theorem wd26 {a0 : Array Value} {Z : State} (hw : ∀ d ∈ tables_1, d.before a0 Z = true) : ((Jvm.Cond.code ({ cls := "com/example/redoubt/redoubt/flow/FlowNetwork", name := "addArc", desc := "(III)I" } : Jvm.MethodName) prog_4_method_2_code (4 : Nat) (Option.some Jvm.ClassFile.FieldType.int)) : Jvm.Cond).before a0 Z = true := hw _ (List.mem_of_getElem? (i := 26) rfl)
theorem wd27 {a0 : Array Value} {Z : State} (hw : ∀ d ∈ tables_1, d.before a0 Z = true) : ((Jvm.Cond.methodLink "com/example/redoubt/redoubt/flow/FlowNetwork" (36 : Nat) ({ cls := "com/example/redoubt/redoubt/flow/FlowNetwork", name := "addArc", desc := "(IIIJ)I" } : Jvm.MethodName)) : Jvm.Cond).before a0 Z = true := hw _ (List.mem_of_getElem? (i := 27) rfl)
theorem wd28 {a0 : Array Value} {Z : State} (hw : ∀ d ∈ tables_1, d.before a0 Z = true) : ((Jvm.Cond.declares ({ cls := "com/example/redoubt/redoubt/flow/FlowNetwork", name := "addArc", desc := "(IIIJ)I" } : Jvm.MethodName)) : Jvm.Cond).before a0 Z = true := hw _ (List.mem_of_getElem? (i := 28) rfl)
theorem wd29 {a0 : Array Value} {Z : State} (hw : ∀ d ∈ tables_1, d.before a0 Z = true) : ((Jvm.Cond.instanceMethod ({ cls := "com/example/redoubt/redoubt/flow/FlowNetwork", name := "addArc", desc := "(IIIJ)I" } : Jvm.MethodName)) : Jvm.Cond).before a0 Z = true := hw _ (List.mem_of_getElem? (i := 29) rfl)
theorem wd30 {a0 : Array Value} {Z : State} (hw : ∀ d ∈ tables_1, d.before a0 Z = true) : ((Jvm.Cond.selects "com/example/redoubt/redoubt/flow/FlowNetwork" ({ cls := "com/example/redoubt/redoubt/flow/FlowNetwork", name := "addArc", desc := "(IIIJ)I" } : Jvm.MethodName) ({ cls := "com/example/redoubt/redoubt/flow/FlowNetwork", name := "addArc", desc := "(IIIJ)I" } : Jvm.MethodName)) : Jvm.Cond).before a0 Z = true := hw _ (List.mem_of_getElem? (i := 30) rfl)
theorem wd31 {a0 : Array Value} {Z : State} (hw : ∀ d ∈ tables_1, d.before a0 Z = true) : ((Jvm.Cond.code ({ cls := "com/example/redoubt/redoubt/flow/FlowNetwork", name := "addArc", desc := "(IIIJ)I" } : Jvm.MethodName) prog_4_method_3_code (6 : Nat) (Option.some Jvm.ClassFile.FieldType.int)) : Jvm.Cond).before a0 Z = true := hw _ (List.mem_of_getElem? (i := 31) rfl)
theorem wd32 {a0 : Array Value} {Z : State} (hw : ∀ d ∈ tables_1, d.before a0 Z = true) : ((Jvm.Cond.methodLink "com/example/redoubt/redoubt/flow/FlowNetwork" (40 : Nat) ({ cls := "com/example/redoubt/redoubt/flow/FlowNetwork", name := "checkNode", desc := "(I)V" } : Jvm.MethodName)) : Jvm.Cond).before a0 Z = true := hw _ (List.mem_of_getElem? (i := 32) rfl)
theorem wd33 {a0 : Array Value} {Z : State} (hw : ∀ d ∈ tables_1, d.before a0 Z = true) : ((Jvm.Cond.instanceMethod ({ cls := "com/example/redoubt/redoubt/flow/FlowNetwork", name := "checkNode", desc := "(I)V" } : Jvm.MethodName)) : Jvm.Cond).before a0 Z = true := hw _ (List.mem_of_getElem? (i := 33) rfl)
theorem wd34 {a0 : Array Value} {Z : State} (hw : ∀ d ∈ tables_1, d.before a0 Z = true) : ((Jvm.Cond.privateMethod ({ cls := "com/example/redoubt/redoubt/flow/FlowNetwork", name := "checkNode", desc := "(I)V" } : Jvm.MethodName)) : Jvm.Cond).before a0 Z = true := hw _ (List.mem_of_getElem? (i := 34) rfl)
theorem wd35 {a0 : Array Value} {Z : State} (hw : ∀ d ∈ tables_1, d.before a0 Z = true) : ((Jvm.Cond.code ({ cls := "com/example/redoubt/redoubt/flow/FlowNetwork", name := "checkNode", desc := "(I)V" } : Jvm.MethodName) prog_4_method_17_code (2 : Nat) (Option.none : Option Jvm.ClassFile.FieldType)) : Jvm.Cond).before a0 Z = true := hw _ (List.mem_of_getElem? (i := 35) rfl)
theorem wd36 {a0 : Array Value} {Z : State} (hw : ∀ d ∈ tables_1, d.before a0 Z = true) : ((Jvm.Cond.methodLink "com/example/redoubt/redoubt/flow/FlowNetwork" (44 : Nat) ({ cls := "com/example/redoubt/redoubt/flow/FlowNetwork", name := "checkCapacity", desc := "(I)V" } : Jvm.MethodName)) : Jvm.Cond).before a0 Z = true := hw _ (List.mem_of_getElem? (i := 36) rfl)
theorem wd37 {a0 : Array Value} {Z : State} (hw : ∀ d ∈ tables_1, d.before a0 Z = true) : ((Jvm.Cond.static ({ cls := "com/example/redoubt/redoubt/flow/FlowNetwork", name := "checkCapacity", desc := "(I)V" } : Jvm.MethodName)) : Jvm.Cond).before a0 Z = true := hw _ (List.mem_of_getElem? (i := 37) rfl)
theorem wd38 {a0 : Array Value} {Z : State} (hw : ∀ d ∈ tables_1, d.before a0 Z = true) : ((Jvm.Cond.code ({ cls := "com/example/redoubt/redoubt/flow/FlowNetwork", name := "checkCapacity", desc := "(I)V" } : Jvm.MethodName) prog_4_method_19_code (1 : Nat) (Option.none : Option Jvm.ClassFile.FieldType)) : Jvm.Cond).before a0 Z = true := hw _ (List.mem_of_getElem? (i := 38) rfl)
theorem wd39 {a0 : Array Value} {Z : State} (hw : ∀ d ∈ tables_1, d.before a0 Z = true) : ((Jvm.Cond.methodLink "com/example/redoubt/redoubt/flow/FlowNetwork" (47 : Nat) ({ cls := "com/example/redoubt/redoubt/flow/FlowNetwork", name := "checkCost", desc := "(J)V" } : Jvm.MethodName)) : Jvm.Cond).before a0 Z = true := hw _ (List.mem_of_getElem? (i := 39) rfl)
theorem wd40 {a0 : Array Value} {Z : State} (hw : ∀ d ∈ tables_1, d.before a0 Z = true) : ((Jvm.Cond.static ({ cls := "com/example/redoubt/redoubt/flow/FlowNetwork", name := "checkCost", desc := "(J)V" } : Jvm.MethodName)) : Jvm.Cond).before a0 Z = true := hw _ (List.mem_of_getElem? (i := 40) rfl)
theorem wd41 {a0 : Array Value} {Z : State} (hw : ∀ d ∈ tables_1, d.before a0 Z = true) : ((Jvm.Cond.code ({ cls := "com/example/redoubt/redoubt/flow/FlowNetwork", name := "checkCost", desc := "(J)V" } : Jvm.MethodName) prog_4_method_20_code (2 : Nat) (Option.none : Option Jvm.ClassFile.FieldType)) : Jvm.Cond).before a0 Z = true := hw _ (List.mem_of_getElem? (i := 41) rfl)
theorem wd42 {a0 : Array Value} {Z : State} (hw : ∀ d ∈ tables_1, d.before a0 Z = true) : ((Jvm.Cond.fieldLink "com/example/redoubt/redoubt/flow/FlowNetwork" (51 : Nat) "com/example/redoubt/redoubt/flow/FlowNetwork" "halfArcs" "I") : Jvm.Cond).before a0 Z = true := hw _ (List.mem_of_getElem? (i := 42) rfl)
theorem wd43 {a0 : Array Value} {Z : State} (hw : ∀ d ∈ tables_1, d.before a0 Z = true) : ((Jvm.Cond.lays "com/example/redoubt/redoubt/flow/FlowNetwork" "com/example/redoubt/redoubt/flow/FlowNetwork" "halfArcs" "I") : Jvm.Cond).before a0 Z = true := hw _ (List.mem_of_getElem? (i := 43) rfl)
theorem wd44 {a0 : Array Value} {Z : State} (hw : ∀ d ∈ tables_1, d.before a0 Z = true) : ((Jvm.Cond.fieldLink "com/example/redoubt/redoubt/flow/FlowNetwork" (63 : Nat) "com/example/redoubt/redoubt/flow/FlowNetwork" "outgoing" "[[I") : Jvm.Cond).before a0 Z = true := hw _ (List.mem_of_getElem? (i := 44) rfl)
theorem wd45 {a0 : Array Value} {Z : State} (hw : ∀ d ∈ tables_1, d.before a0 Z = true) : ((Jvm.Cond.lays "com/example/redoubt/redoubt/flow/FlowNetwork" "com/example/redoubt/redoubt/flow/FlowNetwork" "outgoing" "[[I") : Jvm.Cond).before a0 Z = true := hw _ (List.mem_of_getElem? (i := 45) rfl)
theorem wd46 {a0 : Array Value} {Z : State} (hw : ∀ d ∈ tables_1, d.before a0 Z = true) : ((Jvm.Cond.methodLink "com/example/redoubt/redoubt/flow/FlowNetworkFlowPinLaw" (17 : Nat) ({ cls := "com/example/redoubt/redoubt/flow/FlowNetwork", name := "flow", desc := "(I)I" } : Jvm.MethodName)) : Jvm.Cond).before a0 Z = true := hw _ (List.mem_of_getElem? (i := 46) rfl)
theorem wd47 {a0 : Array Value} {Z : State} (hw : ∀ d ∈ tables_1, d.before a0 Z = true) : ((Jvm.Cond.declares ({ cls := "com/example/redoubt/redoubt/flow/FlowNetwork", name := "flow", desc := "(I)I" } : Jvm.MethodName)) : Jvm.Cond).before a0 Z = true := hw _ (List.mem_of_getElem? (i := 47) rfl)
theorem wd48 {a0 : Array Value} {Z : State} (hw : ∀ d ∈ tables_1, d.before a0 Z = true) : ((Jvm.Cond.instanceMethod ({ cls := "com/example/redoubt/redoubt/flow/FlowNetwork", name := "flow", desc := "(I)I" } : Jvm.MethodName)) : Jvm.Cond).before a0 Z = true := hw _ (List.mem_of_getElem? (i := 48) rfl)
theorem wd49 {a0 : Array Value} {Z : State} (hw : ∀ d ∈ tables_1, d.before a0 Z = true) : ((Jvm.Cond.selects "com/example/redoubt/redoubt/flow/FlowNetwork" ({ cls := "com/example/redoubt/redoubt/flow/FlowNetwork", name := "flow", desc := "(I)I" } : Jvm.MethodName) ({ cls := "com/example/redoubt/redoubt/flow/FlowNetwork", name := "flow", desc := "(I)I" } : Jvm.MethodName)) : Jvm.Cond).before a0 Z = true := hw _ (List.mem_of_getElem? (i := 49) rfl)
theorem wd50 {a0 : Array Value} {Z : State} (hw : ∀ d ∈ tables_1, d.before a0 Z = true) : ((Jvm.Cond.code ({ cls := "com/example/redoubt/redoubt/flow/FlowNetwork", name := "flow", desc := "(I)I" } : Jvm.MethodName) prog_4_method_6_code (2 : Nat) (Option.some Jvm.ClassFile.FieldType.int)) : Jvm.Cond).before a0 Z = true := hw _ (List.mem_of_getElem? (i := 50) rfl)
theorem wd51 {a0 : Array Value} {Z : State} (hw : ∀ d ∈ tables_1, d.before a0 Z = true) : ((Jvm.Cond.methodLink "com/example/redoubt/redoubt/flow/FlowNetwork" (67 : Nat) ({ cls := "com/example/redoubt/redoubt/flow/FlowNetwork", name := "checkArc", desc := "(I)V" } : Jvm.MethodName)) : Jvm.Cond).before a0 Z = true := hw _ (List.mem_of_getElem? (i := 51) rfl)
theorem wd52 {a0 : Array Value} {Z : State} (hw : ∀ d ∈ tables_1, d.before a0 Z = true) : ((Jvm.Cond.instanceMethod ({ cls := "com/example/redoubt/redoubt/flow/FlowNetwork", name := "checkArc", desc := "(I)V" } : Jvm.MethodName)) : Jvm.Cond).before a0 Z = true := hw _ (List.mem_of_getElem? (i := 52) rfl)
theorem wd53 {a0 : Array Value} {Z : State} (hw : ∀ d ∈ tables_1, d.before a0 Z = true) : ((Jvm.Cond.privateMethod ({ cls := "com/example/redoubt/redoubt/flow/FlowNetwork", name := "checkArc", desc := "(I)V" } : Jvm.MethodName)) : Jvm.Cond).before a0 Z = true := hw _ (List.mem_of_getElem? (i := 53) rfl)
theorem wd54 {a0 : Array Value} {Z : State} (hw : ∀ d ∈ tables_1, d.before a0 Z = true) : ((Jvm.Cond.code ({ cls := "com/example/redoubt/redoubt/flow/FlowNetwork", name := "checkArc", desc := "(I)V" } : Jvm.MethodName) prog_4_method_18_code (2 : Nat) (Option.none : Option Jvm.ClassFile.FieldType)) : Jvm.Cond).before a0 Z = true := hw _ (List.mem_of_getElem? (i := 54) rfl)
theorem wd55 {a0 : Array Value} {Z : State} (hw : ∀ d ∈ tables_1, d.before a0 Z = true) : ((Jvm.Cond.methodLink "com/example/redoubt/redoubt/flow/FlowNetworkFlowPinLaw" (21 : Nat) ({ cls := "com/example/redoubt/redoubt/flow/FlowNetwork", name := "maxFlow", desc := "(II)J" } : Jvm.MethodName)) : Jvm.Cond).before a0 Z = true := hw _ (List.mem_of_getElem? (i := 55) rfl)
theorem wd56 {a0 : Array Value} {Z : State} (hw : ∀ d ∈ tables_1, d.before a0 Z = true) : ((Jvm.Cond.declares ({ cls := "com/example/redoubt/redoubt/flow/FlowNetwork", name := "maxFlow", desc := "(II)J" } : Jvm.MethodName)) : Jvm.Cond).before a0 Z = true := hw _ (List.mem_of_getElem? (i := 56) rfl)
theorem wd57 {a0 : Array Value} {Z : State} (hw : ∀ d ∈ tables_1, d.before a0 Z = true) : ((Jvm.Cond.instanceMethod ({ cls := "com/example/redoubt/redoubt/flow/FlowNetwork", name := "maxFlow", desc := "(II)J" } : Jvm.MethodName)) : Jvm.Cond).before a0 Z = true := hw _ (List.mem_of_getElem? (i := 57) rfl)
theorem wd58 {a0 : Array Value} {Z : State} (hw : ∀ d ∈ tables_1, d.before a0 Z = true) : ((Jvm.Cond.selects "com/example/redoubt/redoubt/flow/FlowNetwork" ({ cls := "com/example/redoubt/redoubt/flow/FlowNetwork", name := "maxFlow", desc := "(II)J" } : Jvm.MethodName) ({ cls := "com/example/redoubt/redoubt/flow/FlowNetwork", name := "maxFlow", desc := "(II)J" } : Jvm.MethodName)) : Jvm.Cond).before a0 Z = true := hw _ (List.mem_of_getElem? (i := 58) rfl)
theorem wd59 {a0 : Array Value} {Z : State} (hw : ∀ d ∈ tables_1, d.before a0 Z = true) : ((Jvm.Cond.code ({ cls := "com/example/redoubt/redoubt/flow/FlowNetwork", name := "maxFlow", desc := "(II)J" } : Jvm.MethodName) prog_4_method_8_code (6 : Nat) (Option.some Jvm.ClassFile.FieldType.long)) : Jvm.Cond).before a0 Z = true := hw _ (List.mem_of_getElem? (i := 59) rfl)
theorem wd60 {a0 : Array Value} {Z : State} (hw : ∀ d ∈ tables_1, d.before a0 Z = true) : ((Jvm.Cond.methodLink "com/example/redoubt/redoubt/flow/FlowNetwork" (77 : Nat) ({ cls := "com/example/redoubt/redoubt/flow/FlowNetwork", name := "prepare", desc := "(II)V" } : Jvm.MethodName)) : Jvm.Cond).before a0 Z = true := hw _ (List.mem_of_getElem? (i := 60) rfl)
theorem wd61 {a0 : Array Value} {Z : State} (hw : ∀ d ∈ tables_1, d.before a0 Z = true) : ((Jvm.Cond.instanceMethod ({ cls := "com/example/redoubt/redoubt/flow/FlowNetwork", name := "prepare", desc := "(II)V" } : Jvm.MethodName)) : Jvm.Cond).before a0 Z = true := hw _ (List.mem_of_getElem? (i := 61) rfl)
theorem wd62 {a0 : Array Value} {Z : State} (hw : ∀ d ∈ tables_1, d.before a0 Z = true) : ((Jvm.Cond.privateMethod ({ cls := "com/example/redoubt/redoubt/flow/FlowNetwork", name := "prepare", desc := "(II)V" } : Jvm.MethodName)) : Jvm.Cond).before a0 Z = true := hw _ (List.mem_of_getElem? (i := 62) rfl)
theorem wd63 {a0 : Array Value} {Z : State} (hw : ∀ d ∈ tables_1, d.before a0 Z = true) : ((Jvm.Cond.code ({ cls := "com/example/redoubt/redoubt/flow/FlowNetwork", name := "prepare", desc := "(II)V" } : Jvm.MethodName) prog_4_method_14_code (3 : Nat) (Option.none : Option Jvm.ClassFile.FieldType)) : Jvm.Cond).before a0 Z = true := hw _ (List.mem_of_getElem? (i := 63) rfl)
theorem wd64 {a0 : Array Value} {Z : State} (hw : ∀ d ∈ tables_1, d.before a0 Z = true) : ((Jvm.Cond.methodLink "com/example/redoubt/redoubt/flow/FlowNetwork" (126 : Nat) ({ cls := "com/example/redoubt/redoubt/flow/FlowNetwork", name := "groupBySource", desc := "()[[I" } : Jvm.MethodName)) : Jvm.Cond).before a0 Z = true := hw _ (List.mem_of_getElem? (i := 64) rfl)
theorem wd65 {a0 : Array Value} {Z : State} (hw : ∀ d ∈ tables_1, d.before a0 Z = true) : ((Jvm.Cond.instanceMethod ({ cls := "com/example/redoubt/redoubt/flow/FlowNetwork", name := "groupBySource", desc := "()[[I" } : Jvm.MethodName)) : Jvm.Cond).before a0 Z = true := hw _ (List.mem_of_getElem? (i := 65) rfl)
theorem wd66 {a0 : Array Value} {Z : State} (hw : ∀ d ∈ tables_1, d.before a0 Z = true) : ((Jvm.Cond.privateMethod ({ cls := "com/example/redoubt/redoubt/flow/FlowNetwork", name := "groupBySource", desc := "()[[I" } : Jvm.MethodName)) : Jvm.Cond).before a0 Z = true := hw _ (List.mem_of_getElem? (i := 66) rfl)
theorem wd67 {a0 : Array Value} {Z : State} (hw : ∀ d ∈ tables_1, d.before a0 Z = true) : ((Jvm.Cond.code ({ cls := "com/example/redoubt/redoubt/flow/FlowNetwork", name := "groupBySource", desc := "()[[I" } : Jvm.MethodName) prog_4_method_16_code (5 : Nat) (Option.some (Jvm.ClassFile.FieldType.array (Jvm.ClassFile.FieldType.array Jvm.ClassFile.FieldType.int)))) : Jvm.Cond).before a0 Z = true := hw _ (List.mem_of_getElem? (i := 67) rfl)
theorem wd68 {a0 : Array Value} {Z : State} (hw : ∀ d ∈ tables_1, d.before a0 Z = true) : ((Jvm.Cond.classLink "com/example/redoubt/redoubt/flow/FlowNetwork" (130 : Nat) "[I") : Jvm.Cond).before a0 Z = true := hw _ (List.mem_of_getElem? (i := 68) rfl)
theorem wd69 {a0 : Array Value} {Z : State} (hw : ∀ d ∈ tables_1, d.before a0 Z = true) : ((Jvm.Cond.arrayOver (Jvm.ClassFile.FieldType.array Jvm.ClassFile.FieldType.int)) : Jvm.Cond).before a0 Z = true := hw _ (List.mem_of_getElem? (i := 69) rfl)
theorem wd71 {a0 : Array Value} {Z : State} (hw : ∀ d ∈ tables_1, d.before a0 Z = true) : ((Jvm.Cond.methodLink "com/example/redoubt/redoubt/flow/FlowNetwork" (81 : Nat) ({ cls := "com/example/redoubt/redoubt/flow/FlowNetwork", name := "levelFromSource", desc := "(II[I)Z" } : Jvm.MethodName)) : Jvm.Cond).before a0 Z = true := hw _ (List.mem_of_getElem? (i := 71) rfl)
theorem wd72 {a0 : Array Value} {Z : State} (hw : ∀ d ∈ tables_1, d.before a0 Z = true) : ((Jvm.Cond.instanceMethod ({ cls := "com/example/redoubt/redoubt/flow/FlowNetwork", name := "levelFromSource", desc := "(II[I)Z" } : Jvm.MethodName)) : Jvm.Cond).before a0 Z = true := hw _ (List.mem_of_getElem? (i := 72) rfl)
theorem wd73 {a0 : Array Value} {Z : State} (hw : ∀ d ∈ tables_1, d.before a0 Z = true) : ((Jvm.Cond.privateMethod ({ cls := "com/example/redoubt/redoubt/flow/FlowNetwork", name := "levelFromSource", desc := "(II[I)Z" } : Jvm.MethodName)) : Jvm.Cond).before a0 Z = true := hw _ (List.mem_of_getElem? (i := 73) rfl)
theorem wd74 {a0 : Array Value} {Z : State} (hw : ∀ d ∈ tables_1, d.before a0 Z = true) : ((Jvm.Cond.code ({ cls := "com/example/redoubt/redoubt/flow/FlowNetwork", name := "levelFromSource", desc := "(II[I)Z" } : Jvm.MethodName) prog_4_method_10_code (13 : Nat) (Option.some Jvm.ClassFile.FieldType.boolean)) : Jvm.Cond).before a0 Z = true := hw _ (List.mem_of_getElem? (i := 74) rfl)
theorem wd75 {a0 : Array Value} {Z : State} (hw : ∀ d ∈ tables_1, d.before a0 Z = true) : ((Jvm.Cond.methodLink "com/example/redoubt/redoubt/flow/FlowNetwork" (85 : Nat) ({ cls := "java/util/Arrays", name := "fill", desc := "([II)V" } : Jvm.MethodName)) : Jvm.Cond).before a0 Z = true := hw _ (List.mem_of_getElem? (i := 75) rfl)
theorem wd76 {a0 : Array Value} {Z : State} (hw : ∀ d ∈ tables_1, d.before a0 Z = true) : ((Jvm.Cond.static ({ cls := "java/util/Arrays", name := "fill", desc := "([II)V" } : Jvm.MethodName)) : Jvm.Cond).before a0 Z = true := hw _ (List.mem_of_getElem? (i := 76) rfl)
theorem wd77 {a0 : Array Value} {Z : State} (hw : ∀ d ∈ tables_1, d.before a0 Z = true) : ((Jvm.Cond.initialized "java/util/Arrays") : Jvm.Cond).before a0 Z = true := hw _ (List.mem_of_getElem? (i := 77) rfl)
theorem wd78 {a0 : Array Value} {Z : State} (hw : ∀ d ∈ tables_1, d.before a0 Z = true) : ((Jvm.Cond.code ({ cls := "java/util/Arrays", name := "fill", desc := "([II)V" } : Jvm.MethodName) jdk_65_method_103_code (4 : Nat) (Option.none : Option Jvm.ClassFile.FieldType)) : Jvm.Cond).before a0 Z = true := hw _ (List.mem_of_getElem? (i := 78) rfl)
theorem wd79 {a0 : Array Value} {Z : State} (hw : ∀ d ∈ tables_1, d.before a0 Z = true) : ((Jvm.Cond.methodLink "com/example/redoubt/redoubt/flow/FlowNetwork" (108 : Nat) ({ cls := "com/example/redoubt/redoubt/flow/FlowNetwork", name := "residual", desc := "(I)I" } : Jvm.MethodName)) : Jvm.Cond).before a0 Z = true := hw _ (List.mem_of_getElem? (i := 79) rfl)
theorem wd80 {a0 : Array Value} {Z : State} (hw : ∀ d ∈ tables_1, d.before a0 Z = true) : ((Jvm.Cond.instanceMethod ({ cls := "com/example/redoubt/redoubt/flow/FlowNetwork", name := "residual", desc := "(I)I" } : Jvm.MethodName)) : Jvm.Cond).before a0 Z = true := hw _ (List.mem_of_getElem? (i := 80) rfl)
theorem wd81 {a0 : Array Value} {Z : State} (hw : ∀ d ∈ tables_1, d.before a0 Z = true) : ((Jvm.Cond.privateMethod ({ cls := "com/example/redoubt/redoubt/flow/FlowNetwork", name := "residual", desc := "(I)I" } : Jvm.MethodName)) : Jvm.Cond).before a0 Z = true := hw _ (List.mem_of_getElem? (i := 81) rfl)
theorem wd82 {a0 : Array Value} {Z : State} (hw : ∀ d ∈ tables_1, d.before a0 Z = true) : ((Jvm.Cond.code ({ cls := "com/example/redoubt/redoubt/flow/FlowNetwork", name := "residual", desc := "(I)I" } : Jvm.MethodName) prog_4_method_13_code (2 : Nat) (Option.some Jvm.ClassFile.FieldType.int)) : Jvm.Cond).before a0 Z = true := hw _ (List.mem_of_getElem? (i := 82) rfl)
theorem wd83 {a0 : Array Value} {Z : State} (hw : ∀ d ∈ tables_1, d.before a0 Z = true) : ((Jvm.Cond.methodLink "com/example/redoubt/redoubt/flow/FlowNetwork" (88 : Nat) ({ cls := "com/example/redoubt/redoubt/flow/FlowNetwork", name := "blockingFlow", desc := "(II[I[I[I)V" } : Jvm.MethodName)) : Jvm.Cond).before a0 Z = true := hw _ (List.mem_of_getElem? (i := 83) rfl)
theorem wd84 {a0 : Array Value} {Z : State} (hw : ∀ d ∈ tables_1, d.before a0 Z = true) : ((Jvm.Cond.instanceMethod ({ cls := "com/example/redoubt/redoubt/flow/FlowNetwork", name := "blockingFlow", desc := "(II[I[I[I)V" } : Jvm.MethodName)) : Jvm.Cond).before a0 Z = true := hw _ (List.mem_of_getElem? (i := 84) rfl)
theorem wd85 {a0 : Array Value} {Z : State} (hw : ∀ d ∈ tables_1, d.before a0 Z = true) : ((Jvm.Cond.privateMethod ({ cls := "com/example/redoubt/redoubt/flow/FlowNetwork", name := "blockingFlow", desc := "(II[I[I[I)V" } : Jvm.MethodName)) : Jvm.Cond).before a0 Z = true := hw _ (List.mem_of_getElem? (i := 85) rfl)
theorem wd86 {a0 : Array Value} {Z : State} (hw : ∀ d ∈ tables_1, d.before a0 Z = true) : ((Jvm.Cond.code ({ cls := "com/example/redoubt/redoubt/flow/FlowNetwork", name := "blockingFlow", desc := "(II[I[I[I)V" } : Jvm.MethodName) prog_4_method_11_code (10 : Nat) (Option.none : Option Jvm.ClassFile.FieldType)) : Jvm.Cond).before a0 Z = true := hw _ (List.mem_of_getElem? (i := 86) rfl)
theorem wd87 {a0 : Array Value} {Z : State} (hw : ∀ d ∈ tables_1, d.before a0 Z = true) : ((Jvm.Cond.methodLink "com/example/redoubt/redoubt/flow/FlowNetwork" (121 : Nat) ({ cls := "com/example/redoubt/redoubt/flow/FlowNetwork", name := "climbs", desc := "(I[I)Z" } : Jvm.MethodName)) : Jvm.Cond).before a0 Z = true := hw _ (List.mem_of_getElem? (i := 87) rfl)
theorem wd88 {a0 : Array Value} {Z : State} (hw : ∀ d ∈ tables_1, d.before a0 Z = true) : ((Jvm.Cond.instanceMethod ({ cls := "com/example/redoubt/redoubt/flow/FlowNetwork", name := "climbs", desc := "(I[I)Z" } : Jvm.MethodName)) : Jvm.Cond).before a0 Z = true := hw _ (List.mem_of_getElem? (i := 88) rfl)
theorem wd89 {a0 : Array Value} {Z : State} (hw : ∀ d ∈ tables_1, d.before a0 Z = true) : ((Jvm.Cond.privateMethod ({ cls := "com/example/redoubt/redoubt/flow/FlowNetwork", name := "climbs", desc := "(I[I)Z" } : Jvm.MethodName)) : Jvm.Cond).before a0 Z = true := hw _ (List.mem_of_getElem? (i := 89) rfl)
theorem wd90 {a0 : Array Value} {Z : State} (hw : ∀ d ∈ tables_1, d.before a0 Z = true) : ((Jvm.Cond.code ({ cls := "com/example/redoubt/redoubt/flow/FlowNetwork", name := "climbs", desc := "(I[I)Z" } : Jvm.MethodName) prog_4_method_12_code (3 : Nat) (Option.some Jvm.ClassFile.FieldType.boolean)) : Jvm.Cond).before a0 Z = true := hw _ (List.mem_of_getElem? (i := 90) rfl)
theorem wd91 {a0 : Array Value} {Z : State} (hw : ∀ d ∈ tables_1, d.before a0 Z = true) : ((Jvm.Cond.constant "com/example/redoubt/redoubt/flow/FlowNetwork" (114 : Nat) (2147483647 : Int32)) : Jvm.Cond).before a0 Z = true := hw _ (List.mem_of_getElem? (i := 91) rfl)
theorem wd92 {a0 : Array Value} {Z : State} (hw : ∀ d ∈ tables_1, d.before a0 Z = true) : ((Jvm.Cond.methodLink "com/example/redoubt/redoubt/flow/FlowNetwork" (115 : Nat) ({ cls := "java/lang/Math", name := "min", desc := "(II)I" } : Jvm.MethodName)) : Jvm.Cond).before a0 Z = true := hw _ (List.mem_of_getElem? (i := 92) rfl)
theorem wd93 {a0 : Array Value} {Z : State} (hw : ∀ d ∈ tables_1, d.before a0 Z = true) : ((Jvm.Cond.static ({ cls := "java/lang/Math", name := "min", desc := "(II)I" } : Jvm.MethodName)) : Jvm.Cond).before a0 Z = true := hw _ (List.mem_of_getElem? (i := 93) rfl)
theorem wd94 {a0 : Array Value} {Z : State} (hw : ∀ d ∈ tables_1, d.before a0 Z = true) : ((Jvm.Cond.initialized "java/lang/Math") : Jvm.Cond).before a0 Z = true := hw _ (List.mem_of_getElem? (i := 94) rfl)
theorem wd95 {a0 : Array Value} {Z : State} (hw : ∀ d ∈ tables_1, d.before a0 Z = true) : ((Jvm.Cond.code ({ cls := "java/lang/Math", name := "min", desc := "(II)I" } : Jvm.MethodName) jdk_29_method_69_code (2 : Nat) (Option.some Jvm.ClassFile.FieldType.int)) : Jvm.Cond).before a0 Z = true := hw _ (List.mem_of_getElem? (i := 95) rfl)
theorem wd96 {a0 : Array Value} {Z : State} (hw : ∀ d ∈ tables_1, d.before a0 Z = true) : ((Jvm.Cond.methodLink "com/example/redoubt/redoubt/flow/FlowNetwork" (92 : Nat) ({ cls := "com/example/redoubt/redoubt/flow/FlowNetwork", name := "outflow", desc := "(I)J" } : Jvm.MethodName)) : Jvm.Cond).before a0 Z = true := hw _ (List.mem_of_getElem? (i := 96) rfl)
theorem wd97 {a0 : Array Value} {Z : State} (hw : ∀ d ∈ tables_1, d.before a0 Z = true) : ((Jvm.Cond.instanceMethod ({ cls := "com/example/redoubt/redoubt/flow/FlowNetwork", name := "outflow", desc := "(I)J" } : Jvm.MethodName)) : Jvm.Cond).before a0 Z = true := hw _ (List.mem_of_getElem? (i := 97) rfl)
theorem wd98 {a0 : Array Value} {Z : State} (hw : ∀ d ∈ tables_1, d.before a0 Z = true) : ((Jvm.Cond.privateMethod ({ cls := "com/example/redoubt/redoubt/flow/FlowNetwork", name := "outflow", desc := "(I)J" } : Jvm.MethodName)) : Jvm.Cond).before a0 Z = true := hw _ (List.mem_of_getElem? (i := 98) rfl)
theorem wd99 {a0 : Array Value} {Z : State} (hw : ∀ d ∈ tables_1, d.before a0 Z = true) : ((Jvm.Cond.code ({ cls := "com/example/redoubt/redoubt/flow/FlowNetwork", name := "outflow", desc := "(I)J" } : Jvm.MethodName) prog_4_method_15_code (8 : Nat) (Option.some Jvm.ClassFile.FieldType.long)) : Jvm.Cond).before a0 Z = true := hw _ (List.mem_of_getElem? (i := 99) rfl)
theorem wd100 {a0 : Array Value} {Z : State} (hw : ∀ d ∈ tables_1, d.before a0 Z = true) : ((Jvm.Cond.methodLink "com/example/redoubt/redoubt/flow/FlowNetworkFlowPinLaw" (25 : Nat) ({ cls := "java/lang/Math", name := "min", desc := "(II)I" } : Jvm.MethodName)) : Jvm.Cond).before a0 Z = true := hw _ (List.mem_of_getElem? (i := 100) rfl)
abbrev ksFN : List Key := [("com/example/redoubt/redoubt/flow/FlowNetwork", "nodes", "I"), ("com/example/redoubt/redoubt/flow/FlowNetwork", "head", "[I"), ("com/example/redoubt/redoubt/flow/FlowNetwork", "capacity", "[I"), ("com/example/redoubt/redoubt/flow/FlowNetwork", "flow", "[I"), ("com/example/redoubt/redoubt/flow/FlowNetwork", "cost", "[J"), ("com/example/redoubt/redoubt/flow/FlowNetwork", "halfArcs", "I"), ("com/example/redoubt/redoubt/flow/FlowNetwork", "outgoing", "[[I")]
theorem ksFN_laidk {a0 : Array Value} {Z : State} (hw : ∀ d ∈ tables_1, d.before a0 Z = true) : ∀ (i : Nat) (k : Key), ksFN[i]? = some k → Laid Z a0 "com/example/redoubt/redoubt/flow/FlowNetwork" k.1 k.2.1 k.2.2
  | 0, _, rfl => (Or.inr (wd21 hw))
  | 1, _, rfl => (Or.inl (wd12 hw))
  | 2, _, rfl => (Or.inl (wd14 hw))
  | 3, _, rfl => (Or.inl (wd16 hw))
  | 4, _, rfl => (Or.inl (wd19 hw))
  | 5, _, rfl => (Or.inl (wd43 hw))
  | 6, _, rfl => (Or.inl (wd45 hw))
  | i + 7, k, h => by simp at h
theorem ksFN_laid {a0 : Array Value} {Z : State} (hw : ∀ d ∈ tables_1, d.before a0 Z = true) : ∀ (i : Nat) (k : Key) (v : Value), ksFN[i]? = some k → ([(.int (0 : Int32)), .null, .null, .null, .null, (.int (0 : Int32)), .null] : List Value)[i]? = some v → Laid Z a0 "com/example/redoubt/redoubt/flow/FlowNetwork" k.1 k.2.1 k.2.2 ∧ ∃ ty, parseFieldDescriptor k.2.2 = some ty ∧ v = defaultValue ty
  | 0, _, _, rfl, rfl => ⟨ksFN_laidk hw 0 _ rfl, .int, by decide, rfl⟩
  | 1, _, _, rfl, rfl => ⟨ksFN_laidk hw 1 _ rfl, (.array .int), by decide, rfl⟩
  | 2, _, _, rfl, rfl => ⟨ksFN_laidk hw 2 _ rfl, (.array .int), by decide, rfl⟩
  | 3, _, _, rfl, rfl => ⟨ksFN_laidk hw 3 _ rfl, (.array .int), by decide, rfl⟩
  | 4, _, _, rfl, rfl => ⟨ksFN_laidk hw 4 _ rfl, (.array .long), by decide, rfl⟩
  | 5, _, _, rfl, rfl => ⟨ksFN_laidk hw 5 _ rfl, .int, by decide, rfl⟩
  | 6, _, _, rfl, rfl => ⟨ksFN_laidk hw 6 _ rfl, (.array (.array .int)), by decide, rfl⟩
  | i + 7, k, v, h, _ => by simp at h
theorem ksFN_dist {a0 : Array Value} {Z : State} (hw : ∀ d ∈ tables_1, d.before a0 Z = true) (i j : Nat) (k k' : Key) (h1 : ksFN[i]? = some k) (h2 : ksFN[j]? = some k') (hne : i ≠ j) : kslot Z k ≠ kslot Z k' :=
  distK (C := "com/example/redoubt/redoubt/flow/FlowNetwork") (ksFN_laidk hw) (by decide) (by decide) i j k k' h1 h2 hne
theorem rowAt {f0 f1 f2 f3 f4 f5 f6 : Rec} {r0 r1 r2 row : List Int32} {X : List Rec} {i : Int32} (h : Wk.gR [r0, r1, r2] i = some row) : ([f0, f1, f2, f3, f4, f5, f6, ints r0, ints r1, ints r2] ++ X)[7 + i.toNatClampNeg]? = some (ints row) := by
  have h2 := (Wk.gR_at h).2
  generalize i.toNatClampNeg = k at h2 ⊢
  match k, h2 with
  | 0, h2 => cases h2; rfl
  | 1, h2 => cases h2; rfl
  | 2, h2 => cases h2; rfl
  | k + 3, h2 => simp at h2
theorem rowRef {hB : Heap} {r0 r1 r2 row : List Int32} {i : Int32} (h : Wk.gR [r0, r1, r2] i = some row) : ([rf hB 7, rf hB 8, rf hB 9] : List Value)[i.toNatClampNeg]? = some (rf hB (7 + i.toNatClampNeg)) := by
  have h2 := (Wk.gR_at h).2
  generalize i.toNatClampNeg = k at h2 ⊢
  match k, h2 with
  | 0, _ => rfl
  | 1, _ => rfl
  | 2, _ => rfl
  | k + 3, h2 => simp at h2
def mnI (x z : Int32) : Int32 := if z < x then z else x
set_option maxRecDepth 65536 in
set_option maxHeartbeats 40000000 in
theorem m_min (l : Launch) (Z : State) (a0 : Array Value) (hw : ∀ d ∈ tables_1, d.before a0 Z = true) (hB : Heap) (H : List Rec) (x z : Int32) : Ctr l Z hB ({ cls := "java/lang/Math", name := "min", desc := "(II)I" } : Jvm.MethodName) jdk_29_method_69_code 2 (some .int) [] ({ frames := 0, cells := 0, slots := 0, locals := 0 } : Room) #[(.int x), (.int z)] H (fun v H' => v = some (.int (mnI x z)) ∧ H' = H) := by
  refine Wk.ctr pn_0 (Ls := #[.val (.int x), .val (.int z)]) (fun m => by first | rfl | (simp [entryFrame, mkF, argsToLocals, Value.category]; done)) ?_
  refine Wk.iloadN (pc' := 1) d17_0 rfl rfl ?_
  refine Wk.iloadN (pc' := 2) d17_1 rfl rfl ?_
  by_cases hc1 : z < x
  ·
    refine Wk.icY (pc' := 9) d17_2 (XT.ii_gt_t hc1) (by decide) (by decide) ?_
    refine Wk.iloadN (pc' := 10) d17_9 rfl rfl ?_
    exact Wk.iret (t := .int) d17_10 rfl (by simp) rfl (by simp <;> omega) (Nat.le_of_ble_eq_true rfl) ⟨congrArg (fun z => some (Value.int z)) (show z = mnI x z from by rw [mnI, if_pos hc1]), rfl⟩
  ·
    refine Wk.icN (pc' := 5) d17_2 (XT.ii_gt_f hc1) rfl ?_
    refine Wk.iloadN (pc' := 6) d17_5 rfl rfl ?_
    refine Wk.goTo (pc' := 10) d17_6 (by decide) (by decide) ?_
    exact Wk.iret (t := .int) d17_10 rfl (by simp) rfl (by simp <;> omega) (Nat.le_of_ble_eq_true rfl) ⟨congrArg (fun z => some (Value.int z)) (show x = mnI x z from by rw [mnI, if_neg hc1]), rfl⟩
set_option maxRecDepth 65536 in
set_option maxHeartbeats 40000000 in
theorem m_cnode (l : Launch) (Z : State) (a0 : Array Value) (hw : ∀ d ∈ tables_1, d.before a0 Z = true) (hB : Heap) (H : List Rec) (ha x : Int32) (out0 : Value) (h0 : H[0]? = some (obj "com/example/redoubt/redoubt/flow/FlowNetwork" ksFN [(.int (3 : Int32)), (rf hB 1), (rf hB 2), (rf hB 3), (rf hB 4), (.int ha), out0])) (h1 : ¬ x < 0) (h2 : x < 3) : Ctr l Z hB ({ cls := "com/example/redoubt/redoubt/flow/FlowNetwork", name := "checkNode", desc := "(I)V" } : Jvm.MethodName) prog_4_method_17_code 2 none [] ({ frames := 0, cells := 0, slots := 0, locals := 0 } : Room) #[(rf hB 0), (.int x)] H (fun v H' => v = none ∧ H' = H) := by
  refine Wk.ctr pn_1 (Ls := #[.val (rf hB 0), .val (.int x)]) (fun m => by first | rfl | (simp [entryFrame, mkF, argsToLocals, Value.category]; done)) ?_
  refine Wk.iloadN (pc' := 1) d4_0 rfl rfl ?_
  refine Wk.ifN (pc' := 4) d4_1 (XT.i0_lt_f h1) rfl ?_
  refine Wk.iloadN (pc' := 5) d4_4 rfl rfl ?_
  refine Wk.aloadN (pc' := 6) d4_5 rfl rfl rfl ?_
  refine Wk.getF0 (pc' := 9) (i := 0) (j := 0) d4_6 (wd20 hw) h0 rfl rfl rfl ?_
  refine Wk.icY (pc' := 30) d4_9 (XT.ii_lt_t h2) (by decide) (by decide) ?_
  exact Wk.vret d4_30 rfl (by simp <;> omega) (Nat.le_of_ble_eq_true rfl) ⟨rfl, rfl⟩
set_option maxRecDepth 65536 in
set_option maxHeartbeats 40000000 in
theorem m_ccap (l : Launch) (Z : State) (a0 : Array Value) (hw : ∀ d ∈ tables_1, d.before a0 Z = true) (hB : Heap) (H : List Rec) (x : Int32) (h1 : ¬ x < 0) : Ctr l Z hB ({ cls := "com/example/redoubt/redoubt/flow/FlowNetwork", name := "checkCapacity", desc := "(I)V" } : Jvm.MethodName) prog_4_method_19_code 1 none [] ({ frames := 0, cells := 0, slots := 0, locals := 0 } : Room) #[(.int x)] H (fun v H' => v = none ∧ H' = H) := by
  refine Wk.ctr pn_2 (Ls := #[.val (.int x)]) (fun m => by first | rfl | (simp [entryFrame, mkF, argsToLocals, Value.category]; done)) ?_
  refine Wk.iloadN (pc' := 1) d5_0 rfl rfl ?_
  refine Wk.ifY (pc' := 18) d5_1 (XT.i0_ge_t h1) (by decide) (by decide) ?_
  exact Wk.vret d5_18 rfl (by simp <;> omega) (Nat.le_of_ble_eq_true rfl) ⟨rfl, rfl⟩
set_option maxRecDepth 65536 in
set_option maxHeartbeats 40000000 in
theorem m_ccost (l : Launch) (Z : State) (a0 : Array Value) (hw : ∀ d ∈ tables_1, d.before a0 Z = true) (hB : Heap) (H : List Rec) : Ctr l Z hB ({ cls := "com/example/redoubt/redoubt/flow/FlowNetwork", name := "checkCost", desc := "(J)V" } : Jvm.MethodName) prog_4_method_20_code 2 none [] ({ frames := 0, cells := 0, slots := 0, locals := 0 } : Room) #[(.long (0 : Int64))] H (fun v H' => v = none ∧ H' = H) := by
  refine Wk.ctr pn_3 (Ls := #[.val (.long (0 : Int64)), .second]) (fun m => by first | rfl | (simp [entryFrame, mkF, argsToLocals, Value.category]; done)) ?_
  refine Wk.lloadN (pc' := 1) d6_0 rfl rfl ?_
  refine Wk.lconst (pc' := 2) (0 : Int64) d6_1 (by decide) rfl ?_
  refine Wk.lcmp (pc' := 3) d6_2 rfl ?_
  refine Wk.ifY (pc' := 20) d6_3 (XT.ll_ge_t (by decide)) (by decide) (by decide) ?_
  exact Wk.vret d6_20 rfl (by simp <;> omega) (Nat.le_of_ble_eq_true rfl) ⟨rfl, rfl⟩
set_option maxRecDepth 65536 in
set_option maxHeartbeats 40000000 in
theorem m_carc (l : Launch) (Z : State) (a0 : Array Value) (hw : ∀ d ∈ tables_1, d.before a0 Z = true) (hB : Heap) (H : List Rec) (ha x : Int32) (out0 : Value) (h0 : H[0]? = some (obj "com/example/redoubt/redoubt/flow/FlowNetwork" ksFN [(.int (3 : Int32)), (rf hB 1), (rf hB 2), (rf hB 3), (rf hB 4), (.int ha), out0])) (h1 : ¬ x < 0) (h2 : x < ha / 2) : Ctr l Z hB ({ cls := "com/example/redoubt/redoubt/flow/FlowNetwork", name := "checkArc", desc := "(I)V" } : Jvm.MethodName) prog_4_method_18_code 2 none [] ({ frames := 0, cells := 0, slots := 0, locals := 0 } : Room) #[(rf hB 0), (.int x)] H (fun v H' => v = none ∧ H' = H) := by
  refine Wk.ctr pn_4 (Ls := #[.val (rf hB 0), .val (.int x)]) (fun m => by first | rfl | (simp [entryFrame, mkF, argsToLocals, Value.category]; done)) ?_
  refine Wk.iloadN (pc' := 1) d8_0 rfl rfl ?_
  refine Wk.ifN (pc' := 4) d8_1 (XT.i0_lt_f h1) rfl ?_
  refine Wk.iloadN (pc' := 5) d8_4 rfl rfl ?_
  refine Wk.aloadN (pc' := 6) d8_5 rfl rfl rfl ?_
  refine Wk.getF0 (pc' := 9) (i := 0) (j := 5) d8_6 (wd42 hw) h0 rfl rfl rfl ?_
  refine Wk.iconst (pc' := 10) (2 : Int32) d8_9 (by decide) rfl ?_
  refine Wk.idiv (pc' := 11) d8_10 (by decide) rfl ?_
  refine Wk.icY (pc' := 34) d8_11 (XT.ii_lt_t h2) (by decide) (by decide) ?_
  exact Wk.vret d8_34 rfl (by simp <;> omega) (Nat.le_of_ble_eq_true rfl) ⟨rfl, rfl⟩
def Fm_flow (fl : List Int32) (x : Int32) : Option (Int32) :=
    (Wk.gI fl ((2 : Int32) * x)).bind fun v1 =>
    some v1
set_option maxRecDepth 65536 in
set_option maxHeartbeats 40000000 in
theorem m_flow (l : Launch) (Z : State) (a0 : Array Value) (hw : ∀ d ∈ tables_1, d.before a0 Z = true) (hB : Heap) (H : List Rec) (ha : Int32) (out0 : Value) (h0 : H[0]? = some (obj "com/example/redoubt/redoubt/flow/FlowNetwork" ksFN [(.int (3 : Int32)), (rf hB 1), (rf hB 2), (rf hB 3), (rf hB 4), (.int ha), out0])) (fl : List Int32) (x : Int32) (out : Int32) (hM : Fm_flow fl x = some out) (h3 : H[3]? = some (ints fl)) (h1 : ¬ x < 0) (h2 : x < ha / 2) : Ctr l Z hB ({ cls := "com/example/redoubt/redoubt/flow/FlowNetwork", name := "flow", desc := "(I)I" } : Jvm.MethodName) prog_4_method_6_code 2 (some .int) [] ({ frames := 1, cells := 0, slots := 0, locals := 13 } : Room) #[(rf hB 0), (.int x)] H (fun v H' => v = some (.int out) ∧ H' = H) := by
  refine Wk.ctr pn_5 (Ls := #[.val (rf hB 0), .val (.int x)]) (fun m => by first | rfl | (simp [entryFrame, mkF, argsToLocals, Value.category]; done)) ?_
  simp only [Fm_flow] at hM
  refine Wk.aloadN (pc' := 1) d7_0 rfl rfl rfl ?_
  refine Wk.iloadN (pc' := 2) d7_1 rfl rfl ?_
  refine Wk.callP (pc' := 5) (argsL := [(.int x)]) (st := []) d7_2 (wd51 hw) (wd52 hw) (Jvm.Kit.selects_private (by decide) (wd2 hw) (wd53 hw) (wd52 hw)) (wd53 hw) (wd3 hw) (wd54 hw) (by decide) (lenOf pd_0 rfl) (fun _ P => P.exa h0) (m_carc l Z a0 hw hB H ha x out0 h0 h1 h2) rfl (Nat.le_of_ble_eq_true rfl) (Nat.le_of_ble_eq_true rfl) (by simp <;> omega) (Nat.le_of_ble_eq_true rfl) rfl rfl ?_
  rintro _ _ ⟨rfl, hH⟩; obtain rfl := hH.symm
  show WP l Z hB _ _ _ _ _ _ _ _ H _ _ []
  refine Wk.aloadN (pc' := 6) d7_5 rfl rfl rfl ?_
  refine Wk.getF0 (pc' := 9) (i := 0) (j := 3) d7_6 (wd15 hw) h0 rfl rfl rfl ?_
  refine Wk.iconst (pc' := 10) (2 : Int32) d7_9 (by decide) rfl ?_
  refine Wk.iloadN (pc' := 11) d7_10 rfl rfl ?_
  refine Wk.imul (pc' := 12) d7_11 rfl ?_
  obtain ⟨v1, ev1, hM⟩ := Option.bind_eq_some_iff.mp hM
  refine Wk.ialoadG (pc' := 13) (i := 3) d7_12 h3 ev1 rfl ?_
  obtain rfl := Option.some.inj hM
  exact Wk.iret (t := .int) d7_13 rfl (by simp) rfl (by simp <;> omega) (Nat.le_of_ble_eq_true rfl) ⟨rfl, rfl⟩
set_option maxRecDepth 65536 in
set_option maxHeartbeats 40000000 in
theorem m_init (l : Launch) (Z : State) (a0 : Array Value) (hw : ∀ d ∈ tables_1, d.before a0 Z = true) (hB : Heap)  : Ctr l Z hB ({ cls := "com/example/redoubt/redoubt/flow/FlowNetwork", name := "<init>", desc := "(I)V" } : Jvm.MethodName) prog_4_method_1_code 2 none [] ({ frames := 1, cells := 4, slots := 64, locals := 12 } : Room) #[(rf hB 0), (.int (3 : Int32))] [obj "com/example/redoubt/redoubt/flow/FlowNetwork" ksFN [(.int (0 : Int32)), .null, .null, .null, .null, (.int (0 : Int32)), .null]] (fun v H' => v = none ∧ H' = [obj "com/example/redoubt/redoubt/flow/FlowNetwork" ksFN [(.int (3 : Int32)), (rf hB 1), (rf hB 2), (rf hB 3), (rf hB 4), (.int (0 : Int32)), .null], ints [0, 0, 0, 0, 0, 0, 0, 0, 0, 0, 0, 0, 0, 0, 0, 0], ints [0, 0, 0, 0, 0, 0, 0, 0, 0, 0, 0, 0, 0, 0, 0, 0], ints [0, 0, 0, 0, 0, 0, 0, 0, 0, 0, 0, 0, 0, 0, 0, 0], longs [0, 0, 0, 0, 0, 0, 0, 0, 0, 0, 0, 0, 0, 0, 0, 0]]) := by
  refine Wk.ctr pn_6 (Ls := #[.val (rf hB 0), .val (.int (3 : Int32))]) (fun m => by first | rfl | (simp [entryFrame, mkF, argsToLocals, Value.category]; done)) ?_
  refine Wk.aloadN (pc' := 1) d0_0 rfl rfl rfl ?_
  refine Wk.initObj (pc' := 4) d0_1 (wd7 hw) (wd8 hw) (wd9 hw) rfl (Nat.le_of_ble_eq_true rfl) (Nat.le_of_ble_eq_true rfl) rfl ?_
  refine Wk.aloadN (pc' := 5) d0_4 rfl rfl rfl ?_
  refine Wk.bipush (pc' := 7) (16 : Int32) d0_5 (by decide) rfl ?_
  refine Wk.newArr (pc' := 9) (i := 1) (nn := 16) (H' := [obj "com/example/redoubt/redoubt/flow/FlowNetwork" ksFN [(.int (0 : Int32)), .null, .null, .null, .null, (.int (0 : Int32)), .null], ints [0, 0, 0, 0, 0, 0, 0, 0, 0, 0, 0, 0, 0, 0, 0, 0]]) d0_7 (wd10 hw) (by decide) (by decide) (by omega) rfl ⟨(by intro C; simp [newarray.typeOf]), (by intro C; simp [newarray.typeOf])⟩ (Nat.le_of_ble_eq_true rfl) (Nat.le_of_ble_eq_true rfl) rfl rfl rfl ?_
  refine Wk.putF0 (pc' := 12) (i := 0) (j := 1) (H' := [obj "com/example/redoubt/redoubt/flow/FlowNetwork" ksFN [(.int (0 : Int32)), (rf hB 1), .null, .null, .null, (.int (0 : Int32)), .null], ints [0, 0, 0, 0, 0, 0, 0, 0, 0, 0, 0, 0, 0, 0, 0, 0]]) (ty := (.array .int)) d0_9 (wd11 hw) rfl rfl (Nat.le_of_ble_eq_true rfl) (Or.inl (wd12 hw)) (wd2 hw) (by decide) rfl rfl rfl rfl ?_
  refine Wk.aloadN (pc' := 13) d0_12 rfl rfl rfl ?_
  refine Wk.bipush (pc' := 15) (16 : Int32) d0_13 (by decide) rfl ?_
  refine Wk.newArr (pc' := 17) (i := 2) (nn := 16) (H' := [obj "com/example/redoubt/redoubt/flow/FlowNetwork" ksFN [(.int (0 : Int32)), (rf hB 1), .null, .null, .null, (.int (0 : Int32)), .null], ints [0, 0, 0, 0, 0, 0, 0, 0, 0, 0, 0, 0, 0, 0, 0, 0], ints [0, 0, 0, 0, 0, 0, 0, 0, 0, 0, 0, 0, 0, 0, 0, 0]]) d0_15 (wd10 hw) (by decide) (by decide) (by omega) rfl ⟨(by intro C; simp [newarray.typeOf]), (by intro C; simp [newarray.typeOf])⟩ (Nat.le_of_ble_eq_true rfl) (Nat.le_of_ble_eq_true rfl) rfl rfl rfl ?_
  refine Wk.putF0 (pc' := 20) (i := 0) (j := 2) (H' := [obj "com/example/redoubt/redoubt/flow/FlowNetwork" ksFN [(.int (0 : Int32)), (rf hB 1), (rf hB 2), .null, .null, (.int (0 : Int32)), .null], ints [0, 0, 0, 0, 0, 0, 0, 0, 0, 0, 0, 0, 0, 0, 0, 0], ints [0, 0, 0, 0, 0, 0, 0, 0, 0, 0, 0, 0, 0, 0, 0, 0]]) (ty := (.array .int)) d0_17 (wd13 hw) rfl rfl (Nat.le_of_ble_eq_true rfl) (Or.inl (wd14 hw)) (wd2 hw) (by decide) rfl rfl rfl rfl ?_
  refine Wk.aloadN (pc' := 21) d0_20 rfl rfl rfl ?_
  refine Wk.bipush (pc' := 23) (16 : Int32) d0_21 (by decide) rfl ?_
  refine Wk.newArr (pc' := 25) (i := 3) (nn := 16) (H' := [obj "com/example/redoubt/redoubt/flow/FlowNetwork" ksFN [(.int (0 : Int32)), (rf hB 1), (rf hB 2), .null, .null, (.int (0 : Int32)), .null], ints [0, 0, 0, 0, 0, 0, 0, 0, 0, 0, 0, 0, 0, 0, 0, 0], ints [0, 0, 0, 0, 0, 0, 0, 0, 0, 0, 0, 0, 0, 0, 0, 0], ints [0, 0, 0, 0, 0, 0, 0, 0, 0, 0, 0, 0, 0, 0, 0, 0]]) d0_23 (wd10 hw) (by decide) (by decide) (by omega) rfl ⟨(by intro C; simp [newarray.typeOf]), (by intro C; simp [newarray.typeOf])⟩ (Nat.le_of_ble_eq_true rfl) (Nat.le_of_ble_eq_true rfl) rfl rfl rfl ?_
  refine Wk.putF0 (pc' := 28) (i := 0) (j := 3) (H' := [obj "com/example/redoubt/redoubt/flow/FlowNetwork" ksFN [(.int (0 : Int32)), (rf hB 1), (rf hB 2), (rf hB 3), .null, (.int (0 : Int32)), .null], ints [0, 0, 0, 0, 0, 0, 0, 0, 0, 0, 0, 0, 0, 0, 0, 0], ints [0, 0, 0, 0, 0, 0, 0, 0, 0, 0, 0, 0, 0, 0, 0, 0], ints [0, 0, 0, 0, 0, 0, 0, 0, 0, 0, 0, 0, 0, 0, 0, 0]]) (ty := (.array .int)) d0_25 (wd15 hw) rfl rfl (Nat.le_of_ble_eq_true rfl) (Or.inl (wd16 hw)) (wd2 hw) (by decide) rfl rfl rfl rfl ?_
  refine Wk.aloadN (pc' := 29) d0_28 rfl rfl rfl ?_
  refine Wk.bipush (pc' := 31) (16 : Int32) d0_29 (by decide) rfl ?_
  refine Wk.newArr (pc' := 33) (i := 4) (nn := 16) (H' := [obj "com/example/redoubt/redoubt/flow/FlowNetwork" ksFN [(.int (0 : Int32)), (rf hB 1), (rf hB 2), (rf hB 3), .null, (.int (0 : Int32)), .null], ints [0, 0, 0, 0, 0, 0, 0, 0, 0, 0, 0, 0, 0, 0, 0, 0], ints [0, 0, 0, 0, 0, 0, 0, 0, 0, 0, 0, 0, 0, 0, 0, 0], ints [0, 0, 0, 0, 0, 0, 0, 0, 0, 0, 0, 0, 0, 0, 0, 0], longs [0, 0, 0, 0, 0, 0, 0, 0, 0, 0, 0, 0, 0, 0, 0, 0]]) d0_31 (wd17 hw) (by decide) (by decide) (by omega) rfl ⟨(by intro C; simp [newarray.typeOf]), (by intro C; simp [newarray.typeOf])⟩ (Nat.le_of_ble_eq_true rfl) (Nat.le_of_ble_eq_true rfl) rfl rfl rfl ?_
  refine Wk.putF0 (pc' := 36) (i := 0) (j := 4) (H' := [obj "com/example/redoubt/redoubt/flow/FlowNetwork" ksFN [(.int (0 : Int32)), (rf hB 1), (rf hB 2), (rf hB 3), (rf hB 4), (.int (0 : Int32)), .null], ints [0, 0, 0, 0, 0, 0, 0, 0, 0, 0, 0, 0, 0, 0, 0, 0], ints [0, 0, 0, 0, 0, 0, 0, 0, 0, 0, 0, 0, 0, 0, 0, 0], ints [0, 0, 0, 0, 0, 0, 0, 0, 0, 0, 0, 0, 0, 0, 0, 0], longs [0, 0, 0, 0, 0, 0, 0, 0, 0, 0, 0, 0, 0, 0, 0, 0]]) (ty := (.array .long)) d0_33 (wd18 hw) rfl rfl (Nat.le_of_ble_eq_true rfl) (Or.inl (wd19 hw)) (wd2 hw) (by decide) rfl rfl rfl rfl ?_
  refine Wk.iloadN (pc' := 37) d0_36 rfl rfl ?_
  refine Wk.iconst (pc' := 38) (2 : Int32) d0_37 (by decide) rfl ?_
  refine Wk.icY (pc' := 55) d0_38 (XT.ii_ge_t (by decide)) (by decide) (by decide) ?_
  refine Wk.aloadN (pc' := 56) d0_55 rfl rfl rfl ?_
  refine Wk.iloadN (pc' := 57) d0_56 rfl rfl ?_
  refine Wk.putF0 (pc' := 60) (i := 0) (j := 0) (H' := [obj "com/example/redoubt/redoubt/flow/FlowNetwork" ksFN [(.int (3 : Int32)), (rf hB 1), (rf hB 2), (rf hB 3), (rf hB 4), (.int (0 : Int32)), .null], ints [0, 0, 0, 0, 0, 0, 0, 0, 0, 0, 0, 0, 0, 0, 0, 0], ints [0, 0, 0, 0, 0, 0, 0, 0, 0, 0, 0, 0, 0, 0, 0, 0], ints [0, 0, 0, 0, 0, 0, 0, 0, 0, 0, 0, 0, 0, 0, 0, 0], longs [0, 0, 0, 0, 0, 0, 0, 0, 0, 0, 0, 0, 0, 0, 0, 0]]) (ty := .int) d0_57 (wd20 hw) rfl rfl (Nat.le_of_ble_eq_true rfl) (Or.inr ⟨(wd21 hw), rfl, rfl⟩) (wd2 hw) (by decide) rfl rfl rfl rfl ?_
  exact Wk.vret d0_60 rfl (Nat.le_of_ble_eq_true rfl) (Nat.le_of_ble_eq_true rfl) ⟨rfl, rfl⟩
def Fm_add4 (ha : Int32) (hd : List Int32) (cap : List Int32) (fl : List Int32) (cs : List Int64) (x : Int32) (y : Int32) (k : Int32) : Option (Int32 × List Int32 × List Int32 × List Int64 × Int32) :=
    if ha = (hd.length.toInt32) then (none) else ((Wk.sI hd ha y).bind fun l1 =>
    (Wk.sI cap ha k).bind fun l2 =>
    (Wk.sJ cs ha (0 : Int64)).bind fun l3 =>
    (Wk.sI l1 (ha + (1 : Int32)) x).bind fun l4 =>
    (Wk.sJ l3 (ha + (1 : Int32)) (-(0 : Int64))).bind fun l5 =>
    some ((ha + (2 : Int32)), l4, l2, l5, (((ha + (2 : Int32)) / (2 : Int32)) - (1 : Int32))))
set_option maxRecDepth 65536 in
set_option maxHeartbeats 40000000 in
theorem m_add4 (l : Launch) (Z : State) (a0 : Array Value) (hw : ∀ d ∈ tables_1, d.before a0 Z = true) (hB : Heap)  (ha : Int32) (hd : List Int32) (cap : List Int32) (fl : List Int32) (cs : List Int64) (x : Int32) (y : Int32) (k : Int32) (out : Int32 × List Int32 × List Int32 × List Int64 × Int32) (hM : Fm_add4 ha hd cap fl cs x y k = some out) (ha1 : ¬ x < 0) (ha2 : x < 3) (hb1 : ¬ y < 0) (hb2 : y < 3) (hc : ¬ k < 0) : Ctr l Z hB ({ cls := "com/example/redoubt/redoubt/flow/FlowNetwork", name := "addArc", desc := "(IIIJ)I" } : Jvm.MethodName) prog_4_method_3_code 6 (some .int) [] ({ frames := 1, cells := 0, slots := 0, locals := 13 } : Room) #[(rf hB 0), (.int x), (.int y), (.int k), (.long (0 : Int64))] [obj "com/example/redoubt/redoubt/flow/FlowNetwork" ksFN [(.int (3 : Int32)), (rf hB 1), (rf hB 2), (rf hB 3), (rf hB 4), (.int ha), .null], ints hd, ints cap, ints fl, longs cs] (fun v H' => v = some (.int out.2.2.2.2) ∧ H' = [obj "com/example/redoubt/redoubt/flow/FlowNetwork" ksFN [(.int (3 : Int32)), (rf hB 1), (rf hB 2), (rf hB 3), (rf hB 4), (.int out.1), .null], ints out.2.1, ints out.2.2.1, ints fl, longs out.2.2.2.1]) := by
  refine Wk.ctr pn_7 (Ls := #[.val (rf hB 0), .val (.int x), .val (.int y), .val (.int k), .val (.long (0 : Int64)), .second]) (fun m => by first | rfl | (simp [entryFrame, mkF, argsToLocals, Value.category]; done)) ?_
  simp only [Fm_add4] at hM
  refine Wk.aloadN (pc' := 1) d3_0 rfl rfl rfl ?_
  refine Wk.iloadN (pc' := 2) d3_1 rfl rfl ?_
  refine Wk.callP (pc' := 5) (argsL := [(.int x)]) (st := []) d3_2 (wd32 hw) (wd33 hw) (Jvm.Kit.selects_private (by decide) (wd2 hw) (wd34 hw) (wd33 hw)) (wd34 hw) (wd3 hw) (wd35 hw) (by decide) (lenOf pd_0 rfl) (fun _ P => P.exa rfl) (m_cnode l Z a0 hw hB [obj "com/example/redoubt/redoubt/flow/FlowNetwork" ksFN [(.int (3 : Int32)), (rf hB 1), (rf hB 2), (rf hB 3), (rf hB 4), (.int ha), .null], ints hd, ints cap, ints fl, longs cs] ha x .null rfl ha1 ha2) rfl (Nat.le_of_ble_eq_true rfl) (Nat.le_of_ble_eq_true rfl) (Nat.le_of_ble_eq_true rfl) (Nat.le_of_ble_eq_true rfl) rfl rfl ?_
  rintro _ _ ⟨rfl, hH⟩; obtain rfl := hH.symm
  show WP l Z hB _ _ _ _ _ _ _ _ [obj "com/example/redoubt/redoubt/flow/FlowNetwork" ksFN [(.int (3 : Int32)), (rf hB 1), (rf hB 2), (rf hB 3), (rf hB 4), (.int ha), .null], ints hd, ints cap, ints fl, longs cs] _ _ []
  refine Wk.aloadN (pc' := 6) d3_5 rfl rfl rfl ?_
  refine Wk.iloadN (pc' := 7) d3_6 rfl rfl ?_
  refine Wk.callP (pc' := 10) (argsL := [(.int y)]) (st := []) d3_7 (wd32 hw) (wd33 hw) (Jvm.Kit.selects_private (by decide) (wd2 hw) (wd34 hw) (wd33 hw)) (wd34 hw) (wd3 hw) (wd35 hw) (by decide) (lenOf pd_0 rfl) (fun _ P => P.exa rfl) (m_cnode l Z a0 hw hB [obj "com/example/redoubt/redoubt/flow/FlowNetwork" ksFN [(.int (3 : Int32)), (rf hB 1), (rf hB 2), (rf hB 3), (rf hB 4), (.int ha), .null], ints hd, ints cap, ints fl, longs cs] ha y .null rfl hb1 hb2) rfl (Nat.le_of_ble_eq_true rfl) (Nat.le_of_ble_eq_true rfl) (Nat.le_of_ble_eq_true rfl) (Nat.le_of_ble_eq_true rfl) rfl rfl ?_
  rintro _ _ ⟨rfl, hH⟩; obtain rfl := hH.symm
  show WP l Z hB _ _ _ _ _ _ _ _ [obj "com/example/redoubt/redoubt/flow/FlowNetwork" ksFN [(.int (3 : Int32)), (rf hB 1), (rf hB 2), (rf hB 3), (rf hB 4), (.int ha), .null], ints hd, ints cap, ints fl, longs cs] _ _ []
  refine Wk.iloadN (pc' := 11) d3_10 rfl rfl ?_
  refine Wk.callS (pc' := 14) (argsL := [(.int k)]) (st := []) d3_11 (wd36 hw) (wd37 hw) (wd3 hw) (wd38 hw) (by decide) (lenOf pd_0 rfl) (m_ccap l Z a0 hw hB [obj "com/example/redoubt/redoubt/flow/FlowNetwork" ksFN [(.int (3 : Int32)), (rf hB 1), (rf hB 2), (rf hB 3), (rf hB 4), (.int ha), .null], ints hd, ints cap, ints fl, longs cs] k hc) rfl (Nat.le_of_ble_eq_true rfl) (Nat.le_of_ble_eq_true rfl) (Nat.le_of_ble_eq_true rfl) (Nat.le_of_ble_eq_true rfl) rfl rfl ?_
  rintro _ _ ⟨rfl, hH⟩; obtain rfl := hH.symm
  show WP l Z hB _ _ _ _ _ _ _ _ [obj "com/example/redoubt/redoubt/flow/FlowNetwork" ksFN [(.int (3 : Int32)), (rf hB 1), (rf hB 2), (rf hB 3), (rf hB 4), (.int ha), .null], ints hd, ints cap, ints fl, longs cs] _ _ []
  refine Wk.lload (pc' := 16) d3_14 rfl rfl ?_
  refine Wk.callS (pc' := 19) (argsL := [(.long (0 : Int64))]) (st := []) d3_16 (wd39 hw) (wd40 hw) (wd3 hw) (wd41 hw) (by decide) (lenOf pd_1 rfl) (m_ccost l Z a0 hw hB [obj "com/example/redoubt/redoubt/flow/FlowNetwork" ksFN [(.int (3 : Int32)), (rf hB 1), (rf hB 2), (rf hB 3), (rf hB 4), (.int ha), .null], ints hd, ints cap, ints fl, longs cs]) rfl (Nat.le_of_ble_eq_true rfl) (Nat.le_of_ble_eq_true rfl) (Nat.le_of_ble_eq_true rfl) (Nat.le_of_ble_eq_true rfl) rfl rfl ?_
  rintro _ _ ⟨rfl, hH⟩; obtain rfl := hH.symm
  show WP l Z hB _ _ _ _ _ _ _ _ [obj "com/example/redoubt/redoubt/flow/FlowNetwork" ksFN [(.int (3 : Int32)), (rf hB 1), (rf hB 2), (rf hB 3), (rf hB 4), (.int ha), .null], ints hd, ints cap, ints fl, longs cs] _ _ []
  refine Wk.aloadN (pc' := 20) d3_19 rfl rfl rfl ?_
  refine Wk.getF0 (pc' := 23) (i := 0) (j := 5) d3_20 (wd42 hw) rfl rfl rfl rfl ?_
  refine Wk.aloadN (pc' := 24) d3_23 rfl rfl rfl ?_
  refine Wk.getF0 (pc' := 27) (i := 0) (j := 1) d3_24 (wd11 hw) rfl rfl rfl rfl ?_
  refine Wk.arrLen (pc' := 28) (i := 1) (z := (hd.length.toInt32)) d3_27 rfl (by rw [List.length_map]) rfl ?_
  by_cases hc1 : ha = (hd.length.toInt32)
  ·
    rw [if_pos hc1] at hM
    cases hM
  ·
    rw [if_neg hc1] at hM
    refine Wk.icY (pc' := 99) d3_28 (XT.ii_ne_t hc1) (by decide) (by decide) ?_
    refine Wk.aloadN (pc' := 100) d3_99 rfl rfl rfl ?_
    refine Wk.getF0 (pc' := 103) (i := 0) (j := 1) d3_100 (wd11 hw) rfl rfl rfl rfl ?_
    refine Wk.aloadN (pc' := 104) d3_103 rfl rfl rfl ?_
    refine Wk.getF0 (pc' := 107) (i := 0) (j := 5) d3_104 (wd42 hw) rfl rfl rfl rfl ?_
    refine Wk.iloadN (pc' := 108) d3_107 rfl rfl ?_
    obtain ⟨l1, el1, hM⟩ := Option.bind_eq_some_iff.mp hM
    refine Wk.iastoreG (pc' := 109) (i := 1) (H' := [obj "com/example/redoubt/redoubt/flow/FlowNetwork" ksFN [(.int (3 : Int32)), (rf hB 1), (rf hB 2), (rf hB 3), (rf hB 4), (.int ha), .null], ints l1, ints cap, ints fl, longs cs]) d3_108 rfl el1 rfl rfl ?_
    refine Wk.aloadN (pc' := 110) d3_109 rfl rfl rfl ?_
    refine Wk.getF0 (pc' := 113) (i := 0) (j := 2) d3_110 (wd13 hw) rfl rfl rfl rfl ?_
    refine Wk.aloadN (pc' := 114) d3_113 rfl rfl rfl ?_
    refine Wk.getF0 (pc' := 117) (i := 0) (j := 5) d3_114 (wd42 hw) rfl rfl rfl rfl ?_
    refine Wk.iloadN (pc' := 118) d3_117 rfl rfl ?_
    obtain ⟨l2, el2, hM⟩ := Option.bind_eq_some_iff.mp hM
    refine Wk.iastoreG (pc' := 119) (i := 2) (H' := [obj "com/example/redoubt/redoubt/flow/FlowNetwork" ksFN [(.int (3 : Int32)), (rf hB 1), (rf hB 2), (rf hB 3), (rf hB 4), (.int ha), .null], ints l1, ints l2, ints fl, longs cs]) d3_118 rfl el2 rfl rfl ?_
    refine Wk.aloadN (pc' := 120) d3_119 rfl rfl rfl ?_
    refine Wk.getF0 (pc' := 123) (i := 0) (j := 4) d3_120 (wd18 hw) rfl rfl rfl rfl ?_
    refine Wk.aloadN (pc' := 124) d3_123 rfl rfl rfl ?_
    refine Wk.getF0 (pc' := 127) (i := 0) (j := 5) d3_124 (wd42 hw) rfl rfl rfl rfl ?_
    refine Wk.lload (pc' := 129) d3_127 rfl rfl ?_
    obtain ⟨l3, el3, hM⟩ := Option.bind_eq_some_iff.mp hM
    refine Wk.lastoreG (pc' := 130) (i := 4) (H' := [obj "com/example/redoubt/redoubt/flow/FlowNetwork" ksFN [(.int (3 : Int32)), (rf hB 1), (rf hB 2), (rf hB 3), (rf hB 4), (.int ha), .null], ints l1, ints l2, ints fl, longs l3]) d3_129 rfl el3 rfl rfl ?_
    refine Wk.aloadN (pc' := 131) d3_130 rfl rfl rfl ?_
    refine Wk.getF0 (pc' := 134) (i := 0) (j := 1) d3_131 (wd11 hw) rfl rfl rfl rfl ?_
    refine Wk.aloadN (pc' := 135) d3_134 rfl rfl rfl ?_
    refine Wk.getF0 (pc' := 138) (i := 0) (j := 5) d3_135 (wd42 hw) rfl rfl rfl rfl ?_
    refine Wk.iconst (pc' := 139) (1 : Int32) d3_138 (by decide) rfl ?_
    refine Wk.iadd (pc' := 140) d3_139 rfl ?_
    refine Wk.iloadN (pc' := 141) d3_140 rfl rfl ?_
    obtain ⟨l4, el4, hM⟩ := Option.bind_eq_some_iff.mp hM
    refine Wk.iastoreG (pc' := 142) (i := 1) (H' := [obj "com/example/redoubt/redoubt/flow/FlowNetwork" ksFN [(.int (3 : Int32)), (rf hB 1), (rf hB 2), (rf hB 3), (rf hB 4), (.int ha), .null], ints l4, ints l2, ints fl, longs l3]) d3_141 rfl el4 rfl rfl ?_
    refine Wk.aloadN (pc' := 143) d3_142 rfl rfl rfl ?_
    refine Wk.getF0 (pc' := 146) (i := 0) (j := 4) d3_143 (wd18 hw) rfl rfl rfl rfl ?_
    refine Wk.aloadN (pc' := 147) d3_146 rfl rfl rfl ?_
    refine Wk.getF0 (pc' := 150) (i := 0) (j := 5) d3_147 (wd42 hw) rfl rfl rfl rfl ?_
    refine Wk.iconst (pc' := 151) (1 : Int32) d3_150 (by decide) rfl ?_
    refine Wk.iadd (pc' := 152) d3_151 rfl ?_
    refine Wk.lload (pc' := 154) d3_152 rfl rfl ?_
    refine Wk.lneg (pc' := 155) d3_154 rfl ?_
    obtain ⟨l5, el5, hM⟩ := Option.bind_eq_some_iff.mp hM
    refine Wk.lastoreG (pc' := 156) (i := 4) (H' := [obj "com/example/redoubt/redoubt/flow/FlowNetwork" ksFN [(.int (3 : Int32)), (rf hB 1), (rf hB 2), (rf hB 3), (rf hB 4), (.int ha), .null], ints l4, ints l2, ints fl, longs l5]) d3_155 rfl el5 rfl rfl ?_
    refine Wk.aloadN (pc' := 157) d3_156 rfl rfl rfl ?_
    refine Wk.dup (pc' := 158) d3_157 rfl rfl ?_
    refine Wk.getF0 (pc' := 161) (i := 0) (j := 5) d3_158 (wd42 hw) rfl rfl rfl rfl ?_
    refine Wk.iconst (pc' := 162) (2 : Int32) d3_161 (by decide) rfl ?_
    refine Wk.iadd (pc' := 163) d3_162 rfl ?_
    refine Wk.putF0 (pc' := 166) (i := 0) (j := 5) (H' := [obj "com/example/redoubt/redoubt/flow/FlowNetwork" ksFN [(.int (3 : Int32)), (rf hB 1), (rf hB 2), (rf hB 3), (rf hB 4), (.int (ha + (2 : Int32))), .null], ints l4, ints l2, ints fl, longs l5]) (ty := .int) d3_163 (wd42 hw) rfl rfl (Nat.le_of_ble_eq_true rfl) (Or.inl (wd43 hw)) (wd2 hw) (by decide) rfl rfl rfl rfl ?_
    refine Wk.aloadN (pc' := 167) d3_166 rfl rfl rfl ?_
    refine Wk.aconstNull (pc' := 168) d3_167 rfl ?_
    refine Wk.putF0 (pc' := 171) (i := 0) (j := 6) (H' := [obj "com/example/redoubt/redoubt/flow/FlowNetwork" ksFN [(.int (3 : Int32)), (rf hB 1), (rf hB 2), (rf hB 3), (rf hB 4), (.int (ha + (2 : Int32))), .null], ints l4, ints l2, ints fl, longs l5]) (ty := (.array (.array .int))) d3_168 (wd44 hw) rfl rfl (Nat.le_of_ble_eq_true rfl) (Or.inl (wd45 hw)) (wd2 hw) (by decide) rfl rfl rfl rfl ?_
    refine Wk.aloadN (pc' := 172) d3_171 rfl rfl rfl ?_
    refine Wk.getF0 (pc' := 175) (i := 0) (j := 5) d3_172 (wd42 hw) rfl rfl rfl rfl ?_
    refine Wk.iconst (pc' := 176) (2 : Int32) d3_175 (by decide) rfl ?_
    refine Wk.idiv (pc' := 177) d3_176 (by decide) rfl ?_
    refine Wk.iconst (pc' := 178) (1 : Int32) d3_177 (by decide) rfl ?_
    refine Wk.isub (pc' := 179) d3_178 rfl ?_
    obtain rfl := Option.some.inj hM
    exact Wk.iret (t := .int) d3_179 rfl (by simp) rfl (Nat.le_of_ble_eq_true rfl) (Nat.le_of_ble_eq_true rfl) ⟨rfl, rfl⟩
def Fm_add (ha : Int32) (hd : List Int32) (cap : List Int32) (fl : List Int32) (cs : List Int64) (x : Int32) (y : Int32) (k : Int32) : Option (Int32 × List Int32 × List Int32 × List Int64 × Int32) :=
    (Fm_add4 ha hd cap fl cs x y k).bind fun q1 =>
    some (q1.1, q1.2.1, q1.2.2.1, q1.2.2.2.1, q1.2.2.2.2)
set_option maxRecDepth 65536 in
set_option maxHeartbeats 40000000 in
theorem m_add (l : Launch) (Z : State) (a0 : Array Value) (hw : ∀ d ∈ tables_1, d.before a0 Z = true) (hB : Heap)  (ha : Int32) (hd : List Int32) (cap : List Int32) (fl : List Int32) (cs : List Int64) (x : Int32) (y : Int32) (k : Int32) (out : Int32 × List Int32 × List Int32 × List Int64 × Int32) (hM : Fm_add ha hd cap fl cs x y k = some out) (ha1 : ¬ x < 0) (ha2 : x < 3) (hb1 : ¬ y < 0) (hb2 : y < 3) (hc : ¬ k < 0) : Ctr l Z hB ({ cls := "com/example/redoubt/redoubt/flow/FlowNetwork", name := "addArc", desc := "(III)I" } : Jvm.MethodName) prog_4_method_2_code 4 (some .int) [] ({ frames := 2, cells := 0, slots := 0, locals := 30 } : Room) #[(rf hB 0), (.int x), (.int y), (.int k)] [obj "com/example/redoubt/redoubt/flow/FlowNetwork" ksFN [(.int (3 : Int32)), (rf hB 1), (rf hB 2), (rf hB 3), (rf hB 4), (.int ha), .null], ints hd, ints cap, ints fl, longs cs] (fun v H' => v = some (.int out.2.2.2.2) ∧ H' = [obj "com/example/redoubt/redoubt/flow/FlowNetwork" ksFN [(.int (3 : Int32)), (rf hB 1), (rf hB 2), (rf hB 3), (rf hB 4), (.int out.1), .null], ints out.2.1, ints out.2.2.1, ints fl, longs out.2.2.2.1]) := by
  refine Wk.ctr pn_8 (Ls := #[.val (rf hB 0), .val (.int x), .val (.int y), .val (.int k)]) (fun m => by first | rfl | (simp [entryFrame, mkF, argsToLocals, Value.category]; done)) ?_
  simp only [Fm_add] at hM
  refine Wk.aloadN (pc' := 1) d2_0 rfl rfl rfl ?_
  refine Wk.iloadN (pc' := 2) d2_1 rfl rfl ?_
  refine Wk.iloadN (pc' := 3) d2_2 rfl rfl ?_
  refine Wk.iloadN (pc' := 4) d2_3 rfl rfl ?_
  refine Wk.lconst (pc' := 5) (0 : Int64) d2_4 (by decide) rfl ?_
  obtain ⟨q1, eq1, hM⟩ := Option.bind_eq_some_iff.mp hM
  refine Wk.callV (pc' := 8) (argsL := [(.int x), (.int y), (.int k), (.long (0 : Int64))]) (st := []) d2_5 (wd27 hw) (wd28 hw) (Wk.nfSel (wd30 hw)) (wd30 hw) (wd29 hw) (wd3 hw) (wd31 hw) (by decide) (lenOf pd_2 rfl) (fun _ P => P.exa rfl) (m_add4 l Z a0 hw hB ha hd cap fl cs x y k q1 eq1 ha1 ha2 hb1 hb2 hc) rfl (Nat.le_of_ble_eq_true rfl) (Nat.le_of_ble_eq_true rfl) (Nat.le_of_ble_eq_true rfl) (Nat.le_of_ble_eq_true rfl) rfl rfl ?_
  rintro _ _ ⟨rfl, hH⟩; obtain rfl := hH.symm
  show WP l Z hB _ _ _ _ _ _ _ _ [obj "com/example/redoubt/redoubt/flow/FlowNetwork" ksFN [(.int (3 : Int32)), (rf hB 1), (rf hB 2), (rf hB 3), (rf hB 4), (.int q1.1), .null], ints q1.2.1, ints q1.2.2.1, ints fl, longs q1.2.2.2.1] _ _ [(.int q1.2.2.2.2)]
  obtain rfl := Option.some.inj hM
  exact Wk.iret (t := .int) d2_8 rfl (by simp) rfl (Nat.le_of_ble_eq_true rfl) (Nat.le_of_ble_eq_true rfl) ⟨rfl, rfl⟩
def Fm_res (cap : List Int32) (fl : List Int32) (a : Int32) : Option (Int32) :=
    (Wk.gI cap a).bind fun v1 =>
    (Wk.gI fl a).bind fun v2 =>
    some (v1 - v2)
set_option maxRecDepth 65536 in
set_option maxHeartbeats 40000000 in
theorem m_res (l : Launch) (Z : State) (a0 : Array Value) (hw : ∀ d ∈ tables_1, d.before a0 Z = true) (hB : Heap) (H : List Rec) (ha : Int32) (out0 : Value) (cap : List Int32) (fl : List Int32) (a : Int32) (out : Int32) (hM : Fm_res cap fl a = some out) (h0 : H[0]? = some (obj "com/example/redoubt/redoubt/flow/FlowNetwork" ksFN [(.int (3 : Int32)), (rf hB 1), (rf hB 2), (rf hB 3), (rf hB 4), (.int ha), out0])) (h2 : H[2]? = some (ints cap)) (h3 : H[3]? = some (ints fl)) : Ctr l Z hB ({ cls := "com/example/redoubt/redoubt/flow/FlowNetwork", name := "residual", desc := "(I)I" } : Jvm.MethodName) prog_4_method_13_code 2 (some .int) [] ({ frames := 0, cells := 0, slots := 0, locals := 0 } : Room) #[(rf hB 0), (.int a)] H (fun v H' => v = some (.int out) ∧ H' = H) := by
  refine Wk.ctr pn_9 (Ls := #[.val (rf hB 0), .val (.int a)]) (fun m => by first | rfl | (simp [entryFrame, mkF, argsToLocals, Value.category]; done)) ?_
  simp only [Fm_res] at hM
  refine Wk.aloadN (pc' := 1) d14_0 rfl rfl rfl ?_
  refine Wk.getF0 (pc' := 4) (i := 0) (j := 2) d14_1 (wd13 hw) h0 rfl rfl rfl ?_
  refine Wk.iloadN (pc' := 5) d14_4 rfl rfl ?_
  obtain ⟨v1, ev1, hM⟩ := Option.bind_eq_some_iff.mp hM
  refine Wk.ialoadG (pc' := 6) (i := 2) d14_5 h2 ev1 rfl ?_
  refine Wk.aloadN (pc' := 7) d14_6 rfl rfl rfl ?_
  refine Wk.getF0 (pc' := 10) (i := 0) (j := 3) d14_7 (wd15 hw) h0 rfl rfl rfl ?_
  refine Wk.iloadN (pc' := 11) d14_10 rfl rfl ?_
  obtain ⟨v2, ev2, hM⟩ := Option.bind_eq_some_iff.mp hM
  refine Wk.ialoadG (pc' := 12) (i := 3) d14_11 h3 ev2 rfl ?_
  refine Wk.isub (pc' := 13) d14_12 rfl ?_
  obtain rfl := Option.some.inj hM
  exact Wk.iret (t := .int) d14_13 rfl (by simp) rfl (by simp <;> omega) (Nat.le_of_ble_eq_true rfl) ⟨rfl, rfl⟩
def Fm_climb (hd : List Int32) (cap : List Int32) (fl : List Int32) (lv : List Int32) (a : Int32) : Option (Int32) :=
    (Fm_res cap fl a).bind fun q1 =>
    if (0 : Int32) < q1 then ((Wk.gI hd a).bind fun v2 =>
    (Wk.gI lv v2).bind fun v3 =>
    (Wk.gI hd (a ^^^ (1 : Int32))).bind fun v4 =>
    (Wk.gI lv v4).bind fun v5 =>
    if v3 = (v5 + (1 : Int32)) then (some (1 : Int32)) else (some (0 : Int32))) else (some (0 : Int32))
set_option maxRecDepth 65536 in
set_option maxHeartbeats 40000000 in
theorem m_climb (l : Launch) (Z : State) (a0 : Array Value) (hw : ∀ d ∈ tables_1, d.before a0 Z = true) (hB : Heap) (H : List Rec) (ha : Int32) (out0 : Value) (il : Nat) (hd : List Int32) (cap : List Int32) (fl : List Int32) (lv : List Int32) (a : Int32) (out : Int32) (hM : Fm_climb hd cap fl lv a = some out) (h0 : H[0]? = some (obj "com/example/redoubt/redoubt/flow/FlowNetwork" ksFN [(.int (3 : Int32)), (rf hB 1), (rf hB 2), (rf hB 3), (rf hB 4), (.int ha), out0])) (h2 : H[2]? = some (ints cap)) (h3 : H[3]? = some (ints fl)) (h1 : H[1]? = some (ints hd)) (hl : H[il]? = some (ints lv)) : Ctr l Z hB ({ cls := "com/example/redoubt/redoubt/flow/FlowNetwork", name := "climbs", desc := "(I[I)Z" } : Jvm.MethodName) prog_4_method_12_code 3 (some .boolean) [] ({ frames := 1, cells := 0, slots := 0, locals := 13 } : Room) #[(rf hB 0), (.int a), (rf hB il)] H (fun v H' => v = some (.int out) ∧ H' = H) := by
  refine Wk.ctr pn_10 (Ls := #[.val (rf hB 0), .val (.int a), .val (rf hB il)]) (fun m => by first | rfl | (simp [entryFrame, mkF, argsToLocals, Value.category]; done)) ?_
  simp only [Fm_climb] at hM
  refine Wk.aloadN (pc' := 1) d16_0 rfl rfl rfl ?_
  refine Wk.iloadN (pc' := 2) d16_1 rfl rfl ?_
  obtain ⟨q1, eq1, hM⟩ := Option.bind_eq_some_iff.mp hM
  refine Wk.callP (pc' := 5) (argsL := [(.int a)]) (st := []) d16_2 (wd79 hw) (wd80 hw) (Jvm.Kit.selects_private (by decide) (wd2 hw) (wd81 hw) (wd80 hw)) (wd81 hw) (wd3 hw) (wd82 hw) (by decide) (lenOf pd_3 rfl) (fun _ P => P.exa h0) (m_res l Z a0 hw hB H ha out0 cap fl a q1 eq1 h0 h2 h3) rfl (Nat.le_of_ble_eq_true rfl) (Nat.le_of_ble_eq_true rfl) (by simp <;> omega) (Nat.le_of_ble_eq_true rfl) rfl rfl ?_
  rintro _ _ ⟨rfl, hH⟩; obtain rfl := hH.symm
  show WP l Z hB _ _ _ _ _ _ _ _ H _ _ [(.int q1)]
  by_cases hc1 : (0 : Int32) < q1
  ·
    rw [if_pos hc1] at hM
    refine Wk.ifN (pc' := 8) d16_5 (XT.i0_le_f hc1) rfl ?_
    refine Wk.aloadN (pc' := 9) d16_8 rfl rfl rfl ?_
    refine Wk.aloadN (pc' := 10) d16_9 rfl rfl rfl ?_
    refine Wk.getF0 (pc' := 13) (i := 0) (j := 1) d16_10 (wd11 hw) h0 rfl rfl rfl ?_
    refine Wk.iloadN (pc' := 14) d16_13 rfl rfl ?_
    obtain ⟨v2, ev2, hM⟩ := Option.bind_eq_some_iff.mp hM
    refine Wk.ialoadG (pc' := 15) (i := 1) d16_14 h1 ev2 rfl ?_
    obtain ⟨v3, ev3, hM⟩ := Option.bind_eq_some_iff.mp hM
    refine Wk.ialoadG (pc' := 16) (i := il) d16_15 hl ev3 rfl ?_
    refine Wk.aloadN (pc' := 17) d16_16 rfl rfl rfl ?_
    refine Wk.aloadN (pc' := 18) d16_17 rfl rfl rfl ?_
    refine Wk.getF0 (pc' := 21) (i := 0) (j := 1) d16_18 (wd11 hw) h0 rfl rfl rfl ?_
    refine Wk.iloadN (pc' := 22) d16_21 rfl rfl ?_
    refine Wk.iconst (pc' := 23) (1 : Int32) d16_22 (by decide) rfl ?_
    refine Wk.ixor (pc' := 24) d16_23 rfl ?_
    obtain ⟨v4, ev4, hM⟩ := Option.bind_eq_some_iff.mp hM
    refine Wk.ialoadG (pc' := 25) (i := 1) d16_24 h1 ev4 rfl ?_
    obtain ⟨v5, ev5, hM⟩ := Option.bind_eq_some_iff.mp hM
    refine Wk.ialoadG (pc' := 26) (i := il) d16_25 hl ev5 rfl ?_
    refine Wk.iconst (pc' := 27) (1 : Int32) d16_26 (by decide) rfl ?_
    refine Wk.iadd (pc' := 28) d16_27 rfl ?_
    by_cases hc2 : v3 = (v5 + (1 : Int32))
    ·
      rw [if_pos hc2] at hM
      refine Wk.icN (pc' := 31) d16_28 (XT.ii_ne_f hc2) rfl ?_
      refine Wk.iconst (pc' := 32) (1 : Int32) d16_31 (by decide) rfl ?_
      refine Wk.goTo (pc' := 36) d16_32 (by decide) (by decide) ?_
      obtain rfl := Option.some.inj hM
      exact Wk.iret (t := .boolean) d16_36 rfl (by simp) rfl (by simp <;> omega) (Nat.le_of_ble_eq_true rfl) ⟨rfl, rfl⟩
    ·
      rw [if_neg hc2] at hM
      refine Wk.icY (pc' := 35) d16_28 (XT.ii_ne_t hc2) (by decide) (by decide) ?_
      refine Wk.iconst (pc' := 36) (0 : Int32) d16_35 (by decide) rfl ?_
      obtain rfl := Option.some.inj hM
      exact Wk.iret (t := .boolean) d16_36 rfl (by simp) rfl (by simp <;> omega) (Nat.le_of_ble_eq_true rfl) ⟨rfl, rfl⟩
  ·
    rw [if_neg hc1] at hM
    refine Wk.ifY (pc' := 35) d16_5 (XT.i0_le_t hc1) (by decide) (by decide) ?_
    refine Wk.iconst (pc' := 36) (0 : Int32) d16_35 (by decide) rfl ?_
    obtain rfl := Option.some.inj hM
    exact Wk.iret (t := .boolean) d16_36 rfl (by simp) rfl (by simp <;> omega) (Nat.le_of_ble_eq_true rfl) ⟨rfl, rfl⟩
def Fm_f2l (v : Int32) (z : Int32) : Nat → Int32 → List Int32 → Option (Int32 × List Int32)
  | 0, _, _ => none
  | n + 1, k, ys =>
    if k < z then ((Wk.sI ys k v).bind fun l1 =>
    Fm_f2l v z n ((k + (1 : Int32))) (l1)) else (some (k, ys))
set_option maxRecDepth 65536 in
set_option maxHeartbeats 40000000 in
theorem m_f2l (l : Launch) (Z : State) (a0 : Array Value) (hw : ∀ d ∈ tables_1, d.before a0 Z = true) (hB : Heap) (v : Int32) (z : Int32) (n1 sl : Nat) (Q : Option Value → List Rec → Prop) (H : List Rec) (i : Nat) (xs : List Int32) (hi : H[i]? = some (ints xs)) : ∀ (n : Nat) (k : Int32) (ys : List Int32)  (out : Int32 × List Int32), Fm_f2l v z n k ys = some out → (WP l Z hB ({ cls := "java/util/Arrays", name := "fill", desc := "([II)V" } : Jvm.MethodName) jdk_65_method_103_code 4 none ({ frames := 0, cells := 0, slots := 0, locals := 0 } : Room) n1 Q sl (H.set i (ints out.2)) 20 #[.val (rf hB i), .val (.int v), .val (.int out.1), .val (.int z)] []) → WP l Z hB ({ cls := "java/util/Arrays", name := "fill", desc := "([II)V" } : Jvm.MethodName) jdk_65_method_103_code 4 none ({ frames := 0, cells := 0, slots := 0, locals := 0 } : Room) n1 Q sl (H.set i (ints ys)) 5 #[.val (rf hB i), .val (.int v), .val (.int k), .val (.int z)] [] := by
  intro n
  induction n with
  | zero => intro _ _ out hM; cases hM
  | succ n ih =>
    intro k ys  out hM hk
    simp only [Fm_f2l] at hM
    refine Wk.iloadN (pc' := 6) d13_5 rfl rfl ?_
    refine Wk.iloadN (pc' := 7) d13_6 rfl rfl ?_
    by_cases hc1 : k < z
    ·
      rw [if_pos hc1] at hM
      refine Wk.icN (pc' := 10) d13_7 (XT.ii_ge_f hc1) rfl ?_
      refine Wk.aloadN (pc' := 11) d13_10 rfl rfl rfl ?_
      refine Wk.iloadN (pc' := 12) d13_11 rfl rfl ?_
      refine Wk.iloadN (pc' := 13) d13_12 rfl rfl ?_
      obtain ⟨l1, el1, hM⟩ := Option.bind_eq_some_iff.mp hM
      refine Wk.iastoreG (pc' := 14) (i := i) (H' := (H.set i (ints l1))) d13_13 (gsE hi) el1 (List.set_set ..) rfl ?_
      refine Wk.iinc (pc' := 17) (Ls' := #[.val (rf hB i), .val (.int v), .val (.int (k + (1 : Int32))), .val (.int z)]) (k + (1 : Int32)) d13_14 rfl (by rfl) rfl rfl ?_
      refine Wk.goTo (pc' := 5) d13_17 (by decide) (by decide) ?_
      exact ih ((k + (1 : Int32))) (l1)  out hM hk
    ·
      rw [if_neg hc1] at hM
      refine Wk.icY (pc' := 20) d13_7 (XT.ii_ge_t hc1) (by decide) (by decide) ?_
      obtain rfl := Option.some.inj hM
      exact hk 
def Fm_fill (xs : List Int32) (v : Int32) : Option (List Int32) :=
    (Fm_f2l v (xs.length.toInt32) 20 0 xs).bind fun q1 =>
    some q1.2
set_option maxRecDepth 65536 in
set_option maxHeartbeats 40000000 in
theorem m_fill (l : Launch) (Z : State) (a0 : Array Value) (hw : ∀ d ∈ tables_1, d.before a0 Z = true) (hB : Heap) (H : List Rec) (i : Nat) (xs : List Int32) (v : Int32) (out : List Int32) (hM : Fm_fill xs v = some out) (hi : H[i]? = some (ints xs)) : Ctr l Z hB ({ cls := "java/util/Arrays", name := "fill", desc := "([II)V" } : Jvm.MethodName) jdk_65_method_103_code 4 none [] ({ frames := 0, cells := 0, slots := 0, locals := 0 } : Room) #[(rf hB i), (.int v)] H (fun r H' => r = none ∧ H' = H.set i (ints out)) := by
  refine Wk.ctr pn_11 (Ls := #[.val (rf hB i), .val (.int v), .unset, .unset]) (fun m => by first | rfl | (simp [entryFrame, mkF, argsToLocals, Value.category]; done)) ?_
  simp only [Fm_fill] at hM
  refine Wk.iconst (pc' := 1) (0 : Int32) d13_0 (by decide) rfl ?_
  refine Wk.istoreN (pc' := 2) (Ls' := #[.val (rf hB i), .val (.int v), .val (.int (0 : Int32)), .unset]) d13_1 rfl rfl ?_
  refine Wk.aloadN (pc' := 3) d13_2 rfl rfl rfl ?_
  refine Wk.arrLen (pc' := 4) (i := i) (z := (xs.length.toInt32)) d13_3 hi (by rw [List.length_map]) rfl ?_
  refine Wk.istoreN (pc' := 5) (Ls' := #[.val (rf hB i), .val (.int v), .val (.int (0 : Int32)), .val (.int (xs.length.toInt32))]) d13_4 rfl rfl ?_
  obtain ⟨q1, eq1, hM⟩ := Option.bind_eq_some_iff.mp hM
  refine Wk.WP.heap (Wk.setSelf hi).symm ?_
  refine m_f2l l Z a0 hw hB v (xs.length.toInt32) H.length 0 _ H i xs hi 20 0 xs q1 eq1 ?_
  obtain rfl := Option.some.inj hM
  exact Wk.vret d13_20 rfl (by simp <;> omega) (Nat.le_of_ble_eq_true rfl) ⟨rfl, rfl⟩
def Fm_lin (hd : List Int32) (cap : List Int32) (fl : List Int32) (cs : List Int64) (ct : List Int32) (r0 : List Int32) (r1 : List Int32) (r2 : List Int32) (ha : Int32) (nx : List Int32) (pa : List Int32) (sr : Int32) (sk : Int32) (tk : Int32) (nd : Int32) (zz : Int32) (row : List Int32) : Nat → Int32 → Int32 → List Int32 → List Int32 → Option (Int32 × Int32 × List Int32 × List Int32)
  | 0, _, _, _, _ => none
  | n + 1, qd, ix, lv, qu =>
    if ix < zz then ((Wk.gI row ix).bind fun v1 =>
    (Wk.gI hd v1).bind fun v2 =>
    (Wk.gI lv v2).bind fun v3 =>
    if v3 < (0 : Int32) then ((Fm_res cap fl v1).bind fun q4 =>
    if (0 : Int32) < q4 then ((Wk.gI lv nd).bind fun v5 =>
    (Wk.sI lv v2 (v5 + (1 : Int32))).bind fun l6 =>
    (Wk.sI qu qd v2).bind fun l7 =>
    Fm_lin hd cap fl cs ct r0 r1 r2 ha nx pa sr sk tk nd zz row n ((qd + (1 : Int32))) ((ix + (1 : Int32))) (l6) (l7)) else (Fm_lin hd cap fl cs ct r0 r1 r2 ha nx pa sr sk tk nd zz row n (qd) ((ix + (1 : Int32))) (lv) (qu))) else (Fm_lin hd cap fl cs ct r0 r1 r2 ha nx pa sr sk tk nd zz row n (qd) ((ix + (1 : Int32))) (lv) (qu))) else (some (qd, ix, lv, qu))
set_option maxRecDepth 65536 in
set_option maxHeartbeats 40000000 in
theorem m_lin (l : Launch) (Z : State) (a0 : Array Value) (hw : ∀ d ∈ tables_1, d.before a0 Z = true) (hB : Heap) (hd : List Int32) (cap : List Int32) (fl : List Int32) (cs : List Int64) (ct : List Int32) (r0 : List Int32) (r1 : List Int32) (r2 : List Int32) (ha : Int32) (nx : List Int32) (pa : List Int32) (sr : Int32) (sk : Int32) (tk : Int32) (nd : Int32) (zz : Int32) (row : List Int32) (n1 sl : Nat) (Q : Option Value → List Rec → Prop) (G K : List Rec) (hsl : sl ≤ 3) (hcl : (10 + G.length + (3 + K.length)) + 1 ≤ n1 + 1) (en0 : Wk.gR [r0, r1, r2] nd = some row) : ∀ (n : Nat) (qd : Int32) (ix : Int32) (lv : List Int32) (qu : List Int32) (s11 : Slot) (hs11 : s11 = .unset ∨ ∃ w, s11 = .val w ∧ w.category = 1) (s12 : Slot) (hs12 : s12 = .unset ∨ ∃ w, s12 = .val w ∧ w.category = 1) (out : Int32 × Int32 × List Int32 × List Int32), Fm_lin hd cap fl cs ct r0 r1 r2 ha nx pa sr sk tk nd zz row n qd ix lv qu = some out → (∀ (s11 : Slot) (hs11 : s11 = .unset ∨ ∃ w, s11 = .val w ∧ w.category = 1) (s12 : Slot) (hs12 : s12 = .unset ∨ ∃ w, s12 = .val w ∧ w.category = 1), WP l Z hB ({ cls := "com/example/redoubt/redoubt/flow/FlowNetwork", name := "levelFromSource", desc := "(II[I)Z" } : Jvm.MethodName) prog_4_method_10_code 13 (some .boolean) ({ frames := 1, cells := 1, slots := 3, locals := 20 } : Room) n1 Q sl ([obj "com/example/redoubt/redoubt/flow/FlowNetwork" ksFN [(.int (3 : Int32)), (rf hB 1), (rf hB 2), (rf hB 3), (rf hB 4), (.int ha), (rf hB 6)], ints hd, ints cap, ints fl, longs cs, ints ct, arr (.array .int) [(rf hB 7), (rf hB 8), (rf hB 9)], ints r0, ints r1, ints r2] ++ (G ++ ([ints out.2.2.1, ints nx, ints pa] ++ (K ++ [ints out.2.2.2])))) 128 #[.val (rf hB 0), .val (.int sr), .val (.int sk), .val (rf hB (10 + G.length + 0)), .val (rf hB (10 + G.length + (K.length + 3))), .val (.int out.1), .val (.int tk), .val (.int nd), .val (rf hB (7 + (nd).toNatClampNeg)), .val (.int zz), .val (.int out.2.1), s11, s12] []) → WP l Z hB ({ cls := "com/example/redoubt/redoubt/flow/FlowNetwork", name := "levelFromSource", desc := "(II[I)Z" } : Jvm.MethodName) prog_4_method_10_code 13 (some .boolean) ({ frames := 1, cells := 1, slots := 3, locals := 20 } : Room) n1 Q sl ([obj "com/example/redoubt/redoubt/flow/FlowNetwork" ksFN [(.int (3 : Int32)), (rf hB 1), (rf hB 2), (rf hB 3), (rf hB 4), (.int ha), (rf hB 6)], ints hd, ints cap, ints fl, longs cs, ints ct, arr (.array .int) [(rf hB 7), (rf hB 8), (rf hB 9)], ints r0, ints r1, ints r2] ++ (G ++ ([ints lv, ints nx, ints pa] ++ (K ++ [ints qu])))) 63 #[.val (rf hB 0), .val (.int sr), .val (.int sk), .val (rf hB (10 + G.length + 0)), .val (rf hB (10 + G.length + (K.length + 3))), .val (.int qd), .val (.int tk), .val (.int nd), .val (rf hB (7 + (nd).toNatClampNeg)), .val (.int zz), .val (.int ix), s11, s12] [] := by
  intro n
  induction n with
  | zero => intro _ _ _ _ _ _ _ _ out hM; cases hM
  | succ n ih =>
    intro qd ix lv qu s11 hs11 s12 hs12 out hM hk
    simp only [Fm_lin] at hM
    refine Wk.iload (pc' := 65) d12_63 rfl rfl ?_
    refine Wk.iload (pc' := 67) d12_65 rfl rfl ?_
    by_cases hc1 : ix < zz
    ·
      rw [if_pos hc1] at hM
      refine Wk.icN (pc' := 70) d12_67 (XT.ii_ge_f hc1) rfl ?_
      refine Wk.aload (pc' := 72) d12_70 rfl rfl rfl ?_
      refine Wk.iload (pc' := 74) d12_72 rfl rfl ?_
      obtain ⟨v1, ev1, hM⟩ := Option.bind_eq_some_iff.mp hM
      refine Wk.ialoadG (pc' := 75) (i := (7 + (nd).toNatClampNeg)) d12_74 (rowAt en0) ev1 rfl ?_
      refine Wk.istore (pc' := 77) (Ls' := #[.val (rf hB 0), .val (.int sr), .val (.int sk), .val (rf hB (10 + G.length + 0)), .val (rf hB (10 + G.length + (K.length + 3))), .val (.int qd), .val (.int tk), .val (.int nd), .val (rf hB (7 + (nd).toNatClampNeg)), .val (.int zz), .val (.int ix), .val (.int v1), s12]) d12_75 (XS.store1 rfl hs11 rfl) rfl ?_
      refine Wk.aloadN (pc' := 78) d12_77 rfl rfl rfl ?_
      refine Wk.getF0 (pc' := 81) (i := 0) (j := 1) d12_78 (wd11 hw) rfl rfl rfl rfl ?_
      refine Wk.iload (pc' := 83) d12_81 rfl rfl ?_
      obtain ⟨v2, ev2, hM⟩ := Option.bind_eq_some_iff.mp hM
      refine Wk.ialoadG (pc' := 84) (i := 1) d12_83 rfl ev2 rfl ?_
      refine Wk.istore (pc' := 86) (Ls' := #[.val (rf hB 0), .val (.int sr), .val (.int sk), .val (rf hB (10 + G.length + 0)), .val (rf hB (10 + G.length + (K.length + 3))), .val (.int qd), .val (.int tk), .val (.int nd), .val (rf hB (7 + (nd).toNatClampNeg)), .val (.int zz), .val (.int ix), .val (.int v1), .val (.int v2)]) d12_84 (XS.store1 rfl hs12 rfl) rfl ?_
      refine Wk.aloadN (pc' := 87) d12_86 rfl rfl rfl ?_
      refine Wk.iload (pc' := 89) d12_87 rfl rfl ?_
      obtain ⟨v3, ev3, hM⟩ := Option.bind_eq_some_iff.mp hM
      refine Wk.ialoadG (pc' := 90) (i := (10 + G.length + 0)) d12_89 (Wk.getT rfl) ev3 rfl ?_
      by_cases hc2 : v3 < (0 : Int32)
      ·
        rw [if_pos hc2] at hM
        refine Wk.ifN (pc' := 93) d12_90 (XT.i0_ge_f hc2) rfl ?_
        refine Wk.aloadN (pc' := 94) d12_93 rfl rfl rfl ?_
        refine Wk.iload (pc' := 96) d12_94 rfl rfl ?_
        obtain ⟨q4, eq4, hM⟩ := Option.bind_eq_some_iff.mp hM
        refine Wk.callP (pc' := 99) (argsL := [(.int v1)]) (st := []) d12_96 (wd79 hw) (wd80 hw) (Jvm.Kit.selects_private (by decide) (wd2 hw) (wd81 hw) (wd80 hw)) (wd81 hw) (wd3 hw) (wd82 hw) (by decide) (lenOf pd_3 rfl) (fun _ P => P.exa rfl) (m_res l Z a0 hw hB ([obj "com/example/redoubt/redoubt/flow/FlowNetwork" ksFN [(.int (3 : Int32)), (rf hB 1), (rf hB 2), (rf hB 3), (rf hB 4), (.int ha), (rf hB 6)], ints hd, ints cap, ints fl, longs cs, ints ct, arr (.array .int) [(rf hB 7), (rf hB 8), (rf hB 9)], ints r0, ints r1, ints r2] ++ (G ++ ([ints lv, ints nx, ints pa] ++ (K ++ [ints qu])))) ha (rf hB 6) cap fl v1 q4 eq4 rfl rfl rfl) rfl (Nat.le_of_ble_eq_true rfl) (Nat.le_of_ble_eq_true rfl) (by simp only [List.length_append, List.length_cons, List.length_nil] <;> omega) (by first | exact hsl | omega) rfl rfl ?_
        rintro _ _ ⟨rfl, hH⟩; obtain rfl := hH.symm
        show WP l Z hB _ _ _ _ _ _ _ _ ([obj "com/example/redoubt/redoubt/flow/FlowNetwork" ksFN [(.int (3 : Int32)), (rf hB 1), (rf hB 2), (rf hB 3), (rf hB 4), (.int ha), (rf hB 6)], ints hd, ints cap, ints fl, longs cs, ints ct, arr (.array .int) [(rf hB 7), (rf hB 8), (rf hB 9)], ints r0, ints r1, ints r2] ++ (G ++ ([ints lv, ints nx, ints pa] ++ (K ++ [ints qu])))) _ _ [(.int q4)]
        by_cases hc3 : (0 : Int32) < q4
        ·
          rw [if_pos hc3] at hM
          refine Wk.ifN (pc' := 102) d12_99 (XT.i0_le_f hc3) rfl ?_
          refine Wk.aloadN (pc' := 103) d12_102 rfl rfl rfl ?_
          refine Wk.iload (pc' := 105) d12_103 rfl rfl ?_
          refine Wk.aloadN (pc' := 106) d12_105 rfl rfl rfl ?_
          refine Wk.iload (pc' := 108) d12_106 rfl rfl ?_
          obtain ⟨v5, ev5, hM⟩ := Option.bind_eq_some_iff.mp hM
          refine Wk.ialoadG (pc' := 109) (i := (10 + G.length + 0)) d12_108 (Wk.getT rfl) ev5 rfl ?_
          refine Wk.iconst (pc' := 110) (1 : Int32) d12_109 (by decide) rfl ?_
          refine Wk.iadd (pc' := 111) d12_110 rfl ?_
          obtain ⟨l6, el6, hM⟩ := Option.bind_eq_some_iff.mp hM
          refine Wk.iastoreG (pc' := 112) (i := (10 + G.length + 0)) (H' := ([obj "com/example/redoubt/redoubt/flow/FlowNetwork" ksFN [(.int (3 : Int32)), (rf hB 1), (rf hB 2), (rf hB 3), (rf hB 4), (.int ha), (rf hB 6)], ints hd, ints cap, ints fl, longs cs, ints ct, arr (.array .int) [(rf hB 7), (rf hB 8), (rf hB 9)], ints r0, ints r1, ints r2] ++ (G ++ ([ints l6, ints nx, ints pa] ++ (K ++ [ints qu]))))) d12_111 (Wk.getT rfl) el6 Wk.setT rfl ?_
          refine Wk.aload (pc' := 114) d12_112 rfl rfl rfl ?_
          refine Wk.iload (pc' := 116) d12_114 rfl rfl ?_
          refine Wk.iinc (pc' := 119) (Ls' := #[.val (rf hB 0), .val (.int sr), .val (.int sk), .val (rf hB (10 + G.length + 0)), .val (rf hB (10 + G.length + (K.length + 3))), .val (.int (qd + (1 : Int32))), .val (.int tk), .val (.int nd), .val (rf hB (7 + (nd).toNatClampNeg)), .val (.int zz), .val (.int ix), .val (.int v1), .val (.int v2)]) (qd + (1 : Int32)) d12_116 rfl (by rfl) rfl rfl ?_
          refine Wk.iload (pc' := 121) d12_119 rfl rfl ?_
          obtain ⟨l7, el7, hM⟩ := Option.bind_eq_some_iff.mp hM
          refine Wk.iastoreG (pc' := 122) (i := (10 + G.length + (K.length + 3))) (H' := ([obj "com/example/redoubt/redoubt/flow/FlowNetwork" ksFN [(.int (3 : Int32)), (rf hB 1), (rf hB 2), (rf hB 3), (rf hB 4), (.int ha), (rf hB 6)], ints hd, ints cap, ints fl, longs cs, ints ct, arr (.array .int) [(rf hB 7), (rf hB 8), (rf hB 9)], ints r0, ints r1, ints r2] ++ (G ++ ([ints l6, ints nx, ints pa] ++ (K ++ [ints l7]))))) d12_121 (Wk.getT (Wk.getE rfl)) el7 (Wk.setTE rfl) rfl ?_
          refine Wk.iinc (pc' := 125) (Ls' := #[.val (rf hB 0), .val (.int sr), .val (.int sk), .val (rf hB (10 + G.length + 0)), .val (rf hB (10 + G.length + (K.length + 3))), .val (.int (qd + (1 : Int32))), .val (.int tk), .val (.int nd), .val (rf hB (7 + (nd).toNatClampNeg)), .val (.int zz), .val (.int (ix + (1 : Int32))), .val (.int v1), .val (.int v2)]) (ix + (1 : Int32)) d12_122 rfl (by rfl) rfl rfl ?_
          refine Wk.goTo (pc' := 63) d12_125 (by decide) (by decide) ?_
          exact ih ((qd + (1 : Int32))) ((ix + (1 : Int32))) (l6) (l7) (.val (.int v1)) (Or.inr ⟨_, rfl, rfl⟩) (.val (.int v2)) (Or.inr ⟨_, rfl, rfl⟩) out hM hk
        ·
          rw [if_neg hc3] at hM
          refine Wk.ifY (pc' := 122) d12_99 (XT.i0_le_t hc3) (by decide) (by decide) ?_
          refine Wk.iinc (pc' := 125) (Ls' := #[.val (rf hB 0), .val (.int sr), .val (.int sk), .val (rf hB (10 + G.length + 0)), .val (rf hB (10 + G.length + (K.length + 3))), .val (.int qd), .val (.int tk), .val (.int nd), .val (rf hB (7 + (nd).toNatClampNeg)), .val (.int zz), .val (.int (ix + (1 : Int32))), .val (.int v1), .val (.int v2)]) (ix + (1 : Int32)) d12_122 rfl (by rfl) rfl rfl ?_
          refine Wk.goTo (pc' := 63) d12_125 (by decide) (by decide) ?_
          exact ih (qd) ((ix + (1 : Int32))) (lv) (qu) (.val (.int v1)) (Or.inr ⟨_, rfl, rfl⟩) (.val (.int v2)) (Or.inr ⟨_, rfl, rfl⟩) out hM hk
      ·
        rw [if_neg hc2] at hM
        refine Wk.ifY (pc' := 122) d12_90 (XT.i0_ge_t hc2) (by decide) (by decide) ?_
        refine Wk.iinc (pc' := 125) (Ls' := #[.val (rf hB 0), .val (.int sr), .val (.int sk), .val (rf hB (10 + G.length + 0)), .val (rf hB (10 + G.length + (K.length + 3))), .val (.int qd), .val (.int tk), .val (.int nd), .val (rf hB (7 + (nd).toNatClampNeg)), .val (.int zz), .val (.int (ix + (1 : Int32))), .val (.int v1), .val (.int v2)]) (ix + (1 : Int32)) d12_122 rfl (by rfl) rfl rfl ?_
        refine Wk.goTo (pc' := 63) d12_125 (by decide) (by decide) ?_
        exact ih (qd) ((ix + (1 : Int32))) (lv) (qu) (.val (.int v1)) (Or.inr ⟨_, rfl, rfl⟩) (.val (.int v2)) (Or.inr ⟨_, rfl, rfl⟩) out hM hk
    ·
      rw [if_neg hc1] at hM
      refine Wk.icY (pc' := 128) d12_67 (XT.ii_ge_t hc1) (by decide) (by decide) ?_
      obtain rfl := Option.some.inj hM
      exact hk (s11) hs11 (s12) hs12
def Fm_lout (hd : List Int32) (cap : List Int32) (fl : List Int32) (cs : List Int64) (ct : List Int32) (r0 : List Int32) (r1 : List Int32) (r2 : List Int32) (ha : Int32) (nx : List Int32) (pa : List Int32) (sr : Int32) (sk : Int32) : Nat → Int32 → Int32 → List Int32 → List Int32 → Option (Int32 × Int32 × List Int32 × List Int32)
  | 0, _, _, _, _ => none
  | n + 1, qd, tk, lv, qu =>
    if tk < qd then ((Wk.gI qu tk).bind fun v1 =>
    (Wk.gR [r0, r1, r2] v1).bind fun row2 =>
    (Fm_lin hd cap fl cs ct r0 r1 r2 ha nx pa sr sk tk v1 (row2.length.toInt32) row2 20 qd (0 : Int32) (lv) (qu)).bind fun q3 =>
    Fm_lout hd cap fl cs ct r0 r1 r2 ha nx pa sr sk n (q3.1) ((tk + (1 : Int32))) (q3.2.2.1) (q3.2.2.2)) else (some (qd, tk, lv, qu))
set_option maxRecDepth 65536 in
set_option maxHeartbeats 40000000 in
theorem m_lout (l : Launch) (Z : State) (a0 : Array Value) (hw : ∀ d ∈ tables_1, d.before a0 Z = true) (hB : Heap) (hd : List Int32) (cap : List Int32) (fl : List Int32) (cs : List Int64) (ct : List Int32) (r0 : List Int32) (r1 : List Int32) (r2 : List Int32) (ha : Int32) (nx : List Int32) (pa : List Int32) (sr : Int32) (sk : Int32) (n1 sl : Nat) (Q : Option Value → List Rec → Prop) (G K : List Rec) (hsl : sl ≤ 3) (hcl : (10 + G.length + (3 + K.length)) + 1 ≤ n1 + 1) : ∀ (n : Nat) (qd : Int32) (tk : Int32) (lv : List Int32) (qu : List Int32) (s7 : Slot) (hs7 : s7 = .unset ∨ ∃ w, s7 = .val w ∧ w.category = 1) (s8 : Slot) (hs8 : s8 = .unset ∨ ∃ w, s8 = .val w ∧ w.category = 1) (s9 : Slot) (hs9 : s9 = .unset ∨ ∃ w, s9 = .val w ∧ w.category = 1) (s10 : Slot) (hs10 : s10 = .unset ∨ ∃ w, s10 = .val w ∧ w.category = 1) (s11 : Slot) (hs11 : s11 = .unset ∨ ∃ w, s11 = .val w ∧ w.category = 1) (s12 : Slot) (hs12 : s12 = .unset ∨ ∃ w, s12 = .val w ∧ w.category = 1) (out : Int32 × Int32 × List Int32 × List Int32), Fm_lout hd cap fl cs ct r0 r1 r2 ha nx pa sr sk n qd tk lv qu = some out → (∀ (s7 : Slot) (hs7 : s7 = .unset ∨ ∃ w, s7 = .val w ∧ w.category = 1) (s8 : Slot) (hs8 : s8 = .unset ∨ ∃ w, s8 = .val w ∧ w.category = 1) (s9 : Slot) (hs9 : s9 = .unset ∨ ∃ w, s9 = .val w ∧ w.category = 1) (s10 : Slot) (hs10 : s10 = .unset ∨ ∃ w, s10 = .val w ∧ w.category = 1) (s11 : Slot) (hs11 : s11 = .unset ∨ ∃ w, s11 = .val w ∧ w.category = 1) (s12 : Slot) (hs12 : s12 = .unset ∨ ∃ w, s12 = .val w ∧ w.category = 1), WP l Z hB ({ cls := "com/example/redoubt/redoubt/flow/FlowNetwork", name := "levelFromSource", desc := "(II[I)Z" } : Jvm.MethodName) prog_4_method_10_code 13 (some .boolean) ({ frames := 1, cells := 1, slots := 3, locals := 20 } : Room) n1 Q sl ([obj "com/example/redoubt/redoubt/flow/FlowNetwork" ksFN [(.int (3 : Int32)), (rf hB 1), (rf hB 2), (rf hB 3), (rf hB 4), (.int ha), (rf hB 6)], ints hd, ints cap, ints fl, longs cs, ints ct, arr (.array .int) [(rf hB 7), (rf hB 8), (rf hB 9)], ints r0, ints r1, ints r2] ++ (G ++ ([ints out.2.2.1, ints nx, ints pa] ++ (K ++ [ints out.2.2.2])))) 134 #[.val (rf hB 0), .val (.int sr), .val (.int sk), .val (rf hB (10 + G.length + 0)), .val (rf hB (10 + G.length + (K.length + 3))), .val (.int out.1), .val (.int out.2.1), s7, s8, s9, s10, s11, s12] []) → WP l Z hB ({ cls := "com/example/redoubt/redoubt/flow/FlowNetwork", name := "levelFromSource", desc := "(II[I)Z" } : Jvm.MethodName) prog_4_method_10_code 13 (some .boolean) ({ frames := 1, cells := 1, slots := 3, locals := 20 } : Room) n1 Q sl ([obj "com/example/redoubt/redoubt/flow/FlowNetwork" ksFN [(.int (3 : Int32)), (rf hB 1), (rf hB 2), (rf hB 3), (rf hB 4), (.int ha), (rf hB 6)], ints hd, ints cap, ints fl, longs cs, ints ct, arr (.array .int) [(rf hB 7), (rf hB 8), (rf hB 9)], ints r0, ints r1, ints r2] ++ (G ++ ([ints lv, ints nx, ints pa] ++ (K ++ [ints qu])))) 32 #[.val (rf hB 0), .val (.int sr), .val (.int sk), .val (rf hB (10 + G.length + 0)), .val (rf hB (10 + G.length + (K.length + 3))), .val (.int qd), .val (.int tk), s7, s8, s9, s10, s11, s12] [] := by
  intro n
  induction n with
  | zero => intro _ _ _ _ _ _ _ _ _ _ _ _ _ _ _ _ out hM; cases hM
  | succ n ih =>
    intro qd tk lv qu s7 hs7 s8 hs8 s9 hs9 s10 hs10 s11 hs11 s12 hs12 out hM hk
    simp only [Fm_lout] at hM
    refine Wk.iload (pc' := 34) d12_32 rfl rfl ?_
    refine Wk.iload (pc' := 36) d12_34 rfl rfl ?_
    by_cases hc1 : tk < qd
    ·
      rw [if_pos hc1] at hM
      refine Wk.icN (pc' := 39) d12_36 (XT.ii_ge_f hc1) rfl ?_
      refine Wk.aload (pc' := 41) d12_39 rfl rfl rfl ?_
      refine Wk.iload (pc' := 43) d12_41 rfl rfl ?_
      obtain ⟨v1, ev1, hM⟩ := Option.bind_eq_some_iff.mp hM
      refine Wk.ialoadG (pc' := 44) (i := (10 + G.length + (K.length + 3))) d12_43 (Wk.getT (Wk.getE rfl)) ev1 rfl ?_
      refine Wk.istore (pc' := 46) (Ls' := #[.val (rf hB 0), .val (.int sr), .val (.int sk), .val (rf hB (10 + G.length + 0)), .val (rf hB (10 + G.length + (K.length + 3))), .val (.int qd), .val (.int tk), .val (.int v1), s8, s9, s10, s11, s12]) d12_44 (XS.store1 rfl hs7 rfl) rfl ?_
      refine Wk.aloadN (pc' := 47) d12_46 rfl rfl rfl ?_
      refine Wk.getF0 (pc' := 50) (i := 0) (j := 6) d12_47 (wd44 hw) rfl rfl rfl rfl ?_
      refine Wk.iload (pc' := 52) d12_50 rfl rfl ?_
      obtain ⟨row2, erow2, hM⟩ := Option.bind_eq_some_iff.mp hM
      refine Wk.aaload (pc' := 53) (i := 6) (jn := (v1).toNatClampNeg) (v := rf hB (7 + (v1).toNatClampNeg)) d12_52 rfl rfl (Wk.gR_at erow2).1 rfl (rowRef erow2) rfl ?_
      refine Wk.astore (pc' := 55) (Ls' := #[.val (rf hB 0), .val (.int sr), .val (.int sk), .val (rf hB (10 + G.length + 0)), .val (rf hB (10 + G.length + (K.length + 3))), .val (.int qd), .val (.int tk), .val (.int v1), .val (rf hB (7 + (v1).toNatClampNeg)), s9, s10, s11, s12]) d12_53 rfl (XS.store1 rfl hs8 rfl) rfl ?_
      refine Wk.aload (pc' := 57) d12_55 rfl rfl rfl ?_
      refine Wk.arrLen (pc' := 58) (i := (7 + (v1).toNatClampNeg)) (z := (row2.length.toInt32)) d12_57 (rowAt erow2) (by rw [List.length_map]) rfl ?_
      refine Wk.istore (pc' := 60) (Ls' := #[.val (rf hB 0), .val (.int sr), .val (.int sk), .val (rf hB (10 + G.length + 0)), .val (rf hB (10 + G.length + (K.length + 3))), .val (.int qd), .val (.int tk), .val (.int v1), .val (rf hB (7 + (v1).toNatClampNeg)), .val (.int (row2.length.toInt32)), s10, s11, s12]) d12_58 (XS.store1 rfl hs9 rfl) rfl ?_
      refine Wk.iconst (pc' := 61) (0 : Int32) d12_60 (by decide) rfl ?_
      refine Wk.istore (pc' := 63) (Ls' := #[.val (rf hB 0), .val (.int sr), .val (.int sk), .val (rf hB (10 + G.length + 0)), .val (rf hB (10 + G.length + (K.length + 3))), .val (.int qd), .val (.int tk), .val (.int v1), .val (rf hB (7 + (v1).toNatClampNeg)), .val (.int (row2.length.toInt32)), .val (.int (0 : Int32)), s11, s12]) d12_61 (XS.store1 rfl hs10 rfl) rfl ?_
      obtain ⟨q3, eq3, hM⟩ := Option.bind_eq_some_iff.mp hM
      refine m_lin l Z a0 hw hB hd cap fl cs ct r0 r1 r2 ha nx pa sr sk tk v1 (row2.length.toInt32) row2 n1 sl Q G K hsl hcl erow2 20 qd (0 : Int32) (lv) (qu) (s11) hs11 (s12) hs12 q3 eq3 ?_
      intro s11 hs11 s12 hs12
      refine Wk.iinc (pc' := 131) (Ls' := #[.val (rf hB 0), .val (.int sr), .val (.int sk), .val (rf hB (10 + G.length + 0)), .val (rf hB (10 + G.length + (K.length + 3))), .val (.int q3.1), .val (.int (tk + (1 : Int32))), .val (.int v1), .val (rf hB (7 + (v1).toNatClampNeg)), .val (.int (row2.length.toInt32)), .val (.int q3.2.1), s11, s12]) (tk + (1 : Int32)) d12_128 rfl (by rfl) rfl rfl ?_
      refine Wk.goTo (pc' := 32) d12_131 (by decide) (by decide) ?_
      exact ih (q3.1) ((tk + (1 : Int32))) (q3.2.2.1) (q3.2.2.2) (.val (.int v1)) (Or.inr ⟨_, rfl, rfl⟩) (.val (rf hB (7 + (v1).toNatClampNeg))) (Or.inr ⟨_, rfl, rfl⟩) (.val (.int (row2.length.toInt32))) (Or.inr ⟨_, rfl, rfl⟩) (.val (.int q3.2.1)) (Or.inr ⟨_, rfl, rfl⟩) (s11) hs11 (s12) hs12 out hM hk
    ·
      rw [if_neg hc1] at hM
      refine Wk.icY (pc' := 134) d12_36 (XT.ii_ge_t hc1) (by decide) (by decide) ?_
      obtain rfl := Option.some.inj hM
      exact hk (s7) hs7 (s8) hs8 (s9) hs9 (s10) hs10 (s11) hs11 (s12) hs12
def Fm_lfs (hd : List Int32) (cap : List Int32) (fl : List Int32) (cs : List Int64) (ct : List Int32) (r0 : List Int32) (r1 : List Int32) (r2 : List Int32) (ha : Int32) (lv : List Int32) (nx : List Int32) (pa : List Int32) (sr : Int32) (sk : Int32) : Option (Int32 × List Int32 × List Int32) :=
    (Fm_fill lv (-1 : Int32)).bind fun q1 =>
    (Wk.sI q1 sr (0 : Int32)).bind fun l2 =>
    (Wk.sI [0, 0, 0] (0 : Int32) sr).bind fun l3 =>
    (Fm_lout hd cap fl cs ct r0 r1 r2 ha nx pa sr sk 10 (1 : Int32) (0 : Int32) (l2) (l3)).bind fun q4 =>
    (Wk.gI q4.2.2.1 sk).bind fun v5 =>
    if v5 < (0 : Int32) then (some ((0 : Int32), q4.2.2.1, q4.2.2.2)) else (some ((1 : Int32), q4.2.2.1, q4.2.2.2))
set_option maxRecDepth 65536 in
set_option maxHeartbeats 40000000 in
theorem m_lfs (l : Launch) (Z : State) (a0 : Array Value) (hw : ∀ d ∈ tables_1, d.before a0 Z = true) (hB : Heap) (G K : List Rec) (hd : List Int32) (cap : List Int32) (fl : List Int32) (cs : List Int64) (ct : List Int32) (r0 : List Int32) (r1 : List Int32) (r2 : List Int32) (ha : Int32) (lv : List Int32) (nx : List Int32) (pa : List Int32) (sr : Int32) (sk : Int32) (out : Int32 × List Int32 × List Int32) (hM : Fm_lfs hd cap fl cs ct r0 r1 r2 ha lv nx pa sr sk = some out)  : Ctr l Z hB ({ cls := "com/example/redoubt/redoubt/flow/FlowNetwork", name := "levelFromSource", desc := "(II[I)Z" } : Jvm.MethodName) prog_4_method_10_code 13 (some .boolean) [] ({ frames := 1, cells := 1, slots := 3, locals := 20 } : Room) #[(rf hB 0), (.int sr), (.int sk), (rf hB (10 + G.length + 0))] ([obj "com/example/redoubt/redoubt/flow/FlowNetwork" ksFN [(.int (3 : Int32)), (rf hB 1), (rf hB 2), (rf hB 3), (rf hB 4), (.int ha), (rf hB 6)], ints hd, ints cap, ints fl, longs cs, ints ct, arr (.array .int) [(rf hB 7), (rf hB 8), (rf hB 9)], ints r0, ints r1, ints r2] ++ (G ++ ([ints lv, ints nx, ints pa] ++ K))) (fun v H' => v = some (.int out.1) ∧ H' = ([obj "com/example/redoubt/redoubt/flow/FlowNetwork" ksFN [(.int (3 : Int32)), (rf hB 1), (rf hB 2), (rf hB 3), (rf hB 4), (.int ha), (rf hB 6)], ints hd, ints cap, ints fl, longs cs, ints ct, arr (.array .int) [(rf hB 7), (rf hB 8), (rf hB 9)], ints r0, ints r1, ints r2] ++ (G ++ ([ints out.2.1, ints nx, ints pa] ++ (K ++ [ints out.2.2]))))) := by
  refine Wk.ctr pn_12 (Ls := #[.val (rf hB 0), .val (.int sr), .val (.int sk), .val (rf hB (10 + G.length + 0)), .unset, .unset, .unset, .unset, .unset, .unset, .unset, .unset, .unset]) (fun m => by first | rfl | (simp [entryFrame, mkF, argsToLocals, Value.category]; done)) ?_
  simp only [Fm_lfs] at hM
  refine Wk.aloadN (pc' := 1) d12_0 rfl rfl rfl ?_
  refine Wk.iconst (pc' := 2) (-1 : Int32) d12_1 (by decide) rfl ?_
  obtain ⟨q1, eq1, hM⟩ := Option.bind_eq_some_iff.mp hM
  refine Wk.callS (pc' := 5) (argsL := [(rf hB (10 + G.length + 0)), (.int (-1 : Int32))]) (st := []) d12_2 (wd75 hw) (wd76 hw) (wd77 hw) (wd78 hw) (by decide) (lenOf pd_4 rfl) (m_fill l Z a0 hw hB ([obj "com/example/redoubt/redoubt/flow/FlowNetwork" ksFN [(.int (3 : Int32)), (rf hB 1), (rf hB 2), (rf hB 3), (rf hB 4), (.int ha), (rf hB 6)], ints hd, ints cap, ints fl, longs cs, ints ct, arr (.array .int) [(rf hB 7), (rf hB 8), (rf hB 9)], ints r0, ints r1, ints r2] ++ (G ++ ([ints lv, ints nx, ints pa] ++ K))) (10 + G.length + 0) lv (-1 : Int32) q1 eq1 (Wk.getT rfl)) rfl (Nat.le_of_ble_eq_true rfl) (Nat.le_of_ble_eq_true rfl) (by simp only [List.length_append, List.length_cons, List.length_nil] <;> omega) (Nat.le_of_ble_eq_true rfl) rfl rfl ?_
  rintro _ _ ⟨rfl, hH⟩; obtain rfl := hH.symm; refine Wk.WP.heap Wk.setT ?_
  show WP l Z hB _ _ _ _ _ _ _ _ ([obj "com/example/redoubt/redoubt/flow/FlowNetwork" ksFN [(.int (3 : Int32)), (rf hB 1), (rf hB 2), (rf hB 3), (rf hB 4), (.int ha), (rf hB 6)], ints hd, ints cap, ints fl, longs cs, ints ct, arr (.array .int) [(rf hB 7), (rf hB 8), (rf hB 9)], ints r0, ints r1, ints r2] ++ (G ++ ([ints q1, ints nx, ints pa] ++ K))) _ _ []
  refine Wk.aloadN (pc' := 6) d12_5 rfl rfl rfl ?_
  refine Wk.getF0 (pc' := 9) (i := 0) (j := 0) d12_6 (wd20 hw) rfl rfl rfl rfl ?_
  refine Wk.newArr (pc' := 11) (i := (10 + G.length + (K.length + 3))) (nn := 3) (H' := ([obj "com/example/redoubt/redoubt/flow/FlowNetwork" ksFN [(.int (3 : Int32)), (rf hB 1), (rf hB 2), (rf hB 3), (rf hB 4), (.int ha), (rf hB 6)], ints hd, ints cap, ints fl, longs cs, ints ct, arr (.array .int) [(rf hB 7), (rf hB 8), (rf hB 9)], ints r0, ints r1, ints r2] ++ (G ++ ([ints q1, ints nx, ints pa] ++ (K ++ [ints [0, 0, 0]]))))) d12_9 (wd10 hw) (by decide) (by decide) (by omega) rfl ⟨(by intro C; simp [newarray.typeOf]), (by intro C; simp [newarray.typeOf])⟩ (by simp only [List.length_append, List.length_cons, List.length_nil] <;> omega) (Nat.le_of_ble_eq_true rfl) Wk.pushTK (by simp only [List.length_append, List.length_cons, List.length_nil] <;> omega) rfl ?_
  refine Wk.astore (pc' := 13) (Ls' := #[.val (rf hB 0), .val (.int sr), .val (.int sk), .val (rf hB (10 + G.length + 0)), .val (rf hB (10 + G.length + (K.length + 3))), .unset, .unset, .unset, .unset, .unset, .unset, .unset, .unset]) d12_11 rfl rfl rfl ?_
  refine Wk.iconst (pc' := 14) (0 : Int32) d12_13 (by decide) rfl ?_
  refine Wk.istore (pc' := 16) (Ls' := #[.val (rf hB 0), .val (.int sr), .val (.int sk), .val (rf hB (10 + G.length + 0)), .val (rf hB (10 + G.length + (K.length + 3))), .val (.int (0 : Int32)), .unset, .unset, .unset, .unset, .unset, .unset, .unset]) d12_14 rfl rfl ?_
  refine Wk.aloadN (pc' := 17) d12_16 rfl rfl rfl ?_
  refine Wk.iloadN (pc' := 18) d12_17 rfl rfl ?_
  refine Wk.iconst (pc' := 19) (0 : Int32) d12_18 (by decide) rfl ?_
  obtain ⟨l2, el2, hM⟩ := Option.bind_eq_some_iff.mp hM
  refine Wk.iastoreG (pc' := 20) (i := (10 + G.length + 0)) (H' := ([obj "com/example/redoubt/redoubt/flow/FlowNetwork" ksFN [(.int (3 : Int32)), (rf hB 1), (rf hB 2), (rf hB 3), (rf hB 4), (.int ha), (rf hB 6)], ints hd, ints cap, ints fl, longs cs, ints ct, arr (.array .int) [(rf hB 7), (rf hB 8), (rf hB 9)], ints r0, ints r1, ints r2] ++ (G ++ ([ints l2, ints nx, ints pa] ++ (K ++ [ints [0, 0, 0]]))))) d12_19 (Wk.getT rfl) el2 Wk.setT rfl ?_
  refine Wk.aload (pc' := 22) d12_20 rfl rfl rfl ?_
  refine Wk.iload (pc' := 24) d12_22 rfl rfl ?_
  refine Wk.iinc (pc' := 27) (Ls' := #[.val (rf hB 0), .val (.int sr), .val (.int sk), .val (rf hB (10 + G.length + 0)), .val (rf hB (10 + G.length + (K.length + 3))), .val (.int (1 : Int32)), .unset, .unset, .unset, .unset, .unset, .unset, .unset]) (1 : Int32) d12_24 rfl (by decide) rfl rfl ?_
  refine Wk.iloadN (pc' := 28) d12_27 rfl rfl ?_
  obtain ⟨l3, el3, hM⟩ := Option.bind_eq_some_iff.mp hM
  refine Wk.iastoreG (pc' := 29) (i := (10 + G.length + (K.length + 3))) (H' := ([obj "com/example/redoubt/redoubt/flow/FlowNetwork" ksFN [(.int (3 : Int32)), (rf hB 1), (rf hB 2), (rf hB 3), (rf hB 4), (.int ha), (rf hB 6)], ints hd, ints cap, ints fl, longs cs, ints ct, arr (.array .int) [(rf hB 7), (rf hB 8), (rf hB 9)], ints r0, ints r1, ints r2] ++ (G ++ ([ints l2, ints nx, ints pa] ++ (K ++ [ints l3]))))) d12_28 (Wk.getT (Wk.getE rfl)) el3 (Wk.setTE rfl) rfl ?_
  refine Wk.iconst (pc' := 30) (0 : Int32) d12_29 (by decide) rfl ?_
  refine Wk.istore (pc' := 32) (Ls' := #[.val (rf hB 0), .val (.int sr), .val (.int sk), .val (rf hB (10 + G.length + 0)), .val (rf hB (10 + G.length + (K.length + 3))), .val (.int (1 : Int32)), .val (.int (0 : Int32)), .unset, .unset, .unset, .unset, .unset, .unset]) d12_30 rfl rfl ?_
  obtain ⟨q4, eq4, hM⟩ := Option.bind_eq_some_iff.mp hM
  refine m_lout l Z a0 hw hB hd cap fl cs ct r0 r1 r2 ha nx pa sr sk _ _ _ G K (Nat.le_of_ble_eq_true rfl) (by simp only [List.length_append, List.length_cons, List.length_nil] <;> omega) 10 (1 : Int32) (0 : Int32) (l2) (l3) (.unset) (Or.inl rfl) (.unset) (Or.inl rfl) (.unset) (Or.inl rfl) (.unset) (Or.inl rfl) (.unset) (Or.inl rfl) (.unset) (Or.inl rfl) q4 eq4 ?_
  intro s7 hs7 s8 hs8 s9 hs9 s10 hs10 s11 hs11 s12 hs12
  refine Wk.aloadN (pc' := 135) d12_134 rfl rfl rfl ?_
  refine Wk.iloadN (pc' := 136) d12_135 rfl rfl ?_
  obtain ⟨v5, ev5, hM⟩ := Option.bind_eq_some_iff.mp hM
  refine Wk.ialoadG (pc' := 137) (i := (10 + G.length + 0)) d12_136 (Wk.getT rfl) ev5 rfl ?_
  by_cases hc1 : v5 < (0 : Int32)
  ·
    rw [if_pos hc1] at hM
    refine Wk.ifY (pc' := 144) d12_137 (XT.i0_lt_t hc1) (by decide) (by decide) ?_
    refine Wk.iconst (pc' := 145) (0 : Int32) d12_144 (by decide) rfl ?_
    obtain rfl := Option.some.inj hM
    exact Wk.iret (t := .boolean) d12_145 rfl (by simp) rfl (by simp only [List.length_append, List.length_cons, List.length_nil] <;> omega) (Nat.le_of_ble_eq_true rfl) ⟨rfl, rfl⟩
  ·
    rw [if_neg hc1] at hM
    refine Wk.ifN (pc' := 140) d12_137 (XT.i0_lt_f hc1) rfl ?_
    refine Wk.iconst (pc' := 141) (1 : Int32) d12_140 (by decide) rfl ?_
    refine Wk.goTo (pc' := 145) d12_141 (by decide) (by decide) ?_
    obtain rfl := Option.some.inj hM
    exact Wk.iret (t := .boolean) d12_145 rfl (by simp) rfl (by simp only [List.length_append, List.length_cons, List.length_nil] <;> omega) (Nat.le_of_ble_eq_true rfl) ⟨rfl, rfl⟩
def Fm_bA (hd : List Int32) (cap : List Int32) (fl : List Int32) (cs : List Int64) (ct : List Int32) (r0 : List Int32) (r1 : List Int32) (r2 : List Int32) (ha : Int32) (lv : List Int32) (nx : List Int32) (pa : List Int32) (sr : Int32) (sk : Int32) (dp : Int32) (nd : Int32) : Nat → Int32 → Int32 → Option (Int32 × Int32)
  | 0, _, _ => none
  | n + 1, am, i =>
    if i < dp then ((Wk.gI pa i).bind fun v1 =>
    (Fm_res cap fl v1).bind fun q2 =>
    Fm_bA hd cap fl cs ct r0 r1 r2 ha lv nx pa sr sk dp nd n ((mnI am q2)) ((i + (1 : Int32)))) else (some (am, i))
set_option maxRecDepth 65536 in
set_option maxHeartbeats 40000000 in
theorem m_bA (l : Launch) (Z : State) (a0 : Array Value) (hw : ∀ d ∈ tables_1, d.before a0 Z = true) (hB : Heap) (hd : List Int32) (cap : List Int32) (fl : List Int32) (cs : List Int64) (ct : List Int32) (r0 : List Int32) (r1 : List Int32) (r2 : List Int32) (ha : Int32) (lv : List Int32) (nx : List Int32) (pa : List Int32) (sr : Int32) (sk : Int32) (dp : Int32) (nd : Int32) (n1 sl : Nat) (Q : Option Value → List Rec → Prop) (G K : List Rec) (hsl : sl ≤ 0) (hcl : 10 + G.length + (3 + K.length) ≤ n1 + 0) : ∀ (n : Nat) (am : Int32) (i : Int32)  (out : Int32 × Int32), Fm_bA hd cap fl cs ct r0 r1 r2 ha lv nx pa sr sk dp nd n am i = some out → (WP l Z hB ({ cls := "com/example/redoubt/redoubt/flow/FlowNetwork", name := "blockingFlow", desc := "(II[I[I[I)V" } : Jvm.MethodName) prog_4_method_11_code 10 none ({ frames := 2, cells := 0, slots := 0, locals := 30 } : Room) n1 Q sl ([obj "com/example/redoubt/redoubt/flow/FlowNetwork" ksFN [(.int (3 : Int32)), (rf hB 1), (rf hB 2), (rf hB 3), (rf hB 4), (.int ha), (rf hB 6)], ints hd, ints cap, ints fl, longs cs, ints ct, arr (.array .int) [(rf hB 7), (rf hB 8), (rf hB 9)], ints r0, ints r1, ints r2] ++ (G ++ ([ints lv, ints nx, ints pa] ++ K))) 67 #[.val (rf hB 0), .val (.int sr), .val (.int sk), .val (rf hB (10 + G.length + 0)), .val (rf hB (10 + G.length + 1)), .val (rf hB (10 + G.length + 2)), .val (.int dp), .val (.int nd), .val (.int out.1), .val (.int out.2)] []) → WP l Z hB ({ cls := "com/example/redoubt/redoubt/flow/FlowNetwork", name := "blockingFlow", desc := "(II[I[I[I)V" } : Jvm.MethodName) prog_4_method_11_code 10 none ({ frames := 2, cells := 0, slots := 0, locals := 30 } : Room) n1 Q sl ([obj "com/example/redoubt/redoubt/flow/FlowNetwork" ksFN [(.int (3 : Int32)), (rf hB 1), (rf hB 2), (rf hB 3), (rf hB 4), (.int ha), (rf hB 6)], ints hd, ints cap, ints fl, longs cs, ints ct, arr (.array .int) [(rf hB 7), (rf hB 8), (rf hB 9)], ints r0, ints r1, ints r2] ++ (G ++ ([ints lv, ints nx, ints pa] ++ K))) 38 #[.val (rf hB 0), .val (.int sr), .val (.int sk), .val (rf hB (10 + G.length + 0)), .val (rf hB (10 + G.length + 1)), .val (rf hB (10 + G.length + 2)), .val (.int dp), .val (.int nd), .val (.int am), .val (.int i)] [] := by
  intro n
  induction n with
  | zero => intro _ _ out hM; cases hM
  | succ n ih =>
    intro am i  out hM hk
    simp only [Fm_bA] at hM
    refine Wk.iload (pc' := 40) d15_38 rfl rfl ?_
    refine Wk.iload (pc' := 42) d15_40 rfl rfl ?_
    by_cases hc1 : i < dp
    ·
      rw [if_pos hc1] at hM
      refine Wk.icN (pc' := 45) d15_42 (XT.ii_ge_f hc1) rfl ?_
      refine Wk.iload (pc' := 47) d15_45 rfl rfl ?_
      refine Wk.aloadN (pc' := 48) d15_47 rfl rfl rfl ?_
      refine Wk.aload (pc' := 50) d15_48 rfl rfl rfl ?_
      refine Wk.iload (pc' := 52) d15_50 rfl rfl ?_
      obtain ⟨v1, ev1, hM⟩ := Option.bind_eq_some_iff.mp hM
      refine Wk.ialoadG (pc' := 53) (i := (10 + G.length + 2)) d15_52 (Wk.getT rfl) ev1 rfl ?_
      obtain ⟨q2, eq2, hM⟩ := Option.bind_eq_some_iff.mp hM
      refine Wk.callP (pc' := 56) (argsL := [(.int v1)]) (st := [(.int am)]) d15_53 (wd79 hw) (wd80 hw) (Jvm.Kit.selects_private (by decide) (wd2 hw) (wd81 hw) (wd80 hw)) (wd81 hw) (wd3 hw) (wd82 hw) (by decide) (lenOf pd_3 rfl) (fun _ P => P.exa rfl) (m_res l Z a0 hw hB ([obj "com/example/redoubt/redoubt/flow/FlowNetwork" ksFN [(.int (3 : Int32)), (rf hB 1), (rf hB 2), (rf hB 3), (rf hB 4), (.int ha), (rf hB 6)], ints hd, ints cap, ints fl, longs cs, ints ct, arr (.array .int) [(rf hB 7), (rf hB 8), (rf hB 9)], ints r0, ints r1, ints r2] ++ (G ++ ([ints lv, ints nx, ints pa] ++ K))) ha (rf hB 6) cap fl v1 q2 eq2 rfl rfl rfl) rfl (Nat.le_of_ble_eq_true rfl) (Nat.le_of_ble_eq_true rfl) (by simp only [List.length_append, List.length_cons, List.length_nil] <;> omega) (by first | exact hsl | omega) rfl rfl ?_
      rintro _ _ ⟨rfl, hH⟩; obtain rfl := hH.symm
      show WP l Z hB _ _ _ _ _ _ _ _ ([obj "com/example/redoubt/redoubt/flow/FlowNetwork" ksFN [(.int (3 : Int32)), (rf hB 1), (rf hB 2), (rf hB 3), (rf hB 4), (.int ha), (rf hB 6)], ints hd, ints cap, ints fl, longs cs, ints ct, arr (.array .int) [(rf hB 7), (rf hB 8), (rf hB 9)], ints r0, ints r1, ints r2] ++ (G ++ ([ints lv, ints nx, ints pa] ++ K))) _ _ [(.int q2), (.int am)]
      refine Wk.callS (pc' := 59) (argsL := [(.int am), (.int q2)]) (st := []) d15_56 (wd92 hw) (wd93 hw) (wd94 hw) (wd95 hw) (by decide) (lenOf pd_5 rfl) (m_min l Z a0 hw hB ([obj "com/example/redoubt/redoubt/flow/FlowNetwork" ksFN [(.int (3 : Int32)), (rf hB 1), (rf hB 2), (rf hB 3), (rf hB 4), (.int ha), (rf hB 6)], ints hd, ints cap, ints fl, longs cs, ints ct, arr (.array .int) [(rf hB 7), (rf hB 8), (rf hB 9)], ints r0, ints r1, ints r2] ++ (G ++ ([ints lv, ints nx, ints pa] ++ K))) am q2) rfl (Nat.le_of_ble_eq_true rfl) (Nat.le_of_ble_eq_true rfl) (by simp only [List.length_append, List.length_cons, List.length_nil] <;> omega) (by first | exact hsl | omega) rfl rfl ?_
      rintro _ _ ⟨rfl, hH⟩; obtain rfl := hH.symm
      show WP l Z hB _ _ _ _ _ _ _ _ ([obj "com/example/redoubt/redoubt/flow/FlowNetwork" ksFN [(.int (3 : Int32)), (rf hB 1), (rf hB 2), (rf hB 3), (rf hB 4), (.int ha), (rf hB 6)], ints hd, ints cap, ints fl, longs cs, ints ct, arr (.array .int) [(rf hB 7), (rf hB 8), (rf hB 9)], ints r0, ints r1, ints r2] ++ (G ++ ([ints lv, ints nx, ints pa] ++ K))) _ _ [(.int (mnI am q2))]
      refine Wk.istore (pc' := 61) (Ls' := #[.val (rf hB 0), .val (.int sr), .val (.int sk), .val (rf hB (10 + G.length + 0)), .val (rf hB (10 + G.length + 1)), .val (rf hB (10 + G.length + 2)), .val (.int dp), .val (.int nd), .val (.int (mnI am q2)), .val (.int i)]) d15_59 rfl rfl ?_
      refine Wk.iinc (pc' := 64) (Ls' := #[.val (rf hB 0), .val (.int sr), .val (.int sk), .val (rf hB (10 + G.length + 0)), .val (rf hB (10 + G.length + 1)), .val (rf hB (10 + G.length + 2)), .val (.int dp), .val (.int nd), .val (.int (mnI am q2)), .val (.int (i + (1 : Int32)))]) (i + (1 : Int32)) d15_61 rfl (by rfl) rfl rfl ?_
      refine Wk.goTo (pc' := 38) d15_64 (by decide) (by decide) ?_
      exact ih ((mnI am q2)) ((i + (1 : Int32)))  out hM hk
    ·
      rw [if_neg hc1] at hM
      refine Wk.icY (pc' := 67) d15_42 (XT.ii_ge_t hc1) (by decide) (by decide) ?_
      obtain rfl := Option.some.inj hM
      exact hk 
def Fm_bB (hd : List Int32) (cap : List Int32) (cs : List Int64) (ct : List Int32) (r0 : List Int32) (r1 : List Int32) (r2 : List Int32) (ha : Int32) (lv : List Int32) (nx : List Int32) (pa : List Int32) (sr : Int32) (sk : Int32) (dp : Int32) (nd : Int32) (am : Int32) : Nat → Int32 → List Int32 → Option (Int32 × List Int32)
  | 0, _, _ => none
  | n + 1, i, fl =>
    if i < dp then ((Wk.gI pa i).bind fun v1 =>
    (Wk.gI fl v1).bind fun v2 =>
    (Wk.sI fl v1 (v2 + am)).bind fun l3 =>
    (Wk.gI l3 (v1 ^^^ (1 : Int32))).bind fun v4 =>
    (Wk.sI l3 (v1 ^^^ (1 : Int32)) (v4 - am)).bind fun l5 =>
    Fm_bB hd cap cs ct r0 r1 r2 ha lv nx pa sr sk dp nd am n ((i + (1 : Int32))) (l5)) else (some (i, fl))
set_option maxRecDepth 65536 in
set_option maxHeartbeats 40000000 in
theorem m_bB (l : Launch) (Z : State) (a0 : Array Value) (hw : ∀ d ∈ tables_1, d.before a0 Z = true) (hB : Heap) (hd : List Int32) (cap : List Int32) (cs : List Int64) (ct : List Int32) (r0 : List Int32) (r1 : List Int32) (r2 : List Int32) (ha : Int32) (lv : List Int32) (nx : List Int32) (pa : List Int32) (sr : Int32) (sk : Int32) (dp : Int32) (nd : Int32) (am : Int32) (n1 sl : Nat) (Q : Option Value → List Rec → Prop) (G K : List Rec) (hsl : sl ≤ 0) (hcl : 10 + G.length + (3 + K.length) ≤ n1 + 0) : ∀ (n : Nat) (i : Int32) (fl : List Int32)  (out : Int32 × List Int32), Fm_bB hd cap cs ct r0 r1 r2 ha lv nx pa sr sk dp nd am n i fl = some out → (WP l Z hB ({ cls := "com/example/redoubt/redoubt/flow/FlowNetwork", name := "blockingFlow", desc := "(II[I[I[I)V" } : Jvm.MethodName) prog_4_method_11_code 10 none ({ frames := 2, cells := 0, slots := 0, locals := 30 } : Room) n1 Q sl ([obj "com/example/redoubt/redoubt/flow/FlowNetwork" ksFN [(.int (3 : Int32)), (rf hB 1), (rf hB 2), (rf hB 3), (rf hB 4), (.int ha), (rf hB 6)], ints hd, ints cap, ints out.2, longs cs, ints ct, arr (.array .int) [(rf hB 7), (rf hB 8), (rf hB 9)], ints r0, ints r1, ints r2] ++ (G ++ ([ints lv, ints nx, ints pa] ++ K))) 115 #[.val (rf hB 0), .val (.int sr), .val (.int sk), .val (rf hB (10 + G.length + 0)), .val (rf hB (10 + G.length + 1)), .val (rf hB (10 + G.length + 2)), .val (.int dp), .val (.int nd), .val (.int am), .val (.int out.1)] []) → WP l Z hB ({ cls := "com/example/redoubt/redoubt/flow/FlowNetwork", name := "blockingFlow", desc := "(II[I[I[I)V" } : Jvm.MethodName) prog_4_method_11_code 10 none ({ frames := 2, cells := 0, slots := 0, locals := 30 } : Room) n1 Q sl ([obj "com/example/redoubt/redoubt/flow/FlowNetwork" ksFN [(.int (3 : Int32)), (rf hB 1), (rf hB 2), (rf hB 3), (rf hB 4), (.int ha), (rf hB 6)], ints hd, ints cap, ints fl, longs cs, ints ct, arr (.array .int) [(rf hB 7), (rf hB 8), (rf hB 9)], ints r0, ints r1, ints r2] ++ (G ++ ([ints lv, ints nx, ints pa] ++ K))) 70 #[.val (rf hB 0), .val (.int sr), .val (.int sk), .val (rf hB (10 + G.length + 0)), .val (rf hB (10 + G.length + 1)), .val (rf hB (10 + G.length + 2)), .val (.int dp), .val (.int nd), .val (.int am), .val (.int i)] [] := by
  intro n
  induction n with
  | zero => intro _ _ out hM; cases hM
  | succ n ih =>
    intro i fl  out hM hk
    simp only [Fm_bB] at hM
    refine Wk.iload (pc' := 72) d15_70 rfl rfl ?_
    refine Wk.iload (pc' := 74) d15_72 rfl rfl ?_
    by_cases hc1 : i < dp
    ·
      rw [if_pos hc1] at hM
      refine Wk.icN (pc' := 77) d15_74 (XT.ii_ge_f hc1) rfl ?_
      refine Wk.aloadN (pc' := 78) d15_77 rfl rfl rfl ?_
      refine Wk.getF0 (pc' := 81) (i := 0) (j := 3) d15_78 (wd15 hw) rfl rfl rfl rfl ?_
      refine Wk.aload (pc' := 83) d15_81 rfl rfl rfl ?_
      refine Wk.iload (pc' := 85) d15_83 rfl rfl ?_
      obtain ⟨v1, ev1, hM⟩ := Option.bind_eq_some_iff.mp hM
      refine Wk.ialoadG (pc' := 86) (i := (10 + G.length + 2)) d15_85 (Wk.getT rfl) ev1 rfl ?_
      refine Wk.dup2 (pc' := 87) d15_86 rfl rfl rfl ?_
      obtain ⟨v2, ev2, hM⟩ := Option.bind_eq_some_iff.mp hM
      refine Wk.ialoadG (pc' := 88) (i := 3) d15_87 rfl ev2 rfl ?_
      refine Wk.iload (pc' := 90) d15_88 rfl rfl ?_
      refine Wk.iadd (pc' := 91) d15_90 rfl ?_
      obtain ⟨l3, el3, hM⟩ := Option.bind_eq_some_iff.mp hM
      refine Wk.iastoreG (pc' := 92) (i := 3) (H' := ([obj "com/example/redoubt/redoubt/flow/FlowNetwork" ksFN [(.int (3 : Int32)), (rf hB 1), (rf hB 2), (rf hB 3), (rf hB 4), (.int ha), (rf hB 6)], ints hd, ints cap, ints l3, longs cs, ints ct, arr (.array .int) [(rf hB 7), (rf hB 8), (rf hB 9)], ints r0, ints r1, ints r2] ++ (G ++ ([ints lv, ints nx, ints pa] ++ K)))) d15_91 rfl el3 rfl rfl ?_
      refine Wk.aloadN (pc' := 93) d15_92 rfl rfl rfl ?_
      refine Wk.getF0 (pc' := 96) (i := 0) (j := 3) d15_93 (wd15 hw) rfl rfl rfl rfl ?_
      refine Wk.aload (pc' := 98) d15_96 rfl rfl rfl ?_
      refine Wk.iload (pc' := 100) d15_98 rfl rfl ?_
      refine Wk.ialoadG (pc' := 101) (i := (10 + G.length + 2)) d15_100 (Wk.getT rfl) ev1 rfl ?_
      refine Wk.iconst (pc' := 102) (1 : Int32) d15_101 (by decide) rfl ?_
      refine Wk.ixor (pc' := 103) d15_102 rfl ?_
      refine Wk.dup2 (pc' := 104) d15_103 rfl rfl rfl ?_
      obtain ⟨v4, ev4, hM⟩ := Option.bind_eq_some_iff.mp hM
      refine Wk.ialoadG (pc' := 105) (i := 3) d15_104 rfl ev4 rfl ?_
      refine Wk.iload (pc' := 107) d15_105 rfl rfl ?_
      refine Wk.isub (pc' := 108) d15_107 rfl ?_
      obtain ⟨l5, el5, hM⟩ := Option.bind_eq_some_iff.mp hM
      refine Wk.iastoreG (pc' := 109) (i := 3) (H' := ([obj "com/example/redoubt/redoubt/flow/FlowNetwork" ksFN [(.int (3 : Int32)), (rf hB 1), (rf hB 2), (rf hB 3), (rf hB 4), (.int ha), (rf hB 6)], ints hd, ints cap, ints l5, longs cs, ints ct, arr (.array .int) [(rf hB 7), (rf hB 8), (rf hB 9)], ints r0, ints r1, ints r2] ++ (G ++ ([ints lv, ints nx, ints pa] ++ K)))) d15_108 rfl el5 rfl rfl ?_
      refine Wk.iinc (pc' := 112) (Ls' := #[.val (rf hB 0), .val (.int sr), .val (.int sk), .val (rf hB (10 + G.length + 0)), .val (rf hB (10 + G.length + 1)), .val (rf hB (10 + G.length + 2)), .val (.int dp), .val (.int nd), .val (.int am), .val (.int (i + (1 : Int32)))]) (i + (1 : Int32)) d15_109 rfl (by rfl) rfl rfl ?_
      refine Wk.goTo (pc' := 70) d15_112 (by decide) (by decide) ?_
      exact ih ((i + (1 : Int32))) (l5)  out hM hk
    ·
      rw [if_neg hc1] at hM
      refine Wk.icY (pc' := 115) d15_74 (XT.ii_ge_t hc1) (by decide) (by decide) ?_
      obtain rfl := Option.some.inj hM
      exact hk 
def Fm_bC (hd : List Int32) (cap : List Int32) (fl : List Int32) (cs : List Int64) (ct : List Int32) (r0 : List Int32) (r1 : List Int32) (r2 : List Int32) (ha : Int32) (lv : List Int32) (pa : List Int32) (sr : Int32) (sk : Int32) (dp : Int32) (nd : Int32) (row : List Int32) : Nat → List Int32 → Option (List Int32)
  | 0, _ => none
  | n + 1, nx =>
    (Wk.gI nx nd).bind fun v1 =>
    if v1 < (row.length.toInt32) then ((Wk.gI row v1).bind fun v2 =>
    (Fm_climb hd cap fl lv v2).bind fun q3 =>
    if q3 = (0 : Int32) then ((Wk.sI nx nd (v1 + (1 : Int32))).bind fun l4 =>
    Fm_bC hd cap fl cs ct r0 r1 r2 ha lv pa sr sk dp nd row n (l4)) else (some nx)) else (some nx)
set_option maxRecDepth 65536 in
set_option maxHeartbeats 40000000 in
theorem m_bC (l : Launch) (Z : State) (a0 : Array Value) (hw : ∀ d ∈ tables_1, d.before a0 Z = true) (hB : Heap) (hd : List Int32) (cap : List Int32) (fl : List Int32) (cs : List Int64) (ct : List Int32) (r0 : List Int32) (r1 : List Int32) (r2 : List Int32) (ha : Int32) (lv : List Int32) (pa : List Int32) (sr : Int32) (sk : Int32) (dp : Int32) (nd : Int32) (row : List Int32) (n1 sl : Nat) (Q : Option Value → List Rec → Prop) (G K : List Rec) (hsl : sl ≤ 0) (hcl : 10 + G.length + (3 + K.length) ≤ n1 + 0) (en0 : Wk.gR [r0, r1, r2] nd = some row) : ∀ (n : Nat) (nx : List Int32) (s9 : Slot) (hs9 : s9 = .unset ∨ ∃ w, s9 = .val w ∧ w.category = 1) (out : List Int32), Fm_bC hd cap fl cs ct r0 r1 r2 ha lv pa sr sk dp nd row n nx = some out → (∀ (s9 : Slot) (hs9 : s9 = .unset ∨ ∃ w, s9 = .val w ∧ w.category = 1), WP l Z hB ({ cls := "com/example/redoubt/redoubt/flow/FlowNetwork", name := "blockingFlow", desc := "(II[I[I[I)V" } : Jvm.MethodName) prog_4_method_11_code 10 none ({ frames := 2, cells := 0, slots := 0, locals := 30 } : Room) n1 Q sl ([obj "com/example/redoubt/redoubt/flow/FlowNetwork" ksFN [(.int (3 : Int32)), (rf hB 1), (rf hB 2), (rf hB 3), (rf hB 4), (.int ha), (rf hB 6)], ints hd, ints cap, ints fl, longs cs, ints ct, arr (.array .int) [(rf hB 7), (rf hB 8), (rf hB 9)], ints r0, ints r1, ints r2] ++ (G ++ ([ints lv, ints out, ints pa] ++ K))) 172 #[.val (rf hB 0), .val (.int sr), .val (.int sk), .val (rf hB (10 + G.length + 0)), .val (rf hB (10 + G.length + 1)), .val (rf hB (10 + G.length + 2)), .val (.int dp), .val (.int nd), .val (rf hB (7 + (nd).toNatClampNeg)), s9] []) → WP l Z hB ({ cls := "com/example/redoubt/redoubt/flow/FlowNetwork", name := "blockingFlow", desc := "(II[I[I[I)V" } : Jvm.MethodName) prog_4_method_11_code 10 none ({ frames := 2, cells := 0, slots := 0, locals := 30 } : Room) n1 Q sl ([obj "com/example/redoubt/redoubt/flow/FlowNetwork" ksFN [(.int (3 : Int32)), (rf hB 1), (rf hB 2), (rf hB 3), (rf hB 4), (.int ha), (rf hB 6)], ints hd, ints cap, ints fl, longs cs, ints ct, arr (.array .int) [(rf hB 7), (rf hB 8), (rf hB 9)], ints r0, ints r1, ints r2] ++ (G ++ ([ints lv, ints nx, ints pa] ++ K))) 133 #[.val (rf hB 0), .val (.int sr), .val (.int sk), .val (rf hB (10 + G.length + 0)), .val (rf hB (10 + G.length + 1)), .val (rf hB (10 + G.length + 2)), .val (.int dp), .val (.int nd), .val (rf hB (7 + (nd).toNatClampNeg)), s9] [] := by
  intro n
  induction n with
  | zero => intro _ _ _ out hM; cases hM
  | succ n ih =>
    intro nx s9 hs9 out hM hk
    simp only [Fm_bC] at hM
    refine Wk.aload (pc' := 135) d15_133 rfl rfl rfl ?_
    refine Wk.iload (pc' := 137) d15_135 rfl rfl ?_
    obtain ⟨v1, ev1, hM⟩ := Option.bind_eq_some_iff.mp hM
    refine Wk.ialoadG (pc' := 138) (i := (10 + G.length + 1)) d15_137 (Wk.getT rfl) ev1 rfl ?_
    refine Wk.aload (pc' := 140) d15_138 rfl rfl rfl ?_
    refine Wk.arrLen (pc' := 141) (i := (7 + (nd).toNatClampNeg)) (z := (row.length.toInt32)) d15_140 (rowAt en0) (by rw [List.length_map]) rfl ?_
    by_cases hc1 : v1 < (row.length.toInt32)
    ·
      rw [if_pos hc1] at hM
      refine Wk.icN (pc' := 144) d15_141 (XT.ii_ge_f hc1) rfl ?_
      refine Wk.aloadN (pc' := 145) d15_144 rfl rfl rfl ?_
      refine Wk.aload (pc' := 147) d15_145 rfl rfl rfl ?_
      refine Wk.aload (pc' := 149) d15_147 rfl rfl rfl ?_
      refine Wk.iload (pc' := 151) d15_149 rfl rfl ?_
      refine Wk.ialoadG (pc' := 152) (i := (10 + G.length + 1)) d15_151 (Wk.getT rfl) ev1 rfl ?_
      obtain ⟨v2, ev2, hM⟩ := Option.bind_eq_some_iff.mp hM
      refine Wk.ialoadG (pc' := 153) (i := (7 + (nd).toNatClampNeg)) d15_152 (rowAt en0) ev2 rfl ?_
      refine Wk.aloadN (pc' := 154) d15_153 rfl rfl rfl ?_
      obtain ⟨q3, eq3, hM⟩ := Option.bind_eq_some_iff.mp hM
      refine Wk.callP (pc' := 157) (argsL := [(.int v2), (rf hB (10 + G.length + 0))]) (st := []) d15_154 (wd87 hw) (wd88 hw) (Jvm.Kit.selects_private (by decide) (wd2 hw) (wd89 hw) (wd88 hw)) (wd89 hw) (wd3 hw) (wd90 hw) (by decide) (lenOf pd_6 rfl) (fun _ P => P.exa rfl) (m_climb l Z a0 hw hB ([obj "com/example/redoubt/redoubt/flow/FlowNetwork" ksFN [(.int (3 : Int32)), (rf hB 1), (rf hB 2), (rf hB 3), (rf hB 4), (.int ha), (rf hB 6)], ints hd, ints cap, ints fl, longs cs, ints ct, arr (.array .int) [(rf hB 7), (rf hB 8), (rf hB 9)], ints r0, ints r1, ints r2] ++ (G ++ ([ints lv, ints nx, ints pa] ++ K))) ha (rf hB 6) (10 + G.length + 0) hd cap fl lv v2 q3 eq3 rfl rfl rfl rfl (Wk.getT rfl)) rfl (Nat.le_of_ble_eq_true rfl) (Nat.le_of_ble_eq_true rfl) (by simp only [List.length_append, List.length_cons, List.length_nil] <;> omega) (by first | exact hsl | omega) rfl rfl ?_
      rintro _ _ ⟨rfl, hH⟩; obtain rfl := hH.symm
      show WP l Z hB _ _ _ _ _ _ _ _ ([obj "com/example/redoubt/redoubt/flow/FlowNetwork" ksFN [(.int (3 : Int32)), (rf hB 1), (rf hB 2), (rf hB 3), (rf hB 4), (.int ha), (rf hB 6)], ints hd, ints cap, ints fl, longs cs, ints ct, arr (.array .int) [(rf hB 7), (rf hB 8), (rf hB 9)], ints r0, ints r1, ints r2] ++ (G ++ ([ints lv, ints nx, ints pa] ++ K))) _ _ [(.int q3)]
      by_cases hc2 : q3 = (0 : Int32)
      ·
        rw [if_pos hc2] at hM
        refine Wk.ifN (pc' := 160) d15_157 (XT.i0_ne_f hc2) rfl ?_
        refine Wk.aload (pc' := 162) d15_160 rfl rfl rfl ?_
        refine Wk.iload (pc' := 164) d15_162 rfl rfl ?_
        refine Wk.dup2 (pc' := 165) d15_164 rfl rfl rfl ?_
        refine Wk.ialoadG (pc' := 166) (i := (10 + G.length + 1)) d15_165 (Wk.getT rfl) ev1 rfl ?_
        refine Wk.iconst (pc' := 167) (1 : Int32) d15_166 (by decide) rfl ?_
        refine Wk.iadd (pc' := 168) d15_167 rfl ?_
        obtain ⟨l4, el4, hM⟩ := Option.bind_eq_some_iff.mp hM
        refine Wk.iastoreG (pc' := 169) (i := (10 + G.length + 1)) (H' := ([obj "com/example/redoubt/redoubt/flow/FlowNetwork" ksFN [(.int (3 : Int32)), (rf hB 1), (rf hB 2), (rf hB 3), (rf hB 4), (.int ha), (rf hB 6)], ints hd, ints cap, ints fl, longs cs, ints ct, arr (.array .int) [(rf hB 7), (rf hB 8), (rf hB 9)], ints r0, ints r1, ints r2] ++ (G ++ ([ints lv, ints l4, ints pa] ++ K)))) d15_168 (Wk.getT rfl) el4 Wk.setT rfl ?_
        refine Wk.goTo (pc' := 133) d15_169 (by decide) (by decide) ?_
        exact ih (l4) (s9) hs9 out hM hk
      ·
        rw [if_neg hc2] at hM
        refine Wk.ifY (pc' := 172) d15_157 (XT.i0_ne_t hc2) (by decide) (by decide) ?_
        obtain rfl := Option.some.inj hM
        exact hk (s9) hs9
    ·
      rw [if_neg hc1] at hM
      refine Wk.icY (pc' := 172) d15_141 (XT.ii_ge_t hc1) (by decide) (by decide) ?_
      obtain rfl := Option.some.inj hM
      exact hk (s9) hs9
def Fm_bO (hd : List Int32) (cap : List Int32) (cs : List Int64) (ct : List Int32) (r0 : List Int32) (r1 : List Int32) (r2 : List Int32) (ha : Int32) (lv : List Int32) (sr : Int32) (sk : Int32) : Nat → Int32 → Int32 → List Int32 → List Int32 → List Int32 → Option (Int32 × Int32 × List Int32 × List Int32 × List Int32)
  | 0, _, _, _, _, _ => none
  | n + 1, dp, nd, fl, nx, pa =>
    if (0 : Int32) < dp then (if nd = sk then ((Fm_bA (hd) (cap) (fl) (cs) (ct) (r0) (r1) (r2) (ha) (lv) (nx) (pa) (sr) (sk) (dp) (nd) 8 (2147483647 : Int32) (0 : Int32)).bind fun q1 =>
    (Fm_bB (hd) (cap) (cs) (ct) (r0) (r1) (r2) (ha) (lv) (nx) (pa) (sr) (sk) (dp) (nd) (q1.1) 8 (0 : Int32) (fl)).bind fun q2 =>
    Fm_bO hd cap cs ct r0 r1 r2 ha lv sr sk n ((0 : Int32)) (sr) (q2.2) (nx) (pa)) else ((Wk.gR [r0, r1, r2] nd).bind fun row3 =>
    (Fm_bC (hd) (cap) (fl) (cs) (ct) (r0) (r1) (r2) (ha) (lv) (pa) (sr) (sk) (dp) (nd) (row3) 8 (nx)).bind fun q4 =>
    (Wk.gI q4 nd).bind fun v5 =>
    if v5 < (row3.length.toInt32) then ((Wk.gI row3 v5).bind fun v6 =>
    (Wk.sI pa dp v6).bind fun l7 =>
    (Wk.gI hd v6).bind fun v8 =>
    Fm_bO hd cap cs ct r0 r1 r2 ha lv sr sk n ((dp + (1 : Int32))) (v8) (fl) (q4) (l7)) else ((Wk.gI pa (dp + (-1 : Int32))).bind fun v9 =>
    (Wk.gI hd (v9 ^^^ (1 : Int32))).bind fun v10 =>
    (Wk.gI q4 v10).bind fun v11 =>
    (Wk.sI q4 v10 (v11 + (1 : Int32))).bind fun l12 =>
    Fm_bO hd cap cs ct r0 r1 r2 ha lv sr sk n ((dp + (-1 : Int32))) (v10) (fl) (l12) (pa)))) else ((Wk.gI nx sr).bind fun v13 =>
    (Wk.gR [r0, r1, r2] sr).bind fun row14 =>
    if v13 < (row14.length.toInt32) then (if nd = sk then ((Fm_bA (hd) (cap) (fl) (cs) (ct) (r0) (r1) (r2) (ha) (lv) (nx) (pa) (sr) (sk) (dp) (nd) 8 (2147483647 : Int32) (0 : Int32)).bind fun q15 =>
    (Fm_bB (hd) (cap) (cs) (ct) (r0) (r1) (r2) (ha) (lv) (nx) (pa) (sr) (sk) (dp) (nd) (q15.1) 8 (0 : Int32) (fl)).bind fun q16 =>
    Fm_bO hd cap cs ct r0 r1 r2 ha lv sr sk n ((0 : Int32)) (sr) (q16.2) (nx) (pa)) else ((Wk.gR [r0, r1, r2] nd).bind fun row17 =>
    (Fm_bC (hd) (cap) (fl) (cs) (ct) (r0) (r1) (r2) (ha) (lv) (pa) (sr) (sk) (dp) (nd) (row17) 8 (nx)).bind fun q18 =>
    (Wk.gI q18 nd).bind fun v19 =>
    if v19 < (row17.length.toInt32) then ((Wk.gI row17 v19).bind fun v20 =>
    (Wk.sI pa dp v20).bind fun l21 =>
    (Wk.gI hd v20).bind fun v22 =>
    Fm_bO hd cap cs ct r0 r1 r2 ha lv sr sk n ((dp + (1 : Int32))) (v22) (fl) (q18) (l21)) else (Fm_bO hd cap cs ct r0 r1 r2 ha lv sr sk n (dp) (nd) (fl) (q18) (pa)))) else (some (dp, nd, fl, nx, pa)))
set_option maxRecDepth 65536 in
set_option maxHeartbeats 40000000 in
theorem m_bO (l : Launch) (Z : State) (a0 : Array Value) (hw : ∀ d ∈ tables_1, d.before a0 Z = true) (hB : Heap) (hd : List Int32) (cap : List Int32) (cs : List Int64) (ct : List Int32) (r0 : List Int32) (r1 : List Int32) (r2 : List Int32) (ha : Int32) (lv : List Int32) (sr : Int32) (sk : Int32) (n1 sl : Nat) (Q : Option Value → List Rec → Prop) (G K : List Rec) (hsl : sl ≤ 0) (hcl : 10 + G.length + (3 + K.length) ≤ n1 + 0) : ∀ (n : Nat) (dp : Int32) (nd : Int32) (fl : List Int32) (nx : List Int32) (pa : List Int32) (s8 : Slot) (hs8 : s8 = .unset ∨ ∃ w, s8 = .val w ∧ w.category = 1) (s9 : Slot) (hs9 : s9 = .unset ∨ ∃ w, s9 = .val w ∧ w.category = 1) (out : Int32 × Int32 × List Int32 × List Int32 × List Int32), Fm_bO hd cap cs ct r0 r1 r2 ha lv sr sk n dp nd fl nx pa = some out → (∀ (s8 : Slot) (hs8 : s8 = .unset ∨ ∃ w, s8 = .val w ∧ w.category = 1) (s9 : Slot) (hs9 : s9 = .unset ∨ ∃ w, s9 = .val w ∧ w.category = 1), WP l Z hB ({ cls := "com/example/redoubt/redoubt/flow/FlowNetwork", name := "blockingFlow", desc := "(II[I[I[I)V" } : Jvm.MethodName) prog_4_method_11_code 10 none ({ frames := 2, cells := 0, slots := 0, locals := 30 } : Room) n1 Q sl ([obj "com/example/redoubt/redoubt/flow/FlowNetwork" ksFN [(.int (3 : Int32)), (rf hB 1), (rf hB 2), (rf hB 3), (rf hB 4), (.int ha), (rf hB 6)], ints hd, ints cap, ints out.2.2.1, longs cs, ints ct, arr (.array .int) [(rf hB 7), (rf hB 8), (rf hB 9)], ints r0, ints r1, ints r2] ++ (G ++ ([ints lv, ints out.2.2.2.1, ints out.2.2.2.2] ++ K))) 251 #[.val (rf hB 0), .val (.int sr), .val (.int sk), .val (rf hB (10 + G.length + 0)), .val (rf hB (10 + G.length + 1)), .val (rf hB (10 + G.length + 2)), .val (.int out.1), .val (.int out.2.1), s8, s9] []) → WP l Z hB ({ cls := "com/example/redoubt/redoubt/flow/FlowNetwork", name := "blockingFlow", desc := "(II[I[I[I)V" } : Jvm.MethodName) prog_4_method_11_code 10 none ({ frames := 2, cells := 0, slots := 0, locals := 30 } : Room) n1 Q sl ([obj "com/example/redoubt/redoubt/flow/FlowNetwork" ksFN [(.int (3 : Int32)), (rf hB 1), (rf hB 2), (rf hB 3), (rf hB 4), (.int ha), (rf hB 6)], ints hd, ints cap, ints fl, longs cs, ints ct, arr (.array .int) [(rf hB 7), (rf hB 8), (rf hB 9)], ints r0, ints r1, ints r2] ++ (G ++ ([ints lv, ints nx, ints pa] ++ K))) 6 #[.val (rf hB 0), .val (.int sr), .val (.int sk), .val (rf hB (10 + G.length + 0)), .val (rf hB (10 + G.length + 1)), .val (rf hB (10 + G.length + 2)), .val (.int dp), .val (.int nd), s8, s9] [] := by
  intro n
  induction n with
  | zero => intro _ _ _ _ _ _ _ _ _ out hM; cases hM
  | succ n ih =>
    intro dp nd fl nx pa s8 hs8 s9 hs9 out hM hk
    simp only [Fm_bO] at hM
    refine Wk.iload (pc' := 8) d15_6 rfl rfl ?_
    by_cases hc1 : (0 : Int32) < dp
    ·
      rw [if_pos hc1] at hM
      refine Wk.ifY (pc' := 25) d15_8 (XT.i0_gt_t hc1) (by decide) (by decide) ?_
      refine Wk.iload (pc' := 27) d15_25 rfl rfl ?_
      refine Wk.iloadN (pc' := 28) d15_27 rfl rfl ?_
      by_cases hc2 : nd = sk
      ·
        rw [if_pos hc2] at hM
        refine Wk.icN (pc' := 31) d15_28 (XT.ii_ne_f hc2) rfl ?_
        refine Wk.ldcInt (pc' := 33) d15_31 (wd91 hw) rfl ?_
        refine Wk.istore (pc' := 35) (Ls' := #[.val (rf hB 0), .val (.int sr), .val (.int sk), .val (rf hB (10 + G.length + 0)), .val (rf hB (10 + G.length + 1)), .val (rf hB (10 + G.length + 2)), .val (.int dp), .val (.int nd), .val (.int (2147483647 : Int32)), s9]) d15_33 (XS.store1 rfl hs8 rfl) rfl ?_
        refine Wk.iconst (pc' := 36) (0 : Int32) d15_35 (by decide) rfl ?_
        refine Wk.istore (pc' := 38) (Ls' := #[.val (rf hB 0), .val (.int sr), .val (.int sk), .val (rf hB (10 + G.length + 0)), .val (rf hB (10 + G.length + 1)), .val (rf hB (10 + G.length + 2)), .val (.int dp), .val (.int nd), .val (.int (2147483647 : Int32)), .val (.int (0 : Int32))]) d15_36 (XS.store1 rfl hs9 rfl) rfl ?_
        obtain ⟨q1, eq1, hM⟩ := Option.bind_eq_some_iff.mp hM
        refine m_bA l Z a0 hw hB (hd) (cap) (fl) (cs) (ct) (r0) (r1) (r2) (ha) (lv) (nx) (pa) (sr) (sk) (dp) (nd) n1 sl Q G K hsl hcl 8 (2147483647 : Int32) (0 : Int32) q1 eq1 ?_
        refine Wk.iconst (pc' := 68) (0 : Int32) d15_67 (by decide) rfl ?_
        refine Wk.istore (pc' := 70) (Ls' := #[.val (rf hB 0), .val (.int sr), .val (.int sk), .val (rf hB (10 + G.length + 0)), .val (rf hB (10 + G.length + 1)), .val (rf hB (10 + G.length + 2)), .val (.int dp), .val (.int nd), .val (.int q1.1), .val (.int (0 : Int32))]) d15_68 rfl rfl ?_
        obtain ⟨q2, eq2, hM⟩ := Option.bind_eq_some_iff.mp hM
        refine m_bB l Z a0 hw hB (hd) (cap) (cs) (ct) (r0) (r1) (r2) (ha) (lv) (nx) (pa) (sr) (sk) (dp) (nd) (q1.1) n1 sl Q G K hsl hcl 8 (0 : Int32) (fl) q2 eq2 ?_
        refine Wk.iconst (pc' := 116) (0 : Int32) d15_115 (by decide) rfl ?_
        refine Wk.istore (pc' := 118) (Ls' := #[.val (rf hB 0), .val (.int sr), .val (.int sk), .val (rf hB (10 + G.length + 0)), .val (rf hB (10 + G.length + 1)), .val (rf hB (10 + G.length + 2)), .val (.int (0 : Int32)), .val (.int nd), .val (.int q1.1), .val (.int q2.1)]) d15_116 rfl rfl ?_
        refine Wk.iloadN (pc' := 119) d15_118 rfl rfl ?_
        refine Wk.istore (pc' := 121) (Ls' := #[.val (rf hB 0), .val (.int sr), .val (.int sk), .val (rf hB (10 + G.length + 0)), .val (rf hB (10 + G.length + 1)), .val (rf hB (10 + G.length + 2)), .val (.int (0 : Int32)), .val (.int sr), .val (.int q1.1), .val (.int q2.1)]) d15_119 rfl rfl ?_
        refine Wk.goTo (pc' := 6) d15_121 (by decide) (by decide) ?_
        exact ih ((0 : Int32)) (sr) (q2.2) (nx) (pa) (.val (.int q1.1)) (Or.inr ⟨_, rfl, rfl⟩) (.val (.int q2.1)) (Or.inr ⟨_, rfl, rfl⟩) out hM hk
      ·
        rw [if_neg hc2] at hM
        refine Wk.icY (pc' := 124) d15_28 (XT.ii_ne_t hc2) (by decide) (by decide) ?_
        refine Wk.aloadN (pc' := 125) d15_124 rfl rfl rfl ?_
        refine Wk.getF0 (pc' := 128) (i := 0) (j := 6) d15_125 (wd44 hw) rfl rfl rfl rfl ?_
        refine Wk.iload (pc' := 130) d15_128 rfl rfl ?_
        obtain ⟨row3, erow3, hM⟩ := Option.bind_eq_some_iff.mp hM
        refine Wk.aaload (pc' := 131) (i := 6) (jn := (nd).toNatClampNeg) (v := rf hB (7 + (nd).toNatClampNeg)) d15_130 rfl rfl (Wk.gR_at erow3).1 rfl (rowRef erow3) rfl ?_
        refine Wk.astore (pc' := 133) (Ls' := #[.val (rf hB 0), .val (.int sr), .val (.int sk), .val (rf hB (10 + G.length + 0)), .val (rf hB (10 + G.length + 1)), .val (rf hB (10 + G.length + 2)), .val (.int dp), .val (.int nd), .val (rf hB (7 + (nd).toNatClampNeg)), s9]) d15_131 rfl (XS.store1 rfl hs8 rfl) rfl ?_
        obtain ⟨q4, eq4, hM⟩ := Option.bind_eq_some_iff.mp hM
        refine m_bC l Z a0 hw hB (hd) (cap) (fl) (cs) (ct) (r0) (r1) (r2) (ha) (lv) (pa) (sr) (sk) (dp) (nd) (row3) n1 sl Q G K hsl hcl erow3 8 (nx) (s9) hs9 q4 eq4 ?_
        intro s9 hs9
        refine Wk.aload (pc' := 174) d15_172 rfl rfl rfl ?_
        refine Wk.iload (pc' := 176) d15_174 rfl rfl ?_
        obtain ⟨v5, ev5, hM⟩ := Option.bind_eq_some_iff.mp hM
        refine Wk.ialoadG (pc' := 177) (i := (10 + G.length + 1)) d15_176 (Wk.getT rfl) ev5 rfl ?_
        refine Wk.aload (pc' := 179) d15_177 rfl rfl rfl ?_
        refine Wk.arrLen (pc' := 180) (i := (7 + (nd).toNatClampNeg)) (z := (row3.length.toInt32)) d15_179 (rowAt erow3) (by rw [List.length_map]) rfl ?_
        by_cases hc3 : v5 < (row3.length.toInt32)
        ·
          rw [if_pos hc3] at hM
          refine Wk.icN (pc' := 183) d15_180 (XT.ii_ge_f hc3) rfl ?_
          refine Wk.aload (pc' := 185) d15_183 rfl rfl rfl ?_
          refine Wk.iload (pc' := 187) d15_185 rfl rfl ?_
          refine Wk.iinc (pc' := 190) (Ls' := #[.val (rf hB 0), .val (.int sr), .val (.int sk), .val (rf hB (10 + G.length + 0)), .val (rf hB (10 + G.length + 1)), .val (rf hB (10 + G.length + 2)), .val (.int (dp + (1 : Int32))), .val (.int nd), .val (rf hB (7 + (nd).toNatClampNeg)), s9]) (dp + (1 : Int32)) d15_187 rfl (by rfl) rfl rfl ?_
          refine Wk.aload (pc' := 192) d15_190 rfl rfl rfl ?_
          refine Wk.aload (pc' := 194) d15_192 rfl rfl rfl ?_
          refine Wk.iload (pc' := 196) d15_194 rfl rfl ?_
          refine Wk.ialoadG (pc' := 197) (i := (10 + G.length + 1)) d15_196 (Wk.getT rfl) ev5 rfl ?_
          obtain ⟨v6, ev6, hM⟩ := Option.bind_eq_some_iff.mp hM
          refine Wk.ialoadG (pc' := 198) (i := (7 + (nd).toNatClampNeg)) d15_197 (rowAt erow3) ev6 rfl ?_
          obtain ⟨l7, el7, hM⟩ := Option.bind_eq_some_iff.mp hM
          refine Wk.iastoreG (pc' := 199) (i := (10 + G.length + 2)) (H' := ([obj "com/example/redoubt/redoubt/flow/FlowNetwork" ksFN [(.int (3 : Int32)), (rf hB 1), (rf hB 2), (rf hB 3), (rf hB 4), (.int ha), (rf hB 6)], ints hd, ints cap, ints fl, longs cs, ints ct, arr (.array .int) [(rf hB 7), (rf hB 8), (rf hB 9)], ints r0, ints r1, ints r2] ++ (G ++ ([ints lv, ints q4, ints l7] ++ K)))) d15_198 (Wk.getT rfl) el7 Wk.setT rfl ?_
          refine Wk.aloadN (pc' := 200) d15_199 rfl rfl rfl ?_
          refine Wk.getF0 (pc' := 203) (i := 0) (j := 1) d15_200 (wd11 hw) rfl rfl rfl rfl ?_
          refine Wk.aload (pc' := 205) d15_203 rfl rfl rfl ?_
          refine Wk.aload (pc' := 207) d15_205 rfl rfl rfl ?_
          refine Wk.iload (pc' := 209) d15_207 rfl rfl ?_
          refine Wk.ialoadG (pc' := 210) (i := (10 + G.length + 1)) d15_209 (Wk.getT rfl) ev5 rfl ?_
          refine Wk.ialoadG (pc' := 211) (i := (7 + (nd).toNatClampNeg)) d15_210 (rowAt erow3) ev6 rfl ?_
          obtain ⟨v8, ev8, hM⟩ := Option.bind_eq_some_iff.mp hM
          refine Wk.ialoadG (pc' := 212) (i := 1) d15_211 rfl ev8 rfl ?_
          refine Wk.istore (pc' := 214) (Ls' := #[.val (rf hB 0), .val (.int sr), .val (.int sk), .val (rf hB (10 + G.length + 0)), .val (rf hB (10 + G.length + 1)), .val (rf hB (10 + G.length + 2)), .val (.int (dp + (1 : Int32))), .val (.int v8), .val (rf hB (7 + (nd).toNatClampNeg)), s9]) d15_212 rfl rfl ?_
          refine Wk.goTo (pc' := 248) d15_214 (by decide) (by decide) ?_
          refine Wk.goTo (pc' := 6) d15_248 (by decide) (by decide) ?_
          exact ih ((dp + (1 : Int32))) (v8) (fl) (q4) (l7) (.val (rf hB (7 + (nd).toNatClampNeg))) (Or.inr ⟨_, rfl, rfl⟩) (s9) hs9 out hM hk
        ·
          rw [if_neg hc3] at hM
          refine Wk.icY (pc' := 217) d15_180 (XT.ii_ge_t hc3) (by decide) (by decide) ?_
          refine Wk.iload (pc' := 219) d15_217 rfl rfl ?_
          refine Wk.ifN (pc' := 222) d15_219 (XT.i0_le_f hc1) rfl ?_
          refine Wk.aloadN (pc' := 223) d15_222 rfl rfl rfl ?_
          refine Wk.getF0 (pc' := 226) (i := 0) (j := 1) d15_223 (wd11 hw) rfl rfl rfl rfl ?_
          refine Wk.aload (pc' := 228) d15_226 rfl rfl rfl ?_
          refine Wk.iinc (pc' := 231) (Ls' := #[.val (rf hB 0), .val (.int sr), .val (.int sk), .val (rf hB (10 + G.length + 0)), .val (rf hB (10 + G.length + 1)), .val (rf hB (10 + G.length + 2)), .val (.int (dp + (-1 : Int32))), .val (.int nd), .val (rf hB (7 + (nd).toNatClampNeg)), s9]) (dp + (-1 : Int32)) d15_228 rfl (by rfl) rfl rfl ?_
          refine Wk.iload (pc' := 233) d15_231 rfl rfl ?_
          obtain ⟨v9, ev9, hM⟩ := Option.bind_eq_some_iff.mp hM
          refine Wk.ialoadG (pc' := 234) (i := (10 + G.length + 2)) d15_233 (Wk.getT rfl) ev9 rfl ?_
          refine Wk.iconst (pc' := 235) (1 : Int32) d15_234 (by decide) rfl ?_
          refine Wk.ixor (pc' := 236) d15_235 rfl ?_
          obtain ⟨v10, ev10, hM⟩ := Option.bind_eq_some_iff.mp hM
          refine Wk.ialoadG (pc' := 237) (i := 1) d15_236 rfl ev10 rfl ?_
          refine Wk.istore (pc' := 239) (Ls' := #[.val (rf hB 0), .val (.int sr), .val (.int sk), .val (rf hB (10 + G.length + 0)), .val (rf hB (10 + G.length + 1)), .val (rf hB (10 + G.length + 2)), .val (.int (dp + (-1 : Int32))), .val (.int v10), .val (rf hB (7 + (nd).toNatClampNeg)), s9]) d15_237 rfl rfl ?_
          refine Wk.aload (pc' := 241) d15_239 rfl rfl rfl ?_
          refine Wk.iload (pc' := 243) d15_241 rfl rfl ?_
          refine Wk.dup2 (pc' := 244) d15_243 rfl rfl rfl ?_
          obtain ⟨v11, ev11, hM⟩ := Option.bind_eq_some_iff.mp hM
          refine Wk.ialoadG (pc' := 245) (i := (10 + G.length + 1)) d15_244 (Wk.getT rfl) ev11 rfl ?_
          refine Wk.iconst (pc' := 246) (1 : Int32) d15_245 (by decide) rfl ?_
          refine Wk.iadd (pc' := 247) d15_246 rfl ?_
          obtain ⟨l12, el12, hM⟩ := Option.bind_eq_some_iff.mp hM
          refine Wk.iastoreG (pc' := 248) (i := (10 + G.length + 1)) (H' := ([obj "com/example/redoubt/redoubt/flow/FlowNetwork" ksFN [(.int (3 : Int32)), (rf hB 1), (rf hB 2), (rf hB 3), (rf hB 4), (.int ha), (rf hB 6)], ints hd, ints cap, ints fl, longs cs, ints ct, arr (.array .int) [(rf hB 7), (rf hB 8), (rf hB 9)], ints r0, ints r1, ints r2] ++ (G ++ ([ints lv, ints l12, ints pa] ++ K)))) d15_247 (Wk.getT rfl) el12 Wk.setT rfl ?_
          refine Wk.goTo (pc' := 6) d15_248 (by decide) (by decide) ?_
          exact ih ((dp + (-1 : Int32))) (v10) (fl) (l12) (pa) (.val (rf hB (7 + (nd).toNatClampNeg))) (Or.inr ⟨_, rfl, rfl⟩) (s9) hs9 out hM hk
    ·
      rw [if_neg hc1] at hM
      refine Wk.ifN (pc' := 11) d15_8 (XT.i0_gt_f hc1) rfl ?_
      refine Wk.aload (pc' := 13) d15_11 rfl rfl rfl ?_
      refine Wk.iloadN (pc' := 14) d15_13 rfl rfl ?_
      obtain ⟨v13, ev13, hM⟩ := Option.bind_eq_some_iff.mp hM
      refine Wk.ialoadG (pc' := 15) (i := (10 + G.length + 1)) d15_14 (Wk.getT rfl) ev13 rfl ?_
      refine Wk.aloadN (pc' := 16) d15_15 rfl rfl rfl ?_
      refine Wk.getF0 (pc' := 19) (i := 0) (j := 6) d15_16 (wd44 hw) rfl rfl rfl rfl ?_
      refine Wk.iloadN (pc' := 20) d15_19 rfl rfl ?_
      obtain ⟨row14, erow14, hM⟩ := Option.bind_eq_some_iff.mp hM
      refine Wk.aaload (pc' := 21) (i := 6) (jn := (sr).toNatClampNeg) (v := rf hB (7 + (sr).toNatClampNeg)) d15_20 rfl rfl (Wk.gR_at erow14).1 rfl (rowRef erow14) rfl ?_
      refine Wk.arrLen (pc' := 22) (i := (7 + (sr).toNatClampNeg)) (z := (row14.length.toInt32)) d15_21 (rowAt erow14) (by rw [List.length_map]) rfl ?_
      by_cases hc4 : v13 < (row14.length.toInt32)
      ·
        rw [if_pos hc4] at hM
        refine Wk.icN (pc' := 25) d15_22 (XT.ii_ge_f hc4) rfl ?_
        refine Wk.iload (pc' := 27) d15_25 rfl rfl ?_
        refine Wk.iloadN (pc' := 28) d15_27 rfl rfl ?_
        by_cases hc5 : nd = sk
        ·
          rw [if_pos hc5] at hM
          refine Wk.icN (pc' := 31) d15_28 (XT.ii_ne_f hc5) rfl ?_
          refine Wk.ldcInt (pc' := 33) d15_31 (wd91 hw) rfl ?_
          refine Wk.istore (pc' := 35) (Ls' := #[.val (rf hB 0), .val (.int sr), .val (.int sk), .val (rf hB (10 + G.length + 0)), .val (rf hB (10 + G.length + 1)), .val (rf hB (10 + G.length + 2)), .val (.int dp), .val (.int nd), .val (.int (2147483647 : Int32)), s9]) d15_33 (XS.store1 rfl hs8 rfl) rfl ?_
          refine Wk.iconst (pc' := 36) (0 : Int32) d15_35 (by decide) rfl ?_
          refine Wk.istore (pc' := 38) (Ls' := #[.val (rf hB 0), .val (.int sr), .val (.int sk), .val (rf hB (10 + G.length + 0)), .val (rf hB (10 + G.length + 1)), .val (rf hB (10 + G.length + 2)), .val (.int dp), .val (.int nd), .val (.int (2147483647 : Int32)), .val (.int (0 : Int32))]) d15_36 (XS.store1 rfl hs9 rfl) rfl ?_
          obtain ⟨q15, eq15, hM⟩ := Option.bind_eq_some_iff.mp hM
          refine m_bA l Z a0 hw hB (hd) (cap) (fl) (cs) (ct) (r0) (r1) (r2) (ha) (lv) (nx) (pa) (sr) (sk) (dp) (nd) n1 sl Q G K hsl hcl 8 (2147483647 : Int32) (0 : Int32) q15 eq15 ?_
          refine Wk.iconst (pc' := 68) (0 : Int32) d15_67 (by decide) rfl ?_
          refine Wk.istore (pc' := 70) (Ls' := #[.val (rf hB 0), .val (.int sr), .val (.int sk), .val (rf hB (10 + G.length + 0)), .val (rf hB (10 + G.length + 1)), .val (rf hB (10 + G.length + 2)), .val (.int dp), .val (.int nd), .val (.int q15.1), .val (.int (0 : Int32))]) d15_68 rfl rfl ?_
          obtain ⟨q16, eq16, hM⟩ := Option.bind_eq_some_iff.mp hM
          refine m_bB l Z a0 hw hB (hd) (cap) (cs) (ct) (r0) (r1) (r2) (ha) (lv) (nx) (pa) (sr) (sk) (dp) (nd) (q15.1) n1 sl Q G K hsl hcl 8 (0 : Int32) (fl) q16 eq16 ?_
          refine Wk.iconst (pc' := 116) (0 : Int32) d15_115 (by decide) rfl ?_
          refine Wk.istore (pc' := 118) (Ls' := #[.val (rf hB 0), .val (.int sr), .val (.int sk), .val (rf hB (10 + G.length + 0)), .val (rf hB (10 + G.length + 1)), .val (rf hB (10 + G.length + 2)), .val (.int (0 : Int32)), .val (.int nd), .val (.int q15.1), .val (.int q16.1)]) d15_116 rfl rfl ?_
          refine Wk.iloadN (pc' := 119) d15_118 rfl rfl ?_
          refine Wk.istore (pc' := 121) (Ls' := #[.val (rf hB 0), .val (.int sr), .val (.int sk), .val (rf hB (10 + G.length + 0)), .val (rf hB (10 + G.length + 1)), .val (rf hB (10 + G.length + 2)), .val (.int (0 : Int32)), .val (.int sr), .val (.int q15.1), .val (.int q16.1)]) d15_119 rfl rfl ?_
          refine Wk.goTo (pc' := 6) d15_121 (by decide) (by decide) ?_
          exact ih ((0 : Int32)) (sr) (q16.2) (nx) (pa) (.val (.int q15.1)) (Or.inr ⟨_, rfl, rfl⟩) (.val (.int q16.1)) (Or.inr ⟨_, rfl, rfl⟩) out hM hk
        ·
          rw [if_neg hc5] at hM
          refine Wk.icY (pc' := 124) d15_28 (XT.ii_ne_t hc5) (by decide) (by decide) ?_
          refine Wk.aloadN (pc' := 125) d15_124 rfl rfl rfl ?_
          refine Wk.getF0 (pc' := 128) (i := 0) (j := 6) d15_125 (wd44 hw) rfl rfl rfl rfl ?_
          refine Wk.iload (pc' := 130) d15_128 rfl rfl ?_
          obtain ⟨row17, erow17, hM⟩ := Option.bind_eq_some_iff.mp hM
          refine Wk.aaload (pc' := 131) (i := 6) (jn := (nd).toNatClampNeg) (v := rf hB (7 + (nd).toNatClampNeg)) d15_130 rfl rfl (Wk.gR_at erow17).1 rfl (rowRef erow17) rfl ?_
          refine Wk.astore (pc' := 133) (Ls' := #[.val (rf hB 0), .val (.int sr), .val (.int sk), .val (rf hB (10 + G.length + 0)), .val (rf hB (10 + G.length + 1)), .val (rf hB (10 + G.length + 2)), .val (.int dp), .val (.int nd), .val (rf hB (7 + (nd).toNatClampNeg)), s9]) d15_131 rfl (XS.store1 rfl hs8 rfl) rfl ?_
          obtain ⟨q18, eq18, hM⟩ := Option.bind_eq_some_iff.mp hM
          refine m_bC l Z a0 hw hB (hd) (cap) (fl) (cs) (ct) (r0) (r1) (r2) (ha) (lv) (pa) (sr) (sk) (dp) (nd) (row17) n1 sl Q G K hsl hcl erow17 8 (nx) (s9) hs9 q18 eq18 ?_
          intro s9 hs9
          refine Wk.aload (pc' := 174) d15_172 rfl rfl rfl ?_
          refine Wk.iload (pc' := 176) d15_174 rfl rfl ?_
          obtain ⟨v19, ev19, hM⟩ := Option.bind_eq_some_iff.mp hM
          refine Wk.ialoadG (pc' := 177) (i := (10 + G.length + 1)) d15_176 (Wk.getT rfl) ev19 rfl ?_
          refine Wk.aload (pc' := 179) d15_177 rfl rfl rfl ?_
          refine Wk.arrLen (pc' := 180) (i := (7 + (nd).toNatClampNeg)) (z := (row17.length.toInt32)) d15_179 (rowAt erow17) (by rw [List.length_map]) rfl ?_
          by_cases hc6 : v19 < (row17.length.toInt32)
          ·
            rw [if_pos hc6] at hM
            refine Wk.icN (pc' := 183) d15_180 (XT.ii_ge_f hc6) rfl ?_
            refine Wk.aload (pc' := 185) d15_183 rfl rfl rfl ?_
            refine Wk.iload (pc' := 187) d15_185 rfl rfl ?_
            refine Wk.iinc (pc' := 190) (Ls' := #[.val (rf hB 0), .val (.int sr), .val (.int sk), .val (rf hB (10 + G.length + 0)), .val (rf hB (10 + G.length + 1)), .val (rf hB (10 + G.length + 2)), .val (.int (dp + (1 : Int32))), .val (.int nd), .val (rf hB (7 + (nd).toNatClampNeg)), s9]) (dp + (1 : Int32)) d15_187 rfl (by rfl) rfl rfl ?_
            refine Wk.aload (pc' := 192) d15_190 rfl rfl rfl ?_
            refine Wk.aload (pc' := 194) d15_192 rfl rfl rfl ?_
            refine Wk.iload (pc' := 196) d15_194 rfl rfl ?_
            refine Wk.ialoadG (pc' := 197) (i := (10 + G.length + 1)) d15_196 (Wk.getT rfl) ev19 rfl ?_
            obtain ⟨v20, ev20, hM⟩ := Option.bind_eq_some_iff.mp hM
            refine Wk.ialoadG (pc' := 198) (i := (7 + (nd).toNatClampNeg)) d15_197 (rowAt erow17) ev20 rfl ?_
            obtain ⟨l21, el21, hM⟩ := Option.bind_eq_some_iff.mp hM
            refine Wk.iastoreG (pc' := 199) (i := (10 + G.length + 2)) (H' := ([obj "com/example/redoubt/redoubt/flow/FlowNetwork" ksFN [(.int (3 : Int32)), (rf hB 1), (rf hB 2), (rf hB 3), (rf hB 4), (.int ha), (rf hB 6)], ints hd, ints cap, ints fl, longs cs, ints ct, arr (.array .int) [(rf hB 7), (rf hB 8), (rf hB 9)], ints r0, ints r1, ints r2] ++ (G ++ ([ints lv, ints q18, ints l21] ++ K)))) d15_198 (Wk.getT rfl) el21 Wk.setT rfl ?_
            refine Wk.aloadN (pc' := 200) d15_199 rfl rfl rfl ?_
            refine Wk.getF0 (pc' := 203) (i := 0) (j := 1) d15_200 (wd11 hw) rfl rfl rfl rfl ?_
            refine Wk.aload (pc' := 205) d15_203 rfl rfl rfl ?_
            refine Wk.aload (pc' := 207) d15_205 rfl rfl rfl ?_
            refine Wk.iload (pc' := 209) d15_207 rfl rfl ?_
            refine Wk.ialoadG (pc' := 210) (i := (10 + G.length + 1)) d15_209 (Wk.getT rfl) ev19 rfl ?_
            refine Wk.ialoadG (pc' := 211) (i := (7 + (nd).toNatClampNeg)) d15_210 (rowAt erow17) ev20 rfl ?_
            obtain ⟨v22, ev22, hM⟩ := Option.bind_eq_some_iff.mp hM
            refine Wk.ialoadG (pc' := 212) (i := 1) d15_211 rfl ev22 rfl ?_
            refine Wk.istore (pc' := 214) (Ls' := #[.val (rf hB 0), .val (.int sr), .val (.int sk), .val (rf hB (10 + G.length + 0)), .val (rf hB (10 + G.length + 1)), .val (rf hB (10 + G.length + 2)), .val (.int (dp + (1 : Int32))), .val (.int v22), .val (rf hB (7 + (nd).toNatClampNeg)), s9]) d15_212 rfl rfl ?_
            refine Wk.goTo (pc' := 248) d15_214 (by decide) (by decide) ?_
            refine Wk.goTo (pc' := 6) d15_248 (by decide) (by decide) ?_
            exact ih ((dp + (1 : Int32))) (v22) (fl) (q18) (l21) (.val (rf hB (7 + (nd).toNatClampNeg))) (Or.inr ⟨_, rfl, rfl⟩) (s9) hs9 out hM hk
          ·
            rw [if_neg hc6] at hM
            refine Wk.icY (pc' := 217) d15_180 (XT.ii_ge_t hc6) (by decide) (by decide) ?_
            refine Wk.iload (pc' := 219) d15_217 rfl rfl ?_
            refine Wk.ifY (pc' := 248) d15_219 (XT.i0_le_t hc1) (by decide) (by decide) ?_
            refine Wk.goTo (pc' := 6) d15_248 (by decide) (by decide) ?_
            exact ih (dp) (nd) (fl) (q18) (pa) (.val (rf hB (7 + (nd).toNatClampNeg))) (Or.inr ⟨_, rfl, rfl⟩) (s9) hs9 out hM hk
      ·
        rw [if_neg hc4] at hM
        refine Wk.icY (pc' := 251) d15_22 (XT.ii_ge_t hc4) (by decide) (by decide) ?_
        obtain rfl := Option.some.inj hM
        exact hk (s8) hs8 (s9) hs9
def Fm_bf (hd : List Int32) (cap : List Int32) (fl : List Int32) (cs : List Int64) (ct : List Int32) (r0 : List Int32) (r1 : List Int32) (r2 : List Int32) (ha : Int32) (lv : List Int32) (nx : List Int32) (pa : List Int32) (sr : Int32) (sk : Int32) : Option (List Int32 × List Int32 × List Int32) :=
    (Fm_bO hd cap cs ct r0 r1 r2 ha lv sr sk 40 (0 : Int32) sr fl nx pa).bind fun q1 =>
    some (q1.2.2.1, q1.2.2.2.1, q1.2.2.2.2)
set_option maxRecDepth 65536 in
set_option maxHeartbeats 40000000 in
theorem m_bf (l : Launch) (Z : State) (a0 : Array Value) (hw : ∀ d ∈ tables_1, d.before a0 Z = true) (hB : Heap) (G K : List Rec) (hd : List Int32) (cap : List Int32) (fl : List Int32) (cs : List Int64) (ct : List Int32) (r0 : List Int32) (r1 : List Int32) (r2 : List Int32) (ha : Int32) (lv : List Int32) (nx : List Int32) (pa : List Int32) (sr : Int32) (sk : Int32) (out : List Int32 × List Int32 × List Int32) (hM : Fm_bf hd cap fl cs ct r0 r1 r2 ha lv nx pa sr sk = some out)  : Ctr l Z hB ({ cls := "com/example/redoubt/redoubt/flow/FlowNetwork", name := "blockingFlow", desc := "(II[I[I[I)V" } : Jvm.MethodName) prog_4_method_11_code 10 none [] ({ frames := 2, cells := 0, slots := 0, locals := 30 } : Room) #[(rf hB 0), (.int sr), (.int sk), (rf hB (10 + G.length + 0)), (rf hB (10 + G.length + 1)), (rf hB (10 + G.length + 2))] ([obj "com/example/redoubt/redoubt/flow/FlowNetwork" ksFN [(.int (3 : Int32)), (rf hB 1), (rf hB 2), (rf hB 3), (rf hB 4), (.int ha), (rf hB 6)], ints hd, ints cap, ints fl, longs cs, ints ct, arr (.array .int) [(rf hB 7), (rf hB 8), (rf hB 9)], ints r0, ints r1, ints r2] ++ (G ++ ([ints lv, ints nx, ints pa] ++ K))) (fun v H' => v = none ∧ H' = ([obj "com/example/redoubt/redoubt/flow/FlowNetwork" ksFN [(.int (3 : Int32)), (rf hB 1), (rf hB 2), (rf hB 3), (rf hB 4), (.int ha), (rf hB 6)], ints hd, ints cap, ints out.1, longs cs, ints ct, arr (.array .int) [(rf hB 7), (rf hB 8), (rf hB 9)], ints r0, ints r1, ints r2] ++ (G ++ ([ints lv, ints out.2.1, ints out.2.2] ++ K)))) := by
  refine Wk.ctr pn_13 (Ls := #[.val (rf hB 0), .val (.int sr), .val (.int sk), .val (rf hB (10 + G.length + 0)), .val (rf hB (10 + G.length + 1)), .val (rf hB (10 + G.length + 2)), .unset, .unset, .unset, .unset]) (fun m => by first | rfl | (simp [entryFrame, mkF, argsToLocals, Value.category]; done)) ?_
  simp only [Fm_bf] at hM
  refine Wk.iconst (pc' := 1) (0 : Int32) d15_0 (by decide) rfl ?_
  refine Wk.istore (pc' := 3) (Ls' := #[.val (rf hB 0), .val (.int sr), .val (.int sk), .val (rf hB (10 + G.length + 0)), .val (rf hB (10 + G.length + 1)), .val (rf hB (10 + G.length + 2)), .val (.int (0 : Int32)), .unset, .unset, .unset]) d15_1 rfl rfl ?_
  refine Wk.iloadN (pc' := 4) d15_3 rfl rfl ?_
  refine Wk.istore (pc' := 6) (Ls' := #[.val (rf hB 0), .val (.int sr), .val (.int sk), .val (rf hB (10 + G.length + 0)), .val (rf hB (10 + G.length + 1)), .val (rf hB (10 + G.length + 2)), .val (.int (0 : Int32)), .val (.int sr), .unset, .unset]) d15_4 rfl rfl ?_
  obtain ⟨q1, eq1, hM⟩ := Option.bind_eq_some_iff.mp hM
  refine m_bO l Z a0 hw hB hd cap cs ct r0 r1 r2 ha lv sr sk _ _ _ G K (Nat.le_of_ble_eq_true rfl) (by simp only [List.length_append, List.length_cons, List.length_nil] <;> omega) 40 (0 : Int32) sr fl nx pa (.unset) (Or.inl rfl) (.unset) (Or.inl rfl) q1 eq1 ?_
  intro s8 hs8 s9 hs9
  obtain rfl := Option.some.inj hM
  exact Wk.vret d15_251 rfl (by simp only [List.length_append, List.length_cons, List.length_nil] <;> omega) (Nat.le_of_ble_eq_true rfl) ⟨rfl, rfl⟩
def Fm_ofl (hd : List Int32) (cap : List Int32) (fl : List Int32) (cs : List Int64) (ct : List Int32) (r0 : List Int32) (r1 : List Int32) (r2 : List Int32) (ha : Int32) (nd : Int32) (zz : Int32) (row : List Int32) : Nat → Int64 → Int32 → Option (Int64 × Int32)
  | 0, _, _ => none
  | n + 1, val, i =>
    if i < zz then ((Wk.gI row i).bind fun v1 =>
    (Wk.gI fl v1).bind fun v2 =>
    Fm_ofl hd cap fl cs ct r0 r1 r2 ha nd zz row n ((val + ((v2).toInt64))) ((i + (1 : Int32)))) else (some (val, i))
set_option maxRecDepth 65536 in
set_option maxHeartbeats 40000000 in
theorem m_ofl (l : Launch) (Z : State) (a0 : Array Value) (hw : ∀ d ∈ tables_1, d.before a0 Z = true) (hB : Heap) (hd : List Int32) (cap : List Int32) (fl : List Int32) (cs : List Int64) (ct : List Int32) (r0 : List Int32) (r1 : List Int32) (r2 : List Int32) (ha : Int32) (nd : Int32) (zz : Int32) (row : List Int32) (n1 sl : Nat) (Q : Option Value → List Rec → Prop) (X : List Rec) (en0 : Wk.gR [r0, r1, r2] nd = some row) : ∀ (n : Nat) (val : Int64) (i : Int32) (s7 : Slot) (hs7 : s7 = .unset ∨ ∃ w, s7 = .val w ∧ w.category = 1) (out : Int64 × Int32), Fm_ofl hd cap fl cs ct r0 r1 r2 ha nd zz row n val i = some out → (∀ (s7 : Slot) (hs7 : s7 = .unset ∨ ∃ w, s7 = .val w ∧ w.category = 1), WP l Z hB ({ cls := "com/example/redoubt/redoubt/flow/FlowNetwork", name := "outflow", desc := "(I)J" } : Jvm.MethodName) prog_4_method_15_code 8 (some .long) ({ frames := 0, cells := 0, slots := 0, locals := 0 } : Room) n1 Q sl ([obj "com/example/redoubt/redoubt/flow/FlowNetwork" ksFN [(.int (3 : Int32)), (rf hB 1), (rf hB 2), (rf hB 3), (rf hB 4), (.int ha), (rf hB 6)], ints hd, ints cap, ints fl, longs cs, ints ct, arr (.array .int) [(rf hB 7), (rf hB 8), (rf hB 9)], ints r0, ints r1, ints r2] ++ X) 49 #[.val (rf hB 0), .val (.int nd), .val (.long out.1), .second, .val (rf hB (7 + (nd).toNatClampNeg)), .val (.int zz), .val (.int out.2), s7] []) → WP l Z hB ({ cls := "com/example/redoubt/redoubt/flow/FlowNetwork", name := "outflow", desc := "(I)J" } : Jvm.MethodName) prog_4_method_15_code 8 (some .long) ({ frames := 0, cells := 0, slots := 0, locals := 0 } : Room) n1 Q sl ([obj "com/example/redoubt/redoubt/flow/FlowNetwork" ksFN [(.int (3 : Int32)), (rf hB 1), (rf hB 2), (rf hB 3), (rf hB 4), (.int ha), (rf hB 6)], ints hd, ints cap, ints fl, longs cs, ints ct, arr (.array .int) [(rf hB 7), (rf hB 8), (rf hB 9)], ints r0, ints r1, ints r2] ++ X) 18 #[.val (rf hB 0), .val (.int nd), .val (.long val), .second, .val (rf hB (7 + (nd).toNatClampNeg)), .val (.int zz), .val (.int i), s7] [] := by
  intro n
  induction n with
  | zero => intro _ _ _ _ out hM; cases hM
  | succ n ih =>
    intro val i s7 hs7 out hM hk
    simp only [Fm_ofl] at hM
    refine Wk.iload (pc' := 20) d18_18 rfl rfl ?_
    refine Wk.iload (pc' := 22) d18_20 rfl rfl ?_
    by_cases hc1 : i < zz
    ·
      rw [if_pos hc1] at hM
      refine Wk.icN (pc' := 25) d18_22 (XT.ii_ge_f hc1) rfl ?_
      refine Wk.aload (pc' := 27) d18_25 rfl rfl rfl ?_
      refine Wk.iload (pc' := 29) d18_27 rfl rfl ?_
      obtain ⟨v1, ev1, hM⟩ := Option.bind_eq_some_iff.mp hM
      refine Wk.ialoadG (pc' := 30) (i := (7 + (nd).toNatClampNeg)) d18_29 (rowAt en0) ev1 rfl ?_
      refine Wk.istore (pc' := 32) (Ls' := #[.val (rf hB 0), .val (.int nd), .val (.long val), .second, .val (rf hB (7 + (nd).toNatClampNeg)), .val (.int zz), .val (.int i), .val (.int v1)]) d18_30 (XS.store1 rfl hs7 rfl) rfl ?_
      refine Wk.lloadN (pc' := 33) d18_32 rfl rfl ?_
      refine Wk.aloadN (pc' := 34) d18_33 rfl rfl rfl ?_
      refine Wk.getF0 (pc' := 37) (i := 0) (j := 3) d18_34 (wd15 hw) rfl rfl rfl rfl ?_
      refine Wk.iload (pc' := 39) d18_37 rfl rfl ?_
      obtain ⟨v2, ev2, hM⟩ := Option.bind_eq_some_iff.mp hM
      refine Wk.ialoadG (pc' := 40) (i := 3) d18_39 rfl ev2 rfl ?_
      refine Wk.i2l (pc' := 41) d18_40 rfl ?_
      refine Wk.ladd (pc' := 42) d18_41 rfl ?_
      refine Wk.lstoreN (pc' := 43) (Ls' := #[.val (rf hB 0), .val (.int nd), .val (.long (val + ((v2).toInt64))), .second, .val (rf hB (7 + (nd).toNatClampNeg)), .val (.int zz), .val (.int i), .val (.int v1)]) d18_42 rfl rfl ?_
      refine Wk.iinc (pc' := 46) (Ls' := #[.val (rf hB 0), .val (.int nd), .val (.long (val + ((v2).toInt64))), .second, .val (rf hB (7 + (nd).toNatClampNeg)), .val (.int zz), .val (.int (i + (1 : Int32))), .val (.int v1)]) (i + (1 : Int32)) d18_43 rfl (by rfl) rfl rfl ?_
      refine Wk.goTo (pc' := 18) d18_46 (by decide) (by decide) ?_
      exact ih ((val + ((v2).toInt64))) ((i + (1 : Int32))) (.val (.int v1)) (Or.inr ⟨_, rfl, rfl⟩) out hM hk
    ·
      rw [if_neg hc1] at hM
      refine Wk.icY (pc' := 49) d18_22 (XT.ii_ge_t hc1) (by decide) (by decide) ?_
      obtain rfl := Option.some.inj hM
      exact hk (s7) hs7
def Fm_of (hd : List Int32) (cap : List Int32) (fl : List Int32) (cs : List Int64) (ct : List Int32) (r0 : List Int32) (r1 : List Int32) (r2 : List Int32) (ha : Int32) (nd : Int32) : Option (Int64) :=
    (Wk.gR [r0, r1, r2] nd).bind fun row1 =>
    (Fm_ofl hd cap fl cs ct r0 r1 r2 ha nd (row1.length.toInt32) row1 20 (0 : Int64) (0 : Int32)).bind fun q2 =>
    some q2.1
set_option maxRecDepth 65536 in
set_option maxHeartbeats 40000000 in
theorem m_of (l : Launch) (Z : State) (a0 : Array Value) (hw : ∀ d ∈ tables_1, d.before a0 Z = true) (hB : Heap) (X : List Rec) (hd : List Int32) (cap : List Int32) (fl : List Int32) (cs : List Int64) (ct : List Int32) (r0 : List Int32) (r1 : List Int32) (r2 : List Int32) (ha : Int32) (nd : Int32) (out : Int64) (hM : Fm_of hd cap fl cs ct r0 r1 r2 ha nd = some out)  : Ctr l Z hB ({ cls := "com/example/redoubt/redoubt/flow/FlowNetwork", name := "outflow", desc := "(I)J" } : Jvm.MethodName) prog_4_method_15_code 8 (some .long) [] ({ frames := 0, cells := 0, slots := 0, locals := 0 } : Room) #[(rf hB 0), (.int nd)] ([obj "com/example/redoubt/redoubt/flow/FlowNetwork" ksFN [(.int (3 : Int32)), (rf hB 1), (rf hB 2), (rf hB 3), (rf hB 4), (.int ha), (rf hB 6)], ints hd, ints cap, ints fl, longs cs, ints ct, arr (.array .int) [(rf hB 7), (rf hB 8), (rf hB 9)], ints r0, ints r1, ints r2] ++ X) (fun v H' => v = some (.long out) ∧ H' = ([obj "com/example/redoubt/redoubt/flow/FlowNetwork" ksFN [(.int (3 : Int32)), (rf hB 1), (rf hB 2), (rf hB 3), (rf hB 4), (.int ha), (rf hB 6)], ints hd, ints cap, ints fl, longs cs, ints ct, arr (.array .int) [(rf hB 7), (rf hB 8), (rf hB 9)], ints r0, ints r1, ints r2] ++ X)) := by
  refine Wk.ctr pn_14 (Ls := #[.val (rf hB 0), .val (.int nd), .unset, .unset, .unset, .unset, .unset, .unset]) (fun m => by first | rfl | (simp [entryFrame, mkF, argsToLocals, Value.category]; done)) ?_
  simp only [Fm_of] at hM
  refine Wk.lconst (pc' := 1) (0 : Int64) d18_0 (by decide) rfl ?_
  refine Wk.lstoreN (pc' := 2) (Ls' := #[.val (rf hB 0), .val (.int nd), .val (.long (0 : Int64)), .second, .unset, .unset, .unset, .unset]) d18_1 rfl rfl ?_
  refine Wk.aloadN (pc' := 3) d18_2 rfl rfl rfl ?_
  refine Wk.getF0 (pc' := 6) (i := 0) (j := 6) d18_3 (wd44 hw) rfl rfl rfl rfl ?_
  refine Wk.iloadN (pc' := 7) d18_6 rfl rfl ?_
  obtain ⟨row1, erow1, hM⟩ := Option.bind_eq_some_iff.mp hM
  refine Wk.aaload (pc' := 8) (i := 6) (jn := (nd).toNatClampNeg) (v := rf hB (7 + (nd).toNatClampNeg)) d18_7 rfl rfl (Wk.gR_at erow1).1 rfl (rowRef erow1) rfl ?_
  refine Wk.astore (pc' := 10) (Ls' := #[.val (rf hB 0), .val (.int nd), .val (.long (0 : Int64)), .second, .val (rf hB (7 + (nd).toNatClampNeg)), .unset, .unset, .unset]) d18_8 rfl rfl rfl ?_
  refine Wk.aload (pc' := 12) d18_10 rfl rfl rfl ?_
  refine Wk.arrLen (pc' := 13) (i := (7 + (nd).toNatClampNeg)) (z := (row1.length.toInt32)) d18_12 (rowAt erow1) (by rw [List.length_map]) rfl ?_
  refine Wk.istore (pc' := 15) (Ls' := #[.val (rf hB 0), .val (.int nd), .val (.long (0 : Int64)), .second, .val (rf hB (7 + (nd).toNatClampNeg)), .val (.int (row1.length.toInt32)), .unset, .unset]) d18_13 rfl rfl ?_
  refine Wk.iconst (pc' := 16) (0 : Int32) d18_15 (by decide) rfl ?_
  refine Wk.istore (pc' := 18) (Ls' := #[.val (rf hB 0), .val (.int nd), .val (.long (0 : Int64)), .second, .val (rf hB (7 + (nd).toNatClampNeg)), .val (.int (row1.length.toInt32)), .val (.int (0 : Int32)), .unset]) d18_16 rfl rfl ?_
  obtain ⟨q2, eq2, hM⟩ := Option.bind_eq_some_iff.mp hM
  refine m_ofl l Z a0 hw hB hd cap fl cs ct r0 r1 r2 ha nd (row1.length.toInt32) row1 _ _ _ X erow1 20 (0 : Int64) (0 : Int32) (.unset) (Or.inl rfl) q2 eq2 ?_
  intro s7 hs7
  refine Wk.lloadN (pc' := 50) d18_49 rfl rfl ?_
  obtain rfl := Option.some.inj hM
  exact Wk.lret d18_50 rfl (by simp only [List.length_append, List.length_cons, List.length_nil] <;> omega) (Nat.le_of_ble_eq_true rfl) ⟨rfl, rfl⟩
set_option maxRecDepth 65536 in
set_option maxHeartbeats 40000000 in
theorem m_prepN (l : Launch) (Z : State) (a0 : Array Value) (hw : ∀ d ∈ tables_1, d.before a0 Z = true) (hB : Heap) (X : List Rec) (hd : List Int32) (cap : List Int32) (fl : List Int32) (cs : List Int64) (ct : List Int32) (r0 : List Int32) (r1 : List Int32) (r2 : List Int32) (ha : Int32) (sr sk : Int32) (a1 : ¬ sr < 0) (a2 : sr < 3) (b1 : ¬ sk < 0) (b2 : sk < 3) (hne : ¬ sr = sk) : Ctr l Z hB ({ cls := "com/example/redoubt/redoubt/flow/FlowNetwork", name := "prepare", desc := "(II)V" } : Jvm.MethodName) prog_4_method_14_code 3 none [] ({ frames := 1, cells := 0, slots := 0, locals := 13 } : Room) #[(rf hB 0), (.int sr), (.int sk)] ([obj "com/example/redoubt/redoubt/flow/FlowNetwork" ksFN [(.int (3 : Int32)), (rf hB 1), (rf hB 2), (rf hB 3), (rf hB 4), (.int ha), (rf hB 6)], ints hd, ints cap, ints fl, longs cs, ints ct, arr (.array .int) [(rf hB 7), (rf hB 8), (rf hB 9)], ints r0, ints r1, ints r2] ++ X) (fun v H' => v = none ∧ H' = ([obj "com/example/redoubt/redoubt/flow/FlowNetwork" ksFN [(.int (3 : Int32)), (rf hB 1), (rf hB 2), (rf hB 3), (rf hB 4), (.int ha), (rf hB 6)], ints hd, ints cap, ints fl, longs cs, ints ct, arr (.array .int) [(rf hB 7), (rf hB 8), (rf hB 9)], ints r0, ints r1, ints r2] ++ X)) := by
  refine Wk.ctr pn_15 (Ls := #[.val (rf hB 0), .val (.int sr), .val (.int sk)]) (fun m => by first | rfl | (simp [entryFrame, mkF, argsToLocals, Value.category]; done)) ?_
  refine Wk.aloadN (pc' := 1) d10_0 rfl rfl rfl ?_
  refine Wk.iloadN (pc' := 2) d10_1 rfl rfl ?_
  refine Wk.callP (pc' := 5) (argsL := [(.int sr)]) (st := []) d10_2 (wd32 hw) (wd33 hw) (Jvm.Kit.selects_private (by decide) (wd2 hw) (wd34 hw) (wd33 hw)) (wd34 hw) (wd3 hw) (wd35 hw) (by decide) (lenOf pd_0 rfl) (fun _ P => P.exa rfl) (m_cnode l Z a0 hw hB ([obj "com/example/redoubt/redoubt/flow/FlowNetwork" ksFN [(.int (3 : Int32)), (rf hB 1), (rf hB 2), (rf hB 3), (rf hB 4), (.int ha), (rf hB 6)], ints hd, ints cap, ints fl, longs cs, ints ct, arr (.array .int) [(rf hB 7), (rf hB 8), (rf hB 9)], ints r0, ints r1, ints r2] ++ X) ha sr (rf hB 6) rfl a1 a2) rfl (Nat.le_of_ble_eq_true rfl) (Nat.le_of_ble_eq_true rfl) (by simp only [List.length_append, List.length_cons, List.length_nil] <;> omega) (Nat.le_of_ble_eq_true rfl) rfl rfl ?_
  rintro _ _ ⟨rfl, hH⟩; obtain rfl := hH.symm
  show WP l Z hB _ _ _ _ _ _ _ _ ([obj "com/example/redoubt/redoubt/flow/FlowNetwork" ksFN [(.int (3 : Int32)), (rf hB 1), (rf hB 2), (rf hB 3), (rf hB 4), (.int ha), (rf hB 6)], ints hd, ints cap, ints fl, longs cs, ints ct, arr (.array .int) [(rf hB 7), (rf hB 8), (rf hB 9)], ints r0, ints r1, ints r2] ++ X) _ _ []
  refine Wk.aloadN (pc' := 6) d10_5 rfl rfl rfl ?_
  refine Wk.iloadN (pc' := 7) d10_6 rfl rfl ?_
  refine Wk.callP (pc' := 10) (argsL := [(.int sk)]) (st := []) d10_7 (wd32 hw) (wd33 hw) (Jvm.Kit.selects_private (by decide) (wd2 hw) (wd34 hw) (wd33 hw)) (wd34 hw) (wd3 hw) (wd35 hw) (by decide) (lenOf pd_0 rfl) (fun _ P => P.exa rfl) (m_cnode l Z a0 hw hB ([obj "com/example/redoubt/redoubt/flow/FlowNetwork" ksFN [(.int (3 : Int32)), (rf hB 1), (rf hB 2), (rf hB 3), (rf hB 4), (.int ha), (rf hB 6)], ints hd, ints cap, ints fl, longs cs, ints ct, arr (.array .int) [(rf hB 7), (rf hB 8), (rf hB 9)], ints r0, ints r1, ints r2] ++ X) ha sk (rf hB 6) rfl b1 b2) rfl (Nat.le_of_ble_eq_true rfl) (Nat.le_of_ble_eq_true rfl) (by simp only [List.length_append, List.length_cons, List.length_nil] <;> omega) (Nat.le_of_ble_eq_true rfl) rfl rfl ?_
  rintro _ _ ⟨rfl, hH⟩; obtain rfl := hH.symm
  show WP l Z hB _ _ _ _ _ _ _ _ ([obj "com/example/redoubt/redoubt/flow/FlowNetwork" ksFN [(.int (3 : Int32)), (rf hB 1), (rf hB 2), (rf hB 3), (rf hB 4), (.int ha), (rf hB 6)], ints hd, ints cap, ints fl, longs cs, ints ct, arr (.array .int) [(rf hB 7), (rf hB 8), (rf hB 9)], ints r0, ints r1, ints r2] ++ X) _ _ []
  refine Wk.iloadN (pc' := 11) d10_10 rfl rfl ?_
  refine Wk.iloadN (pc' := 12) d10_11 rfl rfl ?_
  refine Wk.icY (pc' := 29) d10_12 (XT.ii_ne_t hne) (by decide) (by decide) ?_
  refine Wk.aloadN (pc' := 30) d10_29 rfl rfl rfl ?_
  refine Wk.getF0 (pc' := 33) (i := 0) (j := 6) d10_30 (wd44 hw) rfl rfl rfl rfl ?_
  refine Wk.nonnullY (pc' := 44) d10_33 (by decide) (by decide) ?_
  exact Wk.vret d10_44 rfl (by simp only [List.length_append, List.length_cons, List.length_nil] <;> omega) (Nat.le_of_ble_eq_true rfl) ⟨rfl, rfl⟩
set_option maxRecDepth 65536 in
set_option maxHeartbeats 40000000 in
theorem m_group_A (l : Launch) (Z : State) (a0 : Array Value) (hw : ∀ d ∈ tables_1, d.before a0 Z = true) (hB : Heap) (cap fl : List Int32) (cs : List Int64) : Ctr l Z hB ({ cls := "com/example/redoubt/redoubt/flow/FlowNetwork", name := "groupBySource", desc := "()[[I" } : Jvm.MethodName) prog_4_method_16_code 5 (some (.array (.array .int))) [] ({ frames := 0, cells := 5, slots := 12, locals := 0 } : Room) #[(rf hB 0)] [obj "com/example/redoubt/redoubt/flow/FlowNetwork" ksFN [(.int (3 : Int32)), (rf hB 1), (rf hB 2), (rf hB 3), (rf hB 4), (.int (6 : Int32)), .null], ints [1, 0, 2, 1, 2, 0, 0, 0, 0, 0, 0, 0, 0, 0, 0, 0], ints cap, ints fl, longs cs] (fun v H' => v = some (rf hB 6) ∧ H' = [obj "com/example/redoubt/redoubt/flow/FlowNetwork" ksFN [(.int (3 : Int32)), (rf hB 1), (rf hB 2), (rf hB 3), (rf hB 4), (.int (6 : Int32)), .null], ints [1, 0, 2, 1, 2, 0, 0, 0, 0, 0, 0, 0, 0, 0, 0, 0], ints cap, ints fl, longs cs, ints [2, 2, 2], arr (.array .int) [(rf hB 7), (rf hB 8), (rf hB 9)], ints [0, 4], ints [1, 2], ints [3, 5]]) := by
  refine Wk.ctr pn_16 (Ls := #[.val (rf hB 0), .unset, .unset, .unset, .unset]) (fun m => by first | rfl | (simp [entryFrame, mkF, argsToLocals, Value.category]; done)) ?_
  refine Wk.aloadN (pc' := 1) d11_0 rfl rfl rfl ?_
  refine Wk.getF0 (pc' := 4) (i := 0) (j := 0) d11_1 (wd20 hw) rfl rfl rfl rfl ?_
  refine Wk.newArr (pc' := 6) (i := 5) (nn := 3) (H' := [obj "com/example/redoubt/redoubt/flow/FlowNetwork" ksFN [(.int (3 : Int32)), (rf hB 1), (rf hB 2), (rf hB 3), (rf hB 4), (.int (6 : Int32)), .null], ints [1, 0, 2, 1, 2, 0, 0, 0, 0, 0, 0, 0, 0, 0, 0, 0], ints cap, ints fl, longs cs, ints [0, 0, 0]]) d11_4 (wd10 hw) (by decide) (by decide) (by omega) rfl ⟨(by intro C; simp [newarray.typeOf]), (by intro C; simp [newarray.typeOf])⟩ (Nat.le_of_ble_eq_true rfl) (Nat.le_of_ble_eq_true rfl) rfl rfl rfl ?_
  refine Wk.astoreN (pc' := 7) (Ls' := #[.val (rf hB 0), .val (rf hB 5), .unset, .unset, .unset]) d11_6 rfl rfl rfl ?_
  refine Wk.iconst (pc' := 8) (0 : Int32) d11_7 (by decide) rfl ?_
  refine Wk.istoreN (pc' := 9) (Ls' := #[.val (rf hB 0), .val (rf hB 5), .val (.int (0 : Int32)), .unset, .unset]) d11_8 rfl rfl ?_
  refine Wk.iloadN (pc' := 10) d11_9 rfl rfl ?_
  refine Wk.aloadN (pc' := 11) d11_10 rfl rfl rfl ?_
  refine Wk.getF0 (pc' := 14) (i := 0) (j := 5) d11_11 (wd42 hw) rfl rfl rfl rfl ?_
  refine Wk.icN (pc' := 17) d11_14 (XT.ii_ge_f (by decide)) rfl ?_
  refine Wk.aloadN (pc' := 18) d11_17 rfl rfl rfl ?_
  refine Wk.aloadN (pc' := 19) d11_18 rfl rfl rfl ?_
  refine Wk.getF0 (pc' := 22) (i := 0) (j := 1) d11_19 (wd11 hw) rfl rfl rfl rfl ?_
  refine Wk.iloadN (pc' := 23) d11_22 rfl rfl ?_
  refine Wk.iconst (pc' := 24) (1 : Int32) d11_23 (by decide) rfl ?_
  refine Wk.ixor (pc' := 25) d11_24 rfl ?_
  refine Wk.ialoadG (pc' := 26) (i := 1) d11_25 rfl rfl rfl ?_
  refine Wk.dup2 (pc' := 27) d11_26 rfl rfl rfl ?_
  refine Wk.ialoadG (pc' := 28) (i := 5) d11_27 rfl rfl rfl ?_
  refine Wk.iconst (pc' := 29) (1 : Int32) d11_28 (by decide) rfl ?_
  refine Wk.iadd (pc' := 30) d11_29 rfl ?_
  refine Wk.iastoreG (pc' := 31) (i := 5) (H' := [obj "com/example/redoubt/redoubt/flow/FlowNetwork" ksFN [(.int (3 : Int32)), (rf hB 1), (rf hB 2), (rf hB 3), (rf hB 4), (.int (6 : Int32)), .null], ints [1, 0, 2, 1, 2, 0, 0, 0, 0, 0, 0, 0, 0, 0, 0, 0], ints cap, ints fl, longs cs, ints [1, 0, 0]]) d11_30 rfl rfl rfl rfl ?_
  refine Wk.iinc (pc' := 34) (Ls' := #[.val (rf hB 0), .val (rf hB 5), .val (.int (1 : Int32)), .unset, .unset]) (1 : Int32) d11_31 rfl (by decide) rfl rfl ?_
  refine Wk.goTo (pc' := 9) d11_34 (by decide) (by decide) ?_
  refine Wk.iloadN (pc' := 10) d11_9 rfl rfl ?_
  refine Wk.aloadN (pc' := 11) d11_10 rfl rfl rfl ?_
  refine Wk.getF0 (pc' := 14) (i := 0) (j := 5) d11_11 (wd42 hw) rfl rfl rfl rfl ?_
  refine Wk.icN (pc' := 17) d11_14 (XT.ii_ge_f (by decide)) rfl ?_
  refine Wk.aloadN (pc' := 18) d11_17 rfl rfl rfl ?_
  refine Wk.aloadN (pc' := 19) d11_18 rfl rfl rfl ?_
  refine Wk.getF0 (pc' := 22) (i := 0) (j := 1) d11_19 (wd11 hw) rfl rfl rfl rfl ?_
  refine Wk.iloadN (pc' := 23) d11_22 rfl rfl ?_
  refine Wk.iconst (pc' := 24) (1 : Int32) d11_23 (by decide) rfl ?_
  refine Wk.ixor (pc' := 25) d11_24 rfl ?_
  refine Wk.ialoadG (pc' := 26) (i := 1) d11_25 rfl rfl rfl ?_
  refine Wk.dup2 (pc' := 27) d11_26 rfl rfl rfl ?_
  refine Wk.ialoadG (pc' := 28) (i := 5) d11_27 rfl rfl rfl ?_
  refine Wk.iconst (pc' := 29) (1 : Int32) d11_28 (by decide) rfl ?_
  refine Wk.iadd (pc' := 30) d11_29 rfl ?_
  refine Wk.iastoreG (pc' := 31) (i := 5) (H' := [obj "com/example/redoubt/redoubt/flow/FlowNetwork" ksFN [(.int (3 : Int32)), (rf hB 1), (rf hB 2), (rf hB 3), (rf hB 4), (.int (6 : Int32)), .null], ints [1, 0, 2, 1, 2, 0, 0, 0, 0, 0, 0, 0, 0, 0, 0, 0], ints cap, ints fl, longs cs, ints [1, 1, 0]]) d11_30 rfl rfl rfl rfl ?_
  refine Wk.iinc (pc' := 34) (Ls' := #[.val (rf hB 0), .val (rf hB 5), .val (.int (2 : Int32)), .unset, .unset]) (2 : Int32) d11_31 rfl (by decide) rfl rfl ?_
  refine Wk.goTo (pc' := 9) d11_34 (by decide) (by decide) ?_
  refine Wk.iloadN (pc' := 10) d11_9 rfl rfl ?_
  refine Wk.aloadN (pc' := 11) d11_10 rfl rfl rfl ?_
  refine Wk.getF0 (pc' := 14) (i := 0) (j := 5) d11_11 (wd42 hw) rfl rfl rfl rfl ?_
  refine Wk.icN (pc' := 17) d11_14 (XT.ii_ge_f (by decide)) rfl ?_
  refine Wk.aloadN (pc' := 18) d11_17 rfl rfl rfl ?_
  refine Wk.aloadN (pc' := 19) d11_18 rfl rfl rfl ?_
  refine Wk.getF0 (pc' := 22) (i := 0) (j := 1) d11_19 (wd11 hw) rfl rfl rfl rfl ?_
  refine Wk.iloadN (pc' := 23) d11_22 rfl rfl ?_
  refine Wk.iconst (pc' := 24) (1 : Int32) d11_23 (by decide) rfl ?_
  refine Wk.ixor (pc' := 25) d11_24 rfl ?_
  refine Wk.ialoadG (pc' := 26) (i := 1) d11_25 rfl rfl rfl ?_
  refine Wk.dup2 (pc' := 27) d11_26 rfl rfl rfl ?_
  refine Wk.ialoadG (pc' := 28) (i := 5) d11_27 rfl rfl rfl ?_
  refine Wk.iconst (pc' := 29) (1 : Int32) d11_28 (by decide) rfl ?_
  refine Wk.iadd (pc' := 30) d11_29 rfl ?_
  refine Wk.iastoreG (pc' := 31) (i := 5) (H' := [obj "com/example/redoubt/redoubt/flow/FlowNetwork" ksFN [(.int (3 : Int32)), (rf hB 1), (rf hB 2), (rf hB 3), (rf hB 4), (.int (6 : Int32)), .null], ints [1, 0, 2, 1, 2, 0, 0, 0, 0, 0, 0, 0, 0, 0, 0, 0], ints cap, ints fl, longs cs, ints [1, 2, 0]]) d11_30 rfl rfl rfl rfl ?_
  refine Wk.iinc (pc' := 34) (Ls' := #[.val (rf hB 0), .val (rf hB 5), .val (.int (3 : Int32)), .unset, .unset]) (3 : Int32) d11_31 rfl (by decide) rfl rfl ?_
  refine Wk.goTo (pc' := 9) d11_34 (by decide) (by decide) ?_
  refine Wk.iloadN (pc' := 10) d11_9 rfl rfl ?_
  refine Wk.aloadN (pc' := 11) d11_10 rfl rfl rfl ?_
  refine Wk.getF0 (pc' := 14) (i := 0) (j := 5) d11_11 (wd42 hw) rfl rfl rfl rfl ?_
  refine Wk.icN (pc' := 17) d11_14 (XT.ii_ge_f (by decide)) rfl ?_
  refine Wk.aloadN (pc' := 18) d11_17 rfl rfl rfl ?_
  refine Wk.aloadN (pc' := 19) d11_18 rfl rfl rfl ?_
  refine Wk.getF0 (pc' := 22) (i := 0) (j := 1) d11_19 (wd11 hw) rfl rfl rfl rfl ?_
  refine Wk.iloadN (pc' := 23) d11_22 rfl rfl ?_
  refine Wk.iconst (pc' := 24) (1 : Int32) d11_23 (by decide) rfl ?_
  refine Wk.ixor (pc' := 25) d11_24 rfl ?_
  refine Wk.ialoadG (pc' := 26) (i := 1) d11_25 rfl rfl rfl ?_
  refine Wk.dup2 (pc' := 27) d11_26 rfl rfl rfl ?_
  refine Wk.ialoadG (pc' := 28) (i := 5) d11_27 rfl rfl rfl ?_
  refine Wk.iconst (pc' := 29) (1 : Int32) d11_28 (by decide) rfl ?_
  refine Wk.iadd (pc' := 30) d11_29 rfl ?_
  refine Wk.iastoreG (pc' := 31) (i := 5) (H' := [obj "com/example/redoubt/redoubt/flow/FlowNetwork" ksFN [(.int (3 : Int32)), (rf hB 1), (rf hB 2), (rf hB 3), (rf hB 4), (.int (6 : Int32)), .null], ints [1, 0, 2, 1, 2, 0, 0, 0, 0, 0, 0, 0, 0, 0, 0, 0], ints cap, ints fl, longs cs, ints [1, 2, 1]]) d11_30 rfl rfl rfl rfl ?_
  refine Wk.iinc (pc' := 34) (Ls' := #[.val (rf hB 0), .val (rf hB 5), .val (.int (4 : Int32)), .unset, .unset]) (4 : Int32) d11_31 rfl (by decide) rfl rfl ?_
  refine Wk.goTo (pc' := 9) d11_34 (by decide) (by decide) ?_
  refine Wk.iloadN (pc' := 10) d11_9 rfl rfl ?_
  refine Wk.aloadN (pc' := 11) d11_10 rfl rfl rfl ?_
  refine Wk.getF0 (pc' := 14) (i := 0) (j := 5) d11_11 (wd42 hw) rfl rfl rfl rfl ?_
  refine Wk.icN (pc' := 17) d11_14 (XT.ii_ge_f (by decide)) rfl ?_
  refine Wk.aloadN (pc' := 18) d11_17 rfl rfl rfl ?_
  refine Wk.aloadN (pc' := 19) d11_18 rfl rfl rfl ?_
  refine Wk.getF0 (pc' := 22) (i := 0) (j := 1) d11_19 (wd11 hw) rfl rfl rfl rfl ?_
  refine Wk.iloadN (pc' := 23) d11_22 rfl rfl ?_
  refine Wk.iconst (pc' := 24) (1 : Int32) d11_23 (by decide) rfl ?_
  refine Wk.ixor (pc' := 25) d11_24 rfl ?_
  refine Wk.ialoadG (pc' := 26) (i := 1) d11_25 rfl rfl rfl ?_
  refine Wk.dup2 (pc' := 27) d11_26 rfl rfl rfl ?_
  refine Wk.ialoadG (pc' := 28) (i := 5) d11_27 rfl rfl rfl ?_
  refine Wk.iconst (pc' := 29) (1 : Int32) d11_28 (by decide) rfl ?_
  refine Wk.iadd (pc' := 30) d11_29 rfl ?_
  refine Wk.iastoreG (pc' := 31) (i := 5) (H' := [obj "com/example/redoubt/redoubt/flow/FlowNetwork" ksFN [(.int (3 : Int32)), (rf hB 1), (rf hB 2), (rf hB 3), (rf hB 4), (.int (6 : Int32)), .null], ints [1, 0, 2, 1, 2, 0, 0, 0, 0, 0, 0, 0, 0, 0, 0, 0], ints cap, ints fl, longs cs, ints [2, 2, 1]]) d11_30 rfl rfl rfl rfl ?_
  refine Wk.iinc (pc' := 34) (Ls' := #[.val (rf hB 0), .val (rf hB 5), .val (.int (5 : Int32)), .unset, .unset]) (5 : Int32) d11_31 rfl (by decide) rfl rfl ?_
  refine Wk.goTo (pc' := 9) d11_34 (by decide) (by decide) ?_
  refine Wk.iloadN (pc' := 10) d11_9 rfl rfl ?_
  refine Wk.aloadN (pc' := 11) d11_10 rfl rfl rfl ?_
  refine Wk.getF0 (pc' := 14) (i := 0) (j := 5) d11_11 (wd42 hw) rfl rfl rfl rfl ?_
  refine Wk.icN (pc' := 17) d11_14 (XT.ii_ge_f (by decide)) rfl ?_
  refine Wk.aloadN (pc' := 18) d11_17 rfl rfl rfl ?_
  refine Wk.aloadN (pc' := 19) d11_18 rfl rfl rfl ?_
  refine Wk.getF0 (pc' := 22) (i := 0) (j := 1) d11_19 (wd11 hw) rfl rfl rfl rfl ?_
  refine Wk.iloadN (pc' := 23) d11_22 rfl rfl ?_
  refine Wk.iconst (pc' := 24) (1 : Int32) d11_23 (by decide) rfl ?_
  refine Wk.ixor (pc' := 25) d11_24 rfl ?_
  refine Wk.ialoadG (pc' := 26) (i := 1) d11_25 rfl rfl rfl ?_
  refine Wk.dup2 (pc' := 27) d11_26 rfl rfl rfl ?_
  refine Wk.ialoadG (pc' := 28) (i := 5) d11_27 rfl rfl rfl ?_
  refine Wk.iconst (pc' := 29) (1 : Int32) d11_28 (by decide) rfl ?_
  refine Wk.iadd (pc' := 30) d11_29 rfl ?_
  refine Wk.iastoreG (pc' := 31) (i := 5) (H' := [obj "com/example/redoubt/redoubt/flow/FlowNetwork" ksFN [(.int (3 : Int32)), (rf hB 1), (rf hB 2), (rf hB 3), (rf hB 4), (.int (6 : Int32)), .null], ints [1, 0, 2, 1, 2, 0, 0, 0, 0, 0, 0, 0, 0, 0, 0, 0], ints cap, ints fl, longs cs, ints [2, 2, 2]]) d11_30 rfl rfl rfl rfl ?_
  refine Wk.iinc (pc' := 34) (Ls' := #[.val (rf hB 0), .val (rf hB 5), .val (.int (6 : Int32)), .unset, .unset]) (6 : Int32) d11_31 rfl (by decide) rfl rfl ?_
  refine Wk.goTo (pc' := 9) d11_34 (by decide) (by decide) ?_
  refine Wk.iloadN (pc' := 10) d11_9 rfl rfl ?_
  refine Wk.aloadN (pc' := 11) d11_10 rfl rfl rfl ?_
  refine Wk.getF0 (pc' := 14) (i := 0) (j := 5) d11_11 (wd42 hw) rfl rfl rfl rfl ?_
  refine Wk.icY (pc' := 37) d11_14 (XT.ii_ge_t (by decide)) (by decide) (by decide) ?_
  refine Wk.aloadN (pc' := 38) d11_37 rfl rfl rfl ?_
  refine Wk.getF0 (pc' := 41) (i := 0) (j := 0) d11_38 (wd20 hw) rfl rfl rfl rfl ?_
  refine Wk.newRefA (pc' := 44) (ty := .int) (C := "[I") (i := 6) (nn := 3) (H' := [obj "com/example/redoubt/redoubt/flow/FlowNetwork" ksFN [(.int (3 : Int32)), (rf hB 1), (rf hB 2), (rf hB 3), (rf hB 4), (.int (6 : Int32)), .null], ints [1, 0, 2, 1, 2, 0, 0, 0, 0, 0, 0, 0, 0, 0, 0, 0], ints cap, ints fl, longs cs, ints [2, 2, 2], arr (.array .int) [.null, .null, .null]]) d11_41 rfl (wd68 hw) (wd69 hw) (by decide) (by decide) (by omega) (Nat.le_of_ble_eq_true rfl) (Nat.le_of_ble_eq_true rfl) rfl rfl rfl ?_
  refine Wk.astoreN (pc' := 45) (Ls' := #[.val (rf hB 0), .val (rf hB 5), .val (rf hB 6), .unset, .unset]) d11_44 rfl rfl rfl ?_
  refine Wk.iconst (pc' := 46) (0 : Int32) d11_45 (by decide) rfl ?_
  refine Wk.istoreN (pc' := 47) (Ls' := #[.val (rf hB 0), .val (rf hB 5), .val (rf hB 6), .val (.int (0 : Int32)), .unset]) d11_46 rfl rfl ?_
  refine Wk.iloadN (pc' := 48) d11_47 rfl rfl ?_
  refine Wk.aloadN (pc' := 49) d11_48 rfl rfl rfl ?_
  refine Wk.getF0 (pc' := 52) (i := 0) (j := 0) d11_49 (wd20 hw) rfl rfl rfl rfl ?_
  refine Wk.icN (pc' := 55) d11_52 (XT.ii_ge_f (by decide)) rfl ?_
  refine Wk.aloadN (pc' := 56) d11_55 rfl rfl rfl ?_
  refine Wk.iloadN (pc' := 57) d11_56 rfl rfl ?_
  refine Wk.aloadN (pc' := 58) d11_57 rfl rfl rfl ?_
  refine Wk.iloadN (pc' := 59) d11_58 rfl rfl ?_
  refine Wk.ialoadG (pc' := 60) (i := 5) d11_59 rfl rfl rfl ?_
  refine Wk.newArr (pc' := 62) (i := 7) (nn := 2) (H' := [obj "com/example/redoubt/redoubt/flow/FlowNetwork" ksFN [(.int (3 : Int32)), (rf hB 1), (rf hB 2), (rf hB 3), (rf hB 4), (.int (6 : Int32)), .null], ints [1, 0, 2, 1, 2, 0, 0, 0, 0, 0, 0, 0, 0, 0, 0, 0], ints cap, ints fl, longs cs, ints [2, 2, 2], arr (.array .int) [.null, .null, .null], ints [0, 0]]) d11_60 (wd10 hw) (by decide) (by decide) (by omega) rfl ⟨(by intro C; simp [newarray.typeOf]), (by intro C; simp [newarray.typeOf])⟩ (Nat.le_of_ble_eq_true rfl) (Nat.le_of_ble_eq_true rfl) rfl rfl rfl ?_
  refine Wk.aastore (pc' := 63) (i := 6) (jn := 0) (H' := [obj "com/example/redoubt/redoubt/flow/FlowNetwork" ksFN [(.int (3 : Int32)), (rf hB 1), (rf hB 2), (rf hB 3), (rf hB 4), (.int (6 : Int32)), .null], ints [1, 0, 2, 1, 2, 0, 0, 0, 0, 0, 0, 0, 0, 0, 0, 0], ints cap, ints fl, longs cs, ints [2, 2, 2], arr (.array .int) [(rf hB 7), .null, .null], ints [0, 0]]) d11_62 rfl rfl (fun _ P => Wk.stoA P rfl rfl (Ins.self (P.exaA (C := "[I") rfl rfl))) rfl (by decide) (by decide) (Nat.le_of_ble_eq_true rfl) rfl rfl ?_
  refine Wk.aloadN (pc' := 64) d11_63 rfl rfl rfl ?_
  refine Wk.iloadN (pc' := 65) d11_64 rfl rfl ?_
  refine Wk.iconst (pc' := 66) (0 : Int32) d11_65 (by decide) rfl ?_
  refine Wk.iastoreG (pc' := 67) (i := 5) (H' := [obj "com/example/redoubt/redoubt/flow/FlowNetwork" ksFN [(.int (3 : Int32)), (rf hB 1), (rf hB 2), (rf hB 3), (rf hB 4), (.int (6 : Int32)), .null], ints [1, 0, 2, 1, 2, 0, 0, 0, 0, 0, 0, 0, 0, 0, 0, 0], ints cap, ints fl, longs cs, ints [0, 2, 2], arr (.array .int) [(rf hB 7), .null, .null], ints [0, 0]]) d11_66 rfl rfl rfl rfl ?_
  refine Wk.iinc (pc' := 70) (Ls' := #[.val (rf hB 0), .val (rf hB 5), .val (rf hB 6), .val (.int (1 : Int32)), .unset]) (1 : Int32) d11_67 rfl (by decide) rfl rfl ?_
  refine Wk.goTo (pc' := 47) d11_70 (by decide) (by decide) ?_
  refine Wk.iloadN (pc' := 48) d11_47 rfl rfl ?_
  refine Wk.aloadN (pc' := 49) d11_48 rfl rfl rfl ?_
  refine Wk.getF0 (pc' := 52) (i := 0) (j := 0) d11_49 (wd20 hw) rfl rfl rfl rfl ?_
  refine Wk.icN (pc' := 55) d11_52 (XT.ii_ge_f (by decide)) rfl ?_
  refine Wk.aloadN (pc' := 56) d11_55 rfl rfl rfl ?_
  refine Wk.iloadN (pc' := 57) d11_56 rfl rfl ?_
  refine Wk.aloadN (pc' := 58) d11_57 rfl rfl rfl ?_
  refine Wk.iloadN (pc' := 59) d11_58 rfl rfl ?_
  refine Wk.ialoadG (pc' := 60) (i := 5) d11_59 rfl rfl rfl ?_
  refine Wk.newArr (pc' := 62) (i := 8) (nn := 2) (H' := [obj "com/example/redoubt/redoubt/flow/FlowNetwork" ksFN [(.int (3 : Int32)), (rf hB 1), (rf hB 2), (rf hB 3), (rf hB 4), (.int (6 : Int32)), .null], ints [1, 0, 2, 1, 2, 0, 0, 0, 0, 0, 0, 0, 0, 0, 0, 0], ints cap, ints fl, longs cs, ints [0, 2, 2], arr (.array .int) [(rf hB 7), .null, .null], ints [0, 0], ints [0, 0]]) d11_60 (wd10 hw) (by decide) (by decide) (by omega) rfl ⟨(by intro C; simp [newarray.typeOf]), (by intro C; simp [newarray.typeOf])⟩ (Nat.le_of_ble_eq_true rfl) (Nat.le_of_ble_eq_true rfl) rfl rfl rfl ?_
  refine Wk.aastore (pc' := 63) (i := 6) (jn := 1) (H' := [obj "com/example/redoubt/redoubt/flow/FlowNetwork" ksFN [(.int (3 : Int32)), (rf hB 1), (rf hB 2), (rf hB 3), (rf hB 4), (.int (6 : Int32)), .null], ints [1, 0, 2, 1, 2, 0, 0, 0, 0, 0, 0, 0, 0, 0, 0, 0], ints cap, ints fl, longs cs, ints [0, 2, 2], arr (.array .int) [(rf hB 7), (rf hB 8), .null], ints [0, 0], ints [0, 0]]) d11_62 rfl rfl (fun _ P => Wk.stoA P rfl rfl (Ins.self (P.exaA (C := "[I") rfl rfl))) rfl (by decide) (by decide) (Nat.le_of_ble_eq_true rfl) rfl rfl ?_
  refine Wk.aloadN (pc' := 64) d11_63 rfl rfl rfl ?_
  refine Wk.iloadN (pc' := 65) d11_64 rfl rfl ?_
  refine Wk.iconst (pc' := 66) (0 : Int32) d11_65 (by decide) rfl ?_
  refine Wk.iastoreG (pc' := 67) (i := 5) (H' := [obj "com/example/redoubt/redoubt/flow/FlowNetwork" ksFN [(.int (3 : Int32)), (rf hB 1), (rf hB 2), (rf hB 3), (rf hB 4), (.int (6 : Int32)), .null], ints [1, 0, 2, 1, 2, 0, 0, 0, 0, 0, 0, 0, 0, 0, 0, 0], ints cap, ints fl, longs cs, ints [0, 0, 2], arr (.array .int) [(rf hB 7), (rf hB 8), .null], ints [0, 0], ints [0, 0]]) d11_66 rfl rfl rfl rfl ?_
  refine Wk.iinc (pc' := 70) (Ls' := #[.val (rf hB 0), .val (rf hB 5), .val (rf hB 6), .val (.int (2 : Int32)), .unset]) (2 : Int32) d11_67 rfl (by decide) rfl rfl ?_
  refine Wk.goTo (pc' := 47) d11_70 (by decide) (by decide) ?_
  refine Wk.iloadN (pc' := 48) d11_47 rfl rfl ?_
  refine Wk.aloadN (pc' := 49) d11_48 rfl rfl rfl ?_
  refine Wk.getF0 (pc' := 52) (i := 0) (j := 0) d11_49 (wd20 hw) rfl rfl rfl rfl ?_
  refine Wk.icN (pc' := 55) d11_52 (XT.ii_ge_f (by decide)) rfl ?_
  refine Wk.aloadN (pc' := 56) d11_55 rfl rfl rfl ?_
  refine Wk.iloadN (pc' := 57) d11_56 rfl rfl ?_
  refine Wk.aloadN (pc' := 58) d11_57 rfl rfl rfl ?_
  refine Wk.iloadN (pc' := 59) d11_58 rfl rfl ?_
  refine Wk.ialoadG (pc' := 60) (i := 5) d11_59 rfl rfl rfl ?_
  refine Wk.newArr (pc' := 62) (i := 9) (nn := 2) (H' := [obj "com/example/redoubt/redoubt/flow/FlowNetwork" ksFN [(.int (3 : Int32)), (rf hB 1), (rf hB 2), (rf hB 3), (rf hB 4), (.int (6 : Int32)), .null], ints [1, 0, 2, 1, 2, 0, 0, 0, 0, 0, 0, 0, 0, 0, 0, 0], ints cap, ints fl, longs cs, ints [0, 0, 2], arr (.array .int) [(rf hB 7), (rf hB 8), .null], ints [0, 0], ints [0, 0], ints [0, 0]]) d11_60 (wd10 hw) (by decide) (by decide) (by omega) rfl ⟨(by intro C; simp [newarray.typeOf]), (by intro C; simp [newarray.typeOf])⟩ (Nat.le_of_ble_eq_true rfl) (Nat.le_of_ble_eq_true rfl) rfl rfl rfl ?_
  refine Wk.aastore (pc' := 63) (i := 6) (jn := 2) (H' := [obj "com/example/redoubt/redoubt/flow/FlowNetwork" ksFN [(.int (3 : Int32)), (rf hB 1), (rf hB 2), (rf hB 3), (rf hB 4), (.int (6 : Int32)), .null], ints [1, 0, 2, 1, 2, 0, 0, 0, 0, 0, 0, 0, 0, 0, 0, 0], ints cap, ints fl, longs cs, ints [0, 0, 2], arr (.array .int) [(rf hB 7), (rf hB 8), (rf hB 9)], ints [0, 0], ints [0, 0], ints [0, 0]]) d11_62 rfl rfl (fun _ P => Wk.stoA P rfl rfl (Ins.self (P.exaA (C := "[I") rfl rfl))) rfl (by decide) (by decide) (Nat.le_of_ble_eq_true rfl) rfl rfl ?_
  refine Wk.aloadN (pc' := 64) d11_63 rfl rfl rfl ?_
  refine Wk.iloadN (pc' := 65) d11_64 rfl rfl ?_
  refine Wk.iconst (pc' := 66) (0 : Int32) d11_65 (by decide) rfl ?_
  refine Wk.iastoreG (pc' := 67) (i := 5) (H' := [obj "com/example/redoubt/redoubt/flow/FlowNetwork" ksFN [(.int (3 : Int32)), (rf hB 1), (rf hB 2), (rf hB 3), (rf hB 4), (.int (6 : Int32)), .null], ints [1, 0, 2, 1, 2, 0, 0, 0, 0, 0, 0, 0, 0, 0, 0, 0], ints cap, ints fl, longs cs, ints [0, 0, 0], arr (.array .int) [(rf hB 7), (rf hB 8), (rf hB 9)], ints [0, 0], ints [0, 0], ints [0, 0]]) d11_66 rfl rfl rfl rfl ?_
  refine Wk.iinc (pc' := 70) (Ls' := #[.val (rf hB 0), .val (rf hB 5), .val (rf hB 6), .val (.int (3 : Int32)), .unset]) (3 : Int32) d11_67 rfl (by decide) rfl rfl ?_
  refine Wk.goTo (pc' := 47) d11_70 (by decide) (by decide) ?_
  refine Wk.iloadN (pc' := 48) d11_47 rfl rfl ?_
  refine Wk.aloadN (pc' := 49) d11_48 rfl rfl rfl ?_
  refine Wk.getF0 (pc' := 52) (i := 0) (j := 0) d11_49 (wd20 hw) rfl rfl rfl rfl ?_
  refine Wk.icY (pc' := 73) d11_52 (XT.ii_ge_t (by decide)) (by decide) (by decide) ?_
  refine Wk.iconst (pc' := 74) (0 : Int32) d11_73 (by decide) rfl ?_
  refine Wk.istoreN (pc' := 75) (Ls' := #[.val (rf hB 0), .val (rf hB 5), .val (rf hB 6), .val (.int (0 : Int32)), .unset]) d11_74 rfl rfl ?_
  refine Wk.iloadN (pc' := 76) d11_75 rfl rfl ?_
  refine Wk.aloadN (pc' := 77) d11_76 rfl rfl rfl ?_
  refine Wk.getF0 (pc' := 80) (i := 0) (j := 5) d11_77 (wd42 hw) rfl rfl rfl rfl ?_
  refine Wk.icN (pc' := 83) d11_80 (XT.ii_ge_f (by decide)) rfl ?_
  refine Wk.aloadN (pc' := 84) d11_83 rfl rfl rfl ?_
  refine Wk.getF0 (pc' := 87) (i := 0) (j := 1) d11_84 (wd11 hw) rfl rfl rfl rfl ?_
  refine Wk.iloadN (pc' := 88) d11_87 rfl rfl ?_
  refine Wk.iconst (pc' := 89) (1 : Int32) d11_88 (by decide) rfl ?_
  refine Wk.ixor (pc' := 90) d11_89 rfl ?_
  refine Wk.ialoadG (pc' := 91) (i := 1) d11_90 rfl rfl rfl ?_
  refine Wk.istore (pc' := 93) (Ls' := #[.val (rf hB 0), .val (rf hB 5), .val (rf hB 6), .val (.int (0 : Int32)), .val (.int (0 : Int32))]) d11_91 rfl rfl ?_
  refine Wk.aloadN (pc' := 94) d11_93 rfl rfl rfl ?_
  refine Wk.iload (pc' := 96) d11_94 rfl rfl ?_
  refine Wk.aaload (pc' := 97) (i := 6) (jn := 0) (v := (rf hB 7)) d11_96 rfl rfl (by decide) (by decide) rfl rfl ?_
  refine Wk.aloadN (pc' := 98) d11_97 rfl rfl rfl ?_
  refine Wk.iload (pc' := 100) d11_98 rfl rfl ?_
  refine Wk.dup2 (pc' := 101) d11_100 rfl rfl rfl ?_
  refine Wk.ialoadG (pc' := 102) (i := 5) d11_101 rfl rfl rfl ?_
  refine Wk.dupX2 (pc' := 103) d11_102 rfl rfl rfl rfl ?_
  refine Wk.iconst (pc' := 104) (1 : Int32) d11_103 (by decide) rfl ?_
  refine Wk.iadd (pc' := 105) d11_104 rfl ?_
  refine Wk.iastoreG (pc' := 106) (i := 5) (H' := [obj "com/example/redoubt/redoubt/flow/FlowNetwork" ksFN [(.int (3 : Int32)), (rf hB 1), (rf hB 2), (rf hB 3), (rf hB 4), (.int (6 : Int32)), .null], ints [1, 0, 2, 1, 2, 0, 0, 0, 0, 0, 0, 0, 0, 0, 0, 0], ints cap, ints fl, longs cs, ints [1, 0, 0], arr (.array .int) [(rf hB 7), (rf hB 8), (rf hB 9)], ints [0, 0], ints [0, 0], ints [0, 0]]) d11_105 rfl rfl rfl rfl ?_
  refine Wk.iloadN (pc' := 107) d11_106 rfl rfl ?_
  refine Wk.iastoreG (pc' := 108) (i := 7) (H' := [obj "com/example/redoubt/redoubt/flow/FlowNetwork" ksFN [(.int (3 : Int32)), (rf hB 1), (rf hB 2), (rf hB 3), (rf hB 4), (.int (6 : Int32)), .null], ints [1, 0, 2, 1, 2, 0, 0, 0, 0, 0, 0, 0, 0, 0, 0, 0], ints cap, ints fl, longs cs, ints [1, 0, 0], arr (.array .int) [(rf hB 7), (rf hB 8), (rf hB 9)], ints [0, 0], ints [0, 0], ints [0, 0]]) d11_107 rfl rfl rfl rfl ?_
  refine Wk.iinc (pc' := 111) (Ls' := #[.val (rf hB 0), .val (rf hB 5), .val (rf hB 6), .val (.int (1 : Int32)), .val (.int (0 : Int32))]) (1 : Int32) d11_108 rfl (by decide) rfl rfl ?_
  refine Wk.goTo (pc' := 75) d11_111 (by decide) (by decide) ?_
  refine Wk.iloadN (pc' := 76) d11_75 rfl rfl ?_
  refine Wk.aloadN (pc' := 77) d11_76 rfl rfl rfl ?_
  refine Wk.getF0 (pc' := 80) (i := 0) (j := 5) d11_77 (wd42 hw) rfl rfl rfl rfl ?_
  refine Wk.icN (pc' := 83) d11_80 (XT.ii_ge_f (by decide)) rfl ?_
  refine Wk.aloadN (pc' := 84) d11_83 rfl rfl rfl ?_
  refine Wk.getF0 (pc' := 87) (i := 0) (j := 1) d11_84 (wd11 hw) rfl rfl rfl rfl ?_
  refine Wk.iloadN (pc' := 88) d11_87 rfl rfl ?_
  refine Wk.iconst (pc' := 89) (1 : Int32) d11_88 (by decide) rfl ?_
  refine Wk.ixor (pc' := 90) d11_89 rfl ?_
  refine Wk.ialoadG (pc' := 91) (i := 1) d11_90 rfl rfl rfl ?_
  refine Wk.istore (pc' := 93) (Ls' := #[.val (rf hB 0), .val (rf hB 5), .val (rf hB 6), .val (.int (1 : Int32)), .val (.int (1 : Int32))]) d11_91 rfl rfl ?_
  refine Wk.aloadN (pc' := 94) d11_93 rfl rfl rfl ?_
  refine Wk.iload (pc' := 96) d11_94 rfl rfl ?_
  refine Wk.aaload (pc' := 97) (i := 6) (jn := 1) (v := (rf hB 8)) d11_96 rfl rfl (by decide) (by decide) rfl rfl ?_
  refine Wk.aloadN (pc' := 98) d11_97 rfl rfl rfl ?_
  refine Wk.iload (pc' := 100) d11_98 rfl rfl ?_
  refine Wk.dup2 (pc' := 101) d11_100 rfl rfl rfl ?_
  refine Wk.ialoadG (pc' := 102) (i := 5) d11_101 rfl rfl rfl ?_
  refine Wk.dupX2 (pc' := 103) d11_102 rfl rfl rfl rfl ?_
  refine Wk.iconst (pc' := 104) (1 : Int32) d11_103 (by decide) rfl ?_
  refine Wk.iadd (pc' := 105) d11_104 rfl ?_
  refine Wk.iastoreG (pc' := 106) (i := 5) (H' := [obj "com/example/redoubt/redoubt/flow/FlowNetwork" ksFN [(.int (3 : Int32)), (rf hB 1), (rf hB 2), (rf hB 3), (rf hB 4), (.int (6 : Int32)), .null], ints [1, 0, 2, 1, 2, 0, 0, 0, 0, 0, 0, 0, 0, 0, 0, 0], ints cap, ints fl, longs cs, ints [1, 1, 0], arr (.array .int) [(rf hB 7), (rf hB 8), (rf hB 9)], ints [0, 0], ints [0, 0], ints [0, 0]]) d11_105 rfl rfl rfl rfl ?_
  refine Wk.iloadN (pc' := 107) d11_106 rfl rfl ?_
  refine Wk.iastoreG (pc' := 108) (i := 8) (H' := [obj "com/example/redoubt/redoubt/flow/FlowNetwork" ksFN [(.int (3 : Int32)), (rf hB 1), (rf hB 2), (rf hB 3), (rf hB 4), (.int (6 : Int32)), .null], ints [1, 0, 2, 1, 2, 0, 0, 0, 0, 0, 0, 0, 0, 0, 0, 0], ints cap, ints fl, longs cs, ints [1, 1, 0], arr (.array .int) [(rf hB 7), (rf hB 8), (rf hB 9)], ints [0, 0], ints [1, 0], ints [0, 0]]) d11_107 rfl rfl rfl rfl ?_
  refine Wk.iinc (pc' := 111) (Ls' := #[.val (rf hB 0), .val (rf hB 5), .val (rf hB 6), .val (.int (2 : Int32)), .val (.int (1 : Int32))]) (2 : Int32) d11_108 rfl (by decide) rfl rfl ?_
  refine Wk.goTo (pc' := 75) d11_111 (by decide) (by decide) ?_
  refine Wk.iloadN (pc' := 76) d11_75 rfl rfl ?_
  refine Wk.aloadN (pc' := 77) d11_76 rfl rfl rfl ?_
  refine Wk.getF0 (pc' := 80) (i := 0) (j := 5) d11_77 (wd42 hw) rfl rfl rfl rfl ?_
  refine Wk.icN (pc' := 83) d11_80 (XT.ii_ge_f (by decide)) rfl ?_
  refine Wk.aloadN (pc' := 84) d11_83 rfl rfl rfl ?_
  refine Wk.getF0 (pc' := 87) (i := 0) (j := 1) d11_84 (wd11 hw) rfl rfl rfl rfl ?_
  refine Wk.iloadN (pc' := 88) d11_87 rfl rfl ?_
  refine Wk.iconst (pc' := 89) (1 : Int32) d11_88 (by decide) rfl ?_
  refine Wk.ixor (pc' := 90) d11_89 rfl ?_
  refine Wk.ialoadG (pc' := 91) (i := 1) d11_90 rfl rfl rfl ?_
  refine Wk.istore (pc' := 93) (Ls' := #[.val (rf hB 0), .val (rf hB 5), .val (rf hB 6), .val (.int (2 : Int32)), .val (.int (1 : Int32))]) d11_91 rfl rfl ?_
  refine Wk.aloadN (pc' := 94) d11_93 rfl rfl rfl ?_
  refine Wk.iload (pc' := 96) d11_94 rfl rfl ?_
  refine Wk.aaload (pc' := 97) (i := 6) (jn := 1) (v := (rf hB 8)) d11_96 rfl rfl (by decide) (by decide) rfl rfl ?_
  refine Wk.aloadN (pc' := 98) d11_97 rfl rfl rfl ?_
  refine Wk.iload (pc' := 100) d11_98 rfl rfl ?_
  refine Wk.dup2 (pc' := 101) d11_100 rfl rfl rfl ?_
  refine Wk.ialoadG (pc' := 102) (i := 5) d11_101 rfl rfl rfl ?_
  refine Wk.dupX2 (pc' := 103) d11_102 rfl rfl rfl rfl ?_
  refine Wk.iconst (pc' := 104) (1 : Int32) d11_103 (by decide) rfl ?_
  refine Wk.iadd (pc' := 105) d11_104 rfl ?_
  refine Wk.iastoreG (pc' := 106) (i := 5) (H' := [obj "com/example/redoubt/redoubt/flow/FlowNetwork" ksFN [(.int (3 : Int32)), (rf hB 1), (rf hB 2), (rf hB 3), (rf hB 4), (.int (6 : Int32)), .null], ints [1, 0, 2, 1, 2, 0, 0, 0, 0, 0, 0, 0, 0, 0, 0, 0], ints cap, ints fl, longs cs, ints [1, 2, 0], arr (.array .int) [(rf hB 7), (rf hB 8), (rf hB 9)], ints [0, 0], ints [1, 0], ints [0, 0]]) d11_105 rfl rfl rfl rfl ?_
  refine Wk.iloadN (pc' := 107) d11_106 rfl rfl ?_
  refine Wk.iastoreG (pc' := 108) (i := 8) (H' := [obj "com/example/redoubt/redoubt/flow/FlowNetwork" ksFN [(.int (3 : Int32)), (rf hB 1), (rf hB 2), (rf hB 3), (rf hB 4), (.int (6 : Int32)), .null], ints [1, 0, 2, 1, 2, 0, 0, 0, 0, 0, 0, 0, 0, 0, 0, 0], ints cap, ints fl, longs cs, ints [1, 2, 0], arr (.array .int) [(rf hB 7), (rf hB 8), (rf hB 9)], ints [0, 0], ints [1, 2], ints [0, 0]]) d11_107 rfl rfl rfl rfl ?_
  refine Wk.iinc (pc' := 111) (Ls' := #[.val (rf hB 0), .val (rf hB 5), .val (rf hB 6), .val (.int (3 : Int32)), .val (.int (1 : Int32))]) (3 : Int32) d11_108 rfl (by decide) rfl rfl ?_
  refine Wk.goTo (pc' := 75) d11_111 (by decide) (by decide) ?_
  refine Wk.iloadN (pc' := 76) d11_75 rfl rfl ?_
  refine Wk.aloadN (pc' := 77) d11_76 rfl rfl rfl ?_
  refine Wk.getF0 (pc' := 80) (i := 0) (j := 5) d11_77 (wd42 hw) rfl rfl rfl rfl ?_
  refine Wk.icN (pc' := 83) d11_80 (XT.ii_ge_f (by decide)) rfl ?_
  refine Wk.aloadN (pc' := 84) d11_83 rfl rfl rfl ?_
  refine Wk.getF0 (pc' := 87) (i := 0) (j := 1) d11_84 (wd11 hw) rfl rfl rfl rfl ?_
  refine Wk.iloadN (pc' := 88) d11_87 rfl rfl ?_
  refine Wk.iconst (pc' := 89) (1 : Int32) d11_88 (by decide) rfl ?_
  refine Wk.ixor (pc' := 90) d11_89 rfl ?_
  refine Wk.ialoadG (pc' := 91) (i := 1) d11_90 rfl rfl rfl ?_
  refine Wk.istore (pc' := 93) (Ls' := #[.val (rf hB 0), .val (rf hB 5), .val (rf hB 6), .val (.int (3 : Int32)), .val (.int (2 : Int32))]) d11_91 rfl rfl ?_
  refine Wk.aloadN (pc' := 94) d11_93 rfl rfl rfl ?_
  refine Wk.iload (pc' := 96) d11_94 rfl rfl ?_
  refine Wk.aaload (pc' := 97) (i := 6) (jn := 2) (v := (rf hB 9)) d11_96 rfl rfl (by decide) (by decide) rfl rfl ?_
  refine Wk.aloadN (pc' := 98) d11_97 rfl rfl rfl ?_
  refine Wk.iload (pc' := 100) d11_98 rfl rfl ?_
  refine Wk.dup2 (pc' := 101) d11_100 rfl rfl rfl ?_
  refine Wk.ialoadG (pc' := 102) (i := 5) d11_101 rfl rfl rfl ?_
  refine Wk.dupX2 (pc' := 103) d11_102 rfl rfl rfl rfl ?_
  refine Wk.iconst (pc' := 104) (1 : Int32) d11_103 (by decide) rfl ?_
  refine Wk.iadd (pc' := 105) d11_104 rfl ?_
  refine Wk.iastoreG (pc' := 106) (i := 5) (H' := [obj "com/example/redoubt/redoubt/flow/FlowNetwork" ksFN [(.int (3 : Int32)), (rf hB 1), (rf hB 2), (rf hB 3), (rf hB 4), (.int (6 : Int32)), .null], ints [1, 0, 2, 1, 2, 0, 0, 0, 0, 0, 0, 0, 0, 0, 0, 0], ints cap, ints fl, longs cs, ints [1, 2, 1], arr (.array .int) [(rf hB 7), (rf hB 8), (rf hB 9)], ints [0, 0], ints [1, 2], ints [0, 0]]) d11_105 rfl rfl rfl rfl ?_
  refine Wk.iloadN (pc' := 107) d11_106 rfl rfl ?_
  refine Wk.iastoreG (pc' := 108) (i := 9) (H' := [obj "com/example/redoubt/redoubt/flow/FlowNetwork" ksFN [(.int (3 : Int32)), (rf hB 1), (rf hB 2), (rf hB 3), (rf hB 4), (.int (6 : Int32)), .null], ints [1, 0, 2, 1, 2, 0, 0, 0, 0, 0, 0, 0, 0, 0, 0, 0], ints cap, ints fl, longs cs, ints [1, 2, 1], arr (.array .int) [(rf hB 7), (rf hB 8), (rf hB 9)], ints [0, 0], ints [1, 2], ints [3, 0]]) d11_107 rfl rfl rfl rfl ?_
  refine Wk.iinc (pc' := 111) (Ls' := #[.val (rf hB 0), .val (rf hB 5), .val (rf hB 6), .val (.int (4 : Int32)), .val (.int (2 : Int32))]) (4 : Int32) d11_108 rfl (by decide) rfl rfl ?_
  refine Wk.goTo (pc' := 75) d11_111 (by decide) (by decide) ?_
  refine Wk.iloadN (pc' := 76) d11_75 rfl rfl ?_
  refine Wk.aloadN (pc' := 77) d11_76 rfl rfl rfl ?_
  refine Wk.getF0 (pc' := 80) (i := 0) (j := 5) d11_77 (wd42 hw) rfl rfl rfl rfl ?_
  refine Wk.icN (pc' := 83) d11_80 (XT.ii_ge_f (by decide)) rfl ?_
  refine Wk.aloadN (pc' := 84) d11_83 rfl rfl rfl ?_
  refine Wk.getF0 (pc' := 87) (i := 0) (j := 1) d11_84 (wd11 hw) rfl rfl rfl rfl ?_
  refine Wk.iloadN (pc' := 88) d11_87 rfl rfl ?_
  refine Wk.iconst (pc' := 89) (1 : Int32) d11_88 (by decide) rfl ?_
  refine Wk.ixor (pc' := 90) d11_89 rfl ?_
  refine Wk.ialoadG (pc' := 91) (i := 1) d11_90 rfl rfl rfl ?_
  refine Wk.istore (pc' := 93) (Ls' := #[.val (rf hB 0), .val (rf hB 5), .val (rf hB 6), .val (.int (4 : Int32)), .val (.int (0 : Int32))]) d11_91 rfl rfl ?_
  refine Wk.aloadN (pc' := 94) d11_93 rfl rfl rfl ?_
  refine Wk.iload (pc' := 96) d11_94 rfl rfl ?_
  refine Wk.aaload (pc' := 97) (i := 6) (jn := 0) (v := (rf hB 7)) d11_96 rfl rfl (by decide) (by decide) rfl rfl ?_
  refine Wk.aloadN (pc' := 98) d11_97 rfl rfl rfl ?_
  refine Wk.iload (pc' := 100) d11_98 rfl rfl ?_
  refine Wk.dup2 (pc' := 101) d11_100 rfl rfl rfl ?_
  refine Wk.ialoadG (pc' := 102) (i := 5) d11_101 rfl rfl rfl ?_
  refine Wk.dupX2 (pc' := 103) d11_102 rfl rfl rfl rfl ?_
  refine Wk.iconst (pc' := 104) (1 : Int32) d11_103 (by decide) rfl ?_
  refine Wk.iadd (pc' := 105) d11_104 rfl ?_
  refine Wk.iastoreG (pc' := 106) (i := 5) (H' := [obj "com/example/redoubt/redoubt/flow/FlowNetwork" ksFN [(.int (3 : Int32)), (rf hB 1), (rf hB 2), (rf hB 3), (rf hB 4), (.int (6 : Int32)), .null], ints [1, 0, 2, 1, 2, 0, 0, 0, 0, 0, 0, 0, 0, 0, 0, 0], ints cap, ints fl, longs cs, ints [2, 2, 1], arr (.array .int) [(rf hB 7), (rf hB 8), (rf hB 9)], ints [0, 0], ints [1, 2], ints [3, 0]]) d11_105 rfl rfl rfl rfl ?_
  refine Wk.iloadN (pc' := 107) d11_106 rfl rfl ?_
  refine Wk.iastoreG (pc' := 108) (i := 7) (H' := [obj "com/example/redoubt/redoubt/flow/FlowNetwork" ksFN [(.int (3 : Int32)), (rf hB 1), (rf hB 2), (rf hB 3), (rf hB 4), (.int (6 : Int32)), .null], ints [1, 0, 2, 1, 2, 0, 0, 0, 0, 0, 0, 0, 0, 0, 0, 0], ints cap, ints fl, longs cs, ints [2, 2, 1], arr (.array .int) [(rf hB 7), (rf hB 8), (rf hB 9)], ints [0, 4], ints [1, 2], ints [3, 0]]) d11_107 rfl rfl rfl rfl ?_
  refine Wk.iinc (pc' := 111) (Ls' := #[.val (rf hB 0), .val (rf hB 5), .val (rf hB 6), .val (.int (5 : Int32)), .val (.int (0 : Int32))]) (5 : Int32) d11_108 rfl (by decide) rfl rfl ?_
  refine Wk.goTo (pc' := 75) d11_111 (by decide) (by decide) ?_
  refine Wk.iloadN (pc' := 76) d11_75 rfl rfl ?_
  refine Wk.aloadN (pc' := 77) d11_76 rfl rfl rfl ?_
  refine Wk.getF0 (pc' := 80) (i := 0) (j := 5) d11_77 (wd42 hw) rfl rfl rfl rfl ?_
  refine Wk.icN (pc' := 83) d11_80 (XT.ii_ge_f (by decide)) rfl ?_
  refine Wk.aloadN (pc' := 84) d11_83 rfl rfl rfl ?_
  refine Wk.getF0 (pc' := 87) (i := 0) (j := 1) d11_84 (wd11 hw) rfl rfl rfl rfl ?_
  refine Wk.iloadN (pc' := 88) d11_87 rfl rfl ?_
  refine Wk.iconst (pc' := 89) (1 : Int32) d11_88 (by decide) rfl ?_
  refine Wk.ixor (pc' := 90) d11_89 rfl ?_
  refine Wk.ialoadG (pc' := 91) (i := 1) d11_90 rfl rfl rfl ?_
  refine Wk.istore (pc' := 93) (Ls' := #[.val (rf hB 0), .val (rf hB 5), .val (rf hB 6), .val (.int (5 : Int32)), .val (.int (2 : Int32))]) d11_91 rfl rfl ?_
  refine Wk.aloadN (pc' := 94) d11_93 rfl rfl rfl ?_
  refine Wk.iload (pc' := 96) d11_94 rfl rfl ?_
  refine Wk.aaload (pc' := 97) (i := 6) (jn := 2) (v := (rf hB 9)) d11_96 rfl rfl (by decide) (by decide) rfl rfl ?_
  refine Wk.aloadN (pc' := 98) d11_97 rfl rfl rfl ?_
  refine Wk.iload (pc' := 100) d11_98 rfl rfl ?_
  refine Wk.dup2 (pc' := 101) d11_100 rfl rfl rfl ?_
  refine Wk.ialoadG (pc' := 102) (i := 5) d11_101 rfl rfl rfl ?_
  refine Wk.dupX2 (pc' := 103) d11_102 rfl rfl rfl rfl ?_
  refine Wk.iconst (pc' := 104) (1 : Int32) d11_103 (by decide) rfl ?_
  refine Wk.iadd (pc' := 105) d11_104 rfl ?_
  refine Wk.iastoreG (pc' := 106) (i := 5) (H' := [obj "com/example/redoubt/redoubt/flow/FlowNetwork" ksFN [(.int (3 : Int32)), (rf hB 1), (rf hB 2), (rf hB 3), (rf hB 4), (.int (6 : Int32)), .null], ints [1, 0, 2, 1, 2, 0, 0, 0, 0, 0, 0, 0, 0, 0, 0, 0], ints cap, ints fl, longs cs, ints [2, 2, 2], arr (.array .int) [(rf hB 7), (rf hB 8), (rf hB 9)], ints [0, 4], ints [1, 2], ints [3, 0]]) d11_105 rfl rfl rfl rfl ?_
  refine Wk.iloadN (pc' := 107) d11_106 rfl rfl ?_
  refine Wk.iastoreG (pc' := 108) (i := 9) (H' := [obj "com/example/redoubt/redoubt/flow/FlowNetwork" ksFN [(.int (3 : Int32)), (rf hB 1), (rf hB 2), (rf hB 3), (rf hB 4), (.int (6 : Int32)), .null], ints [1, 0, 2, 1, 2, 0, 0, 0, 0, 0, 0, 0, 0, 0, 0, 0], ints cap, ints fl, longs cs, ints [2, 2, 2], arr (.array .int) [(rf hB 7), (rf hB 8), (rf hB 9)], ints [0, 4], ints [1, 2], ints [3, 5]]) d11_107 rfl rfl rfl rfl ?_
  refine Wk.iinc (pc' := 111) (Ls' := #[.val (rf hB 0), .val (rf hB 5), .val (rf hB 6), .val (.int (6 : Int32)), .val (.int (2 : Int32))]) (6 : Int32) d11_108 rfl (by decide) rfl rfl ?_
  refine Wk.goTo (pc' := 75) d11_111 (by decide) (by decide) ?_
  refine Wk.iloadN (pc' := 76) d11_75 rfl rfl ?_
  refine Wk.aloadN (pc' := 77) d11_76 rfl rfl rfl ?_
  refine Wk.getF0 (pc' := 80) (i := 0) (j := 5) d11_77 (wd42 hw) rfl rfl rfl rfl ?_
  refine Wk.icY (pc' := 114) d11_80 (XT.ii_ge_t (by decide)) (by decide) (by decide) ?_
  refine Wk.aloadN (pc' := 115) d11_114 rfl rfl rfl ?_
  exact Wk.aret (t := (.array (.array .int))) d11_115 rfl rfl rfl (Nat.le_of_ble_eq_true rfl) (Nat.le_of_ble_eq_true rfl) ⟨rfl, rfl⟩
set_option maxRecDepth 65536 in
set_option maxHeartbeats 40000000 in
theorem m_prep_A (l : Launch) (Z : State) (a0 : Array Value) (hw : ∀ d ∈ tables_1, d.before a0 Z = true) (hB : Heap) (cap fl : List Int32) (cs : List Int64) (sr sk : Int32) (a1 : ¬ sr < 0) (a2 : sr < 3) (b1 : ¬ sk < 0) (b2 : sk < 3) (hne : ¬ sr = sk) : Ctr l Z hB ({ cls := "com/example/redoubt/redoubt/flow/FlowNetwork", name := "prepare", desc := "(II)V" } : Jvm.MethodName) prog_4_method_14_code 3 none [] ({ frames := 1, cells := 5, slots := 12, locals := 17 } : Room) #[(rf hB 0), (.int sr), (.int sk)] [obj "com/example/redoubt/redoubt/flow/FlowNetwork" ksFN [(.int (3 : Int32)), (rf hB 1), (rf hB 2), (rf hB 3), (rf hB 4), (.int (6 : Int32)), .null], ints [1, 0, 2, 1, 2, 0, 0, 0, 0, 0, 0, 0, 0, 0, 0, 0], ints cap, ints fl, longs cs] (fun v H' => v = none ∧ H' = [obj "com/example/redoubt/redoubt/flow/FlowNetwork" ksFN [(.int (3 : Int32)), (rf hB 1), (rf hB 2), (rf hB 3), (rf hB 4), (.int (6 : Int32)), (rf hB 6)], ints [1, 0, 2, 1, 2, 0, 0, 0, 0, 0, 0, 0, 0, 0, 0, 0], ints cap, ints fl, longs cs, ints [2, 2, 2], arr (.array .int) [(rf hB 7), (rf hB 8), (rf hB 9)], ints [0, 4], ints [1, 2], ints [3, 5]]) := by
  refine Wk.ctr pn_15 (Ls := #[.val (rf hB 0), .val (.int sr), .val (.int sk)]) (fun m => by first | rfl | (simp [entryFrame, mkF, argsToLocals, Value.category]; done)) ?_
  refine Wk.aloadN (pc' := 1) d10_0 rfl rfl rfl ?_
  refine Wk.iloadN (pc' := 2) d10_1 rfl rfl ?_
  refine Wk.callP (pc' := 5) (argsL := [(.int sr)]) (st := []) d10_2 (wd32 hw) (wd33 hw) (Jvm.Kit.selects_private (by decide) (wd2 hw) (wd34 hw) (wd33 hw)) (wd34 hw) (wd3 hw) (wd35 hw) (by decide) (lenOf pd_0 rfl) (fun _ P => P.exa rfl) (m_cnode l Z a0 hw hB [obj "com/example/redoubt/redoubt/flow/FlowNetwork" ksFN [(.int (3 : Int32)), (rf hB 1), (rf hB 2), (rf hB 3), (rf hB 4), (.int (6 : Int32)), .null], ints [1, 0, 2, 1, 2, 0, 0, 0, 0, 0, 0, 0, 0, 0, 0, 0], ints cap, ints fl, longs cs] 6 sr .null rfl a1 a2) rfl (Nat.le_of_ble_eq_true rfl) (Nat.le_of_ble_eq_true rfl) (Nat.le_of_ble_eq_true rfl) (Nat.le_of_ble_eq_true rfl) rfl rfl ?_
  rintro _ _ ⟨rfl, hH⟩; obtain rfl := hH.symm
  show WP l Z hB _ _ _ _ _ _ _ _ [obj "com/example/redoubt/redoubt/flow/FlowNetwork" ksFN [(.int (3 : Int32)), (rf hB 1), (rf hB 2), (rf hB 3), (rf hB 4), (.int (6 : Int32)), .null], ints [1, 0, 2, 1, 2, 0, 0, 0, 0, 0, 0, 0, 0, 0, 0, 0], ints cap, ints fl, longs cs] _ _ []
  refine Wk.aloadN (pc' := 6) d10_5 rfl rfl rfl ?_
  refine Wk.iloadN (pc' := 7) d10_6 rfl rfl ?_
  refine Wk.callP (pc' := 10) (argsL := [(.int sk)]) (st := []) d10_7 (wd32 hw) (wd33 hw) (Jvm.Kit.selects_private (by decide) (wd2 hw) (wd34 hw) (wd33 hw)) (wd34 hw) (wd3 hw) (wd35 hw) (by decide) (lenOf pd_0 rfl) (fun _ P => P.exa rfl) (m_cnode l Z a0 hw hB [obj "com/example/redoubt/redoubt/flow/FlowNetwork" ksFN [(.int (3 : Int32)), (rf hB 1), (rf hB 2), (rf hB 3), (rf hB 4), (.int (6 : Int32)), .null], ints [1, 0, 2, 1, 2, 0, 0, 0, 0, 0, 0, 0, 0, 0, 0, 0], ints cap, ints fl, longs cs] 6 sk .null rfl b1 b2) rfl (Nat.le_of_ble_eq_true rfl) (Nat.le_of_ble_eq_true rfl) (Nat.le_of_ble_eq_true rfl) (Nat.le_of_ble_eq_true rfl) rfl rfl ?_
  rintro _ _ ⟨rfl, hH⟩; obtain rfl := hH.symm
  show WP l Z hB _ _ _ _ _ _ _ _ [obj "com/example/redoubt/redoubt/flow/FlowNetwork" ksFN [(.int (3 : Int32)), (rf hB 1), (rf hB 2), (rf hB 3), (rf hB 4), (.int (6 : Int32)), .null], ints [1, 0, 2, 1, 2, 0, 0, 0, 0, 0, 0, 0, 0, 0, 0, 0], ints cap, ints fl, longs cs] _ _ []
  refine Wk.iloadN (pc' := 11) d10_10 rfl rfl ?_
  refine Wk.iloadN (pc' := 12) d10_11 rfl rfl ?_
  refine Wk.icY (pc' := 29) d10_12 (XT.ii_ne_t hne) (by decide) (by decide) ?_
  refine Wk.aloadN (pc' := 30) d10_29 rfl rfl rfl ?_
  refine Wk.getF0 (pc' := 33) (i := 0) (j := 6) d10_30 (wd44 hw) rfl rfl rfl rfl ?_
  refine Wk.nonnullN (pc' := 36) d10_33 rfl ?_
  refine Wk.aloadN (pc' := 37) d10_36 rfl rfl rfl ?_
  refine Wk.aloadN (pc' := 38) d10_37 rfl rfl rfl ?_
  refine Wk.callP (pc' := 41) (argsL := []) (st := [(rf hB 0)]) d10_38 (wd64 hw) (wd65 hw) (Jvm.Kit.selects_private (by decide) (wd2 hw) (wd66 hw) (wd65 hw)) (wd66 hw) (wd3 hw) (wd67 hw) (by decide) (lenOf pd_7 rfl) (fun _ P => P.exa rfl) (m_group_A l Z a0 hw hB cap fl cs) rfl (Nat.le_of_ble_eq_true rfl) (Nat.le_of_ble_eq_true rfl) (Nat.le_of_ble_eq_true rfl) (Nat.le_of_ble_eq_true rfl) rfl rfl ?_
  rintro _ _ ⟨rfl, hH⟩; obtain rfl := hH.symm
  show WP l Z hB _ _ _ _ _ _ _ _ [obj "com/example/redoubt/redoubt/flow/FlowNetwork" ksFN [(.int (3 : Int32)), (rf hB 1), (rf hB 2), (rf hB 3), (rf hB 4), (.int (6 : Int32)), .null], ints [1, 0, 2, 1, 2, 0, 0, 0, 0, 0, 0, 0, 0, 0, 0, 0], ints cap, ints fl, longs cs, ints [2, 2, 2], arr (.array .int) [(rf hB 7), (rf hB 8), (rf hB 9)], ints [0, 4], ints [1, 2], ints [3, 5]] _ _ [(rf hB 6), (rf hB 0)]
  refine Wk.putF0 (pc' := 44) (i := 0) (j := 6) (H' := [obj "com/example/redoubt/redoubt/flow/FlowNetwork" ksFN [(.int (3 : Int32)), (rf hB 1), (rf hB 2), (rf hB 3), (rf hB 4), (.int (6 : Int32)), (rf hB 6)], ints [1, 0, 2, 1, 2, 0, 0, 0, 0, 0, 0, 0, 0, 0, 0, 0], ints cap, ints fl, longs cs, ints [2, 2, 2], arr (.array .int) [(rf hB 7), (rf hB 8), (rf hB 9)], ints [0, 4], ints [1, 2], ints [3, 5]]) (ty := (.array (.array .int))) d10_41 (wd44 hw) rfl rfl (Nat.le_of_ble_eq_true rfl) (Or.inl (wd45 hw)) (wd2 hw) (by decide) rfl rfl rfl rfl ?_
  exact Wk.vret d10_44 rfl (Nat.le_of_ble_eq_true rfl) (Nat.le_of_ble_eq_true rfl) ⟨rfl, rfl⟩
set_option maxRecDepth 65536 in
set_option maxHeartbeats 40000000 in
theorem m_group_B (l : Launch) (Z : State) (a0 : Array Value) (hw : ∀ d ∈ tables_1, d.before a0 Z = true) (hB : Heap) (cap fl : List Int32) (cs : List Int64) : Ctr l Z hB ({ cls := "com/example/redoubt/redoubt/flow/FlowNetwork", name := "groupBySource", desc := "()[[I" } : Jvm.MethodName) prog_4_method_16_code 5 (some (.array (.array .int))) [] ({ frames := 0, cells := 5, slots := 12, locals := 0 } : Room) #[(rf hB 0)] [obj "com/example/redoubt/redoubt/flow/FlowNetwork" ksFN [(.int (3 : Int32)), (rf hB 1), (rf hB 2), (rf hB 3), (rf hB 4), (.int (6 : Int32)), .null], ints [2, 0, 1, 0, 2, 1, 0, 0, 0, 0, 0, 0, 0, 0, 0, 0], ints cap, ints fl, longs cs] (fun v H' => v = some (rf hB 6) ∧ H' = [obj "com/example/redoubt/redoubt/flow/FlowNetwork" ksFN [(.int (3 : Int32)), (rf hB 1), (rf hB 2), (rf hB 3), (rf hB 4), (.int (6 : Int32)), .null], ints [2, 0, 1, 0, 2, 1, 0, 0, 0, 0, 0, 0, 0, 0, 0, 0], ints cap, ints fl, longs cs, ints [2, 2, 2], arr (.array .int) [(rf hB 7), (rf hB 8), (rf hB 9)], ints [0, 2], ints [3, 4], ints [1, 5]]) := by
  refine Wk.ctr pn_16 (Ls := #[.val (rf hB 0), .unset, .unset, .unset, .unset]) (fun m => by first | rfl | (simp [entryFrame, mkF, argsToLocals, Value.category]; done)) ?_
  refine Wk.aloadN (pc' := 1) d11_0 rfl rfl rfl ?_
  refine Wk.getF0 (pc' := 4) (i := 0) (j := 0) d11_1 (wd20 hw) rfl rfl rfl rfl ?_
  refine Wk.newArr (pc' := 6) (i := 5) (nn := 3) (H' := [obj "com/example/redoubt/redoubt/flow/FlowNetwork" ksFN [(.int (3 : Int32)), (rf hB 1), (rf hB 2), (rf hB 3), (rf hB 4), (.int (6 : Int32)), .null], ints [2, 0, 1, 0, 2, 1, 0, 0, 0, 0, 0, 0, 0, 0, 0, 0], ints cap, ints fl, longs cs, ints [0, 0, 0]]) d11_4 (wd10 hw) (by decide) (by decide) (by omega) rfl ⟨(by intro C; simp [newarray.typeOf]), (by intro C; simp [newarray.typeOf])⟩ (Nat.le_of_ble_eq_true rfl) (Nat.le_of_ble_eq_true rfl) rfl rfl rfl ?_
  refine Wk.astoreN (pc' := 7) (Ls' := #[.val (rf hB 0), .val (rf hB 5), .unset, .unset, .unset]) d11_6 rfl rfl rfl ?_
  refine Wk.iconst (pc' := 8) (0 : Int32) d11_7 (by decide) rfl ?_
  refine Wk.istoreN (pc' := 9) (Ls' := #[.val (rf hB 0), .val (rf hB 5), .val (.int (0 : Int32)), .unset, .unset]) d11_8 rfl rfl ?_
  refine Wk.iloadN (pc' := 10) d11_9 rfl rfl ?_
  refine Wk.aloadN (pc' := 11) d11_10 rfl rfl rfl ?_
  refine Wk.getF0 (pc' := 14) (i := 0) (j := 5) d11_11 (wd42 hw) rfl rfl rfl rfl ?_
  refine Wk.icN (pc' := 17) d11_14 (XT.ii_ge_f (by decide)) rfl ?_
  refine Wk.aloadN (pc' := 18) d11_17 rfl rfl rfl ?_
  refine Wk.aloadN (pc' := 19) d11_18 rfl rfl rfl ?_
  refine Wk.getF0 (pc' := 22) (i := 0) (j := 1) d11_19 (wd11 hw) rfl rfl rfl rfl ?_
  refine Wk.iloadN (pc' := 23) d11_22 rfl rfl ?_
  refine Wk.iconst (pc' := 24) (1 : Int32) d11_23 (by decide) rfl ?_
  refine Wk.ixor (pc' := 25) d11_24 rfl ?_
  refine Wk.ialoadG (pc' := 26) (i := 1) d11_25 rfl rfl rfl ?_
  refine Wk.dup2 (pc' := 27) d11_26 rfl rfl rfl ?_
  refine Wk.ialoadG (pc' := 28) (i := 5) d11_27 rfl rfl rfl ?_
  refine Wk.iconst (pc' := 29) (1 : Int32) d11_28 (by decide) rfl ?_
  refine Wk.iadd (pc' := 30) d11_29 rfl ?_
  refine Wk.iastoreG (pc' := 31) (i := 5) (H' := [obj "com/example/redoubt/redoubt/flow/FlowNetwork" ksFN [(.int (3 : Int32)), (rf hB 1), (rf hB 2), (rf hB 3), (rf hB 4), (.int (6 : Int32)), .null], ints [2, 0, 1, 0, 2, 1, 0, 0, 0, 0, 0, 0, 0, 0, 0, 0], ints cap, ints fl, longs cs, ints [1, 0, 0]]) d11_30 rfl rfl rfl rfl ?_
  refine Wk.iinc (pc' := 34) (Ls' := #[.val (rf hB 0), .val (rf hB 5), .val (.int (1 : Int32)), .unset, .unset]) (1 : Int32) d11_31 rfl (by decide) rfl rfl ?_
  refine Wk.goTo (pc' := 9) d11_34 (by decide) (by decide) ?_
  refine Wk.iloadN (pc' := 10) d11_9 rfl rfl ?_
  refine Wk.aloadN (pc' := 11) d11_10 rfl rfl rfl ?_
  refine Wk.getF0 (pc' := 14) (i := 0) (j := 5) d11_11 (wd42 hw) rfl rfl rfl rfl ?_
  refine Wk.icN (pc' := 17) d11_14 (XT.ii_ge_f (by decide)) rfl ?_
  refine Wk.aloadN (pc' := 18) d11_17 rfl rfl rfl ?_
  refine Wk.aloadN (pc' := 19) d11_18 rfl rfl rfl ?_
  refine Wk.getF0 (pc' := 22) (i := 0) (j := 1) d11_19 (wd11 hw) rfl rfl rfl rfl ?_
  refine Wk.iloadN (pc' := 23) d11_22 rfl rfl ?_
  refine Wk.iconst (pc' := 24) (1 : Int32) d11_23 (by decide) rfl ?_
  refine Wk.ixor (pc' := 25) d11_24 rfl ?_
  refine Wk.ialoadG (pc' := 26) (i := 1) d11_25 rfl rfl rfl ?_
  refine Wk.dup2 (pc' := 27) d11_26 rfl rfl rfl ?_
  refine Wk.ialoadG (pc' := 28) (i := 5) d11_27 rfl rfl rfl ?_
  refine Wk.iconst (pc' := 29) (1 : Int32) d11_28 (by decide) rfl ?_
  refine Wk.iadd (pc' := 30) d11_29 rfl ?_
  refine Wk.iastoreG (pc' := 31) (i := 5) (H' := [obj "com/example/redoubt/redoubt/flow/FlowNetwork" ksFN [(.int (3 : Int32)), (rf hB 1), (rf hB 2), (rf hB 3), (rf hB 4), (.int (6 : Int32)), .null], ints [2, 0, 1, 0, 2, 1, 0, 0, 0, 0, 0, 0, 0, 0, 0, 0], ints cap, ints fl, longs cs, ints [1, 0, 1]]) d11_30 rfl rfl rfl rfl ?_
  refine Wk.iinc (pc' := 34) (Ls' := #[.val (rf hB 0), .val (rf hB 5), .val (.int (2 : Int32)), .unset, .unset]) (2 : Int32) d11_31 rfl (by decide) rfl rfl ?_
  refine Wk.goTo (pc' := 9) d11_34 (by decide) (by decide) ?_
  refine Wk.iloadN (pc' := 10) d11_9 rfl rfl ?_
  refine Wk.aloadN (pc' := 11) d11_10 rfl rfl rfl ?_
  refine Wk.getF0 (pc' := 14) (i := 0) (j := 5) d11_11 (wd42 hw) rfl rfl rfl rfl ?_
  refine Wk.icN (pc' := 17) d11_14 (XT.ii_ge_f (by decide)) rfl ?_
  refine Wk.aloadN (pc' := 18) d11_17 rfl rfl rfl ?_
  refine Wk.aloadN (pc' := 19) d11_18 rfl rfl rfl ?_
  refine Wk.getF0 (pc' := 22) (i := 0) (j := 1) d11_19 (wd11 hw) rfl rfl rfl rfl ?_
  refine Wk.iloadN (pc' := 23) d11_22 rfl rfl ?_
  refine Wk.iconst (pc' := 24) (1 : Int32) d11_23 (by decide) rfl ?_
  refine Wk.ixor (pc' := 25) d11_24 rfl ?_
  refine Wk.ialoadG (pc' := 26) (i := 1) d11_25 rfl rfl rfl ?_
  refine Wk.dup2 (pc' := 27) d11_26 rfl rfl rfl ?_
  refine Wk.ialoadG (pc' := 28) (i := 5) d11_27 rfl rfl rfl ?_
  refine Wk.iconst (pc' := 29) (1 : Int32) d11_28 (by decide) rfl ?_
  refine Wk.iadd (pc' := 30) d11_29 rfl ?_
  refine Wk.iastoreG (pc' := 31) (i := 5) (H' := [obj "com/example/redoubt/redoubt/flow/FlowNetwork" ksFN [(.int (3 : Int32)), (rf hB 1), (rf hB 2), (rf hB 3), (rf hB 4), (.int (6 : Int32)), .null], ints [2, 0, 1, 0, 2, 1, 0, 0, 0, 0, 0, 0, 0, 0, 0, 0], ints cap, ints fl, longs cs, ints [2, 0, 1]]) d11_30 rfl rfl rfl rfl ?_
  refine Wk.iinc (pc' := 34) (Ls' := #[.val (rf hB 0), .val (rf hB 5), .val (.int (3 : Int32)), .unset, .unset]) (3 : Int32) d11_31 rfl (by decide) rfl rfl ?_
  refine Wk.goTo (pc' := 9) d11_34 (by decide) (by decide) ?_
  refine Wk.iloadN (pc' := 10) d11_9 rfl rfl ?_
  refine Wk.aloadN (pc' := 11) d11_10 rfl rfl rfl ?_
  refine Wk.getF0 (pc' := 14) (i := 0) (j := 5) d11_11 (wd42 hw) rfl rfl rfl rfl ?_
  refine Wk.icN (pc' := 17) d11_14 (XT.ii_ge_f (by decide)) rfl ?_
  refine Wk.aloadN (pc' := 18) d11_17 rfl rfl rfl ?_
  refine Wk.aloadN (pc' := 19) d11_18 rfl rfl rfl ?_
  refine Wk.getF0 (pc' := 22) (i := 0) (j := 1) d11_19 (wd11 hw) rfl rfl rfl rfl ?_
  refine Wk.iloadN (pc' := 23) d11_22 rfl rfl ?_
  refine Wk.iconst (pc' := 24) (1 : Int32) d11_23 (by decide) rfl ?_
  refine Wk.ixor (pc' := 25) d11_24 rfl ?_
  refine Wk.ialoadG (pc' := 26) (i := 1) d11_25 rfl rfl rfl ?_
  refine Wk.dup2 (pc' := 27) d11_26 rfl rfl rfl ?_
  refine Wk.ialoadG (pc' := 28) (i := 5) d11_27 rfl rfl rfl ?_
  refine Wk.iconst (pc' := 29) (1 : Int32) d11_28 (by decide) rfl ?_
  refine Wk.iadd (pc' := 30) d11_29 rfl ?_
  refine Wk.iastoreG (pc' := 31) (i := 5) (H' := [obj "com/example/redoubt/redoubt/flow/FlowNetwork" ksFN [(.int (3 : Int32)), (rf hB 1), (rf hB 2), (rf hB 3), (rf hB 4), (.int (6 : Int32)), .null], ints [2, 0, 1, 0, 2, 1, 0, 0, 0, 0, 0, 0, 0, 0, 0, 0], ints cap, ints fl, longs cs, ints [2, 1, 1]]) d11_30 rfl rfl rfl rfl ?_
  refine Wk.iinc (pc' := 34) (Ls' := #[.val (rf hB 0), .val (rf hB 5), .val (.int (4 : Int32)), .unset, .unset]) (4 : Int32) d11_31 rfl (by decide) rfl rfl ?_
  refine Wk.goTo (pc' := 9) d11_34 (by decide) (by decide) ?_
  refine Wk.iloadN (pc' := 10) d11_9 rfl rfl ?_
  refine Wk.aloadN (pc' := 11) d11_10 rfl rfl rfl ?_
  refine Wk.getF0 (pc' := 14) (i := 0) (j := 5) d11_11 (wd42 hw) rfl rfl rfl rfl ?_
  refine Wk.icN (pc' := 17) d11_14 (XT.ii_ge_f (by decide)) rfl ?_
  refine Wk.aloadN (pc' := 18) d11_17 rfl rfl rfl ?_
  refine Wk.aloadN (pc' := 19) d11_18 rfl rfl rfl ?_
  refine Wk.getF0 (pc' := 22) (i := 0) (j := 1) d11_19 (wd11 hw) rfl rfl rfl rfl ?_
  refine Wk.iloadN (pc' := 23) d11_22 rfl rfl ?_
  refine Wk.iconst (pc' := 24) (1 : Int32) d11_23 (by decide) rfl ?_
  refine Wk.ixor (pc' := 25) d11_24 rfl ?_
  refine Wk.ialoadG (pc' := 26) (i := 1) d11_25 rfl rfl rfl ?_
  refine Wk.dup2 (pc' := 27) d11_26 rfl rfl rfl ?_
  refine Wk.ialoadG (pc' := 28) (i := 5) d11_27 rfl rfl rfl ?_
  refine Wk.iconst (pc' := 29) (1 : Int32) d11_28 (by decide) rfl ?_
  refine Wk.iadd (pc' := 30) d11_29 rfl ?_
  refine Wk.iastoreG (pc' := 31) (i := 5) (H' := [obj "com/example/redoubt/redoubt/flow/FlowNetwork" ksFN [(.int (3 : Int32)), (rf hB 1), (rf hB 2), (rf hB 3), (rf hB 4), (.int (6 : Int32)), .null], ints [2, 0, 1, 0, 2, 1, 0, 0, 0, 0, 0, 0, 0, 0, 0, 0], ints cap, ints fl, longs cs, ints [2, 2, 1]]) d11_30 rfl rfl rfl rfl ?_
  refine Wk.iinc (pc' := 34) (Ls' := #[.val (rf hB 0), .val (rf hB 5), .val (.int (5 : Int32)), .unset, .unset]) (5 : Int32) d11_31 rfl (by decide) rfl rfl ?_
  refine Wk.goTo (pc' := 9) d11_34 (by decide) (by decide) ?_
  refine Wk.iloadN (pc' := 10) d11_9 rfl rfl ?_
  refine Wk.aloadN (pc' := 11) d11_10 rfl rfl rfl ?_
  refine Wk.getF0 (pc' := 14) (i := 0) (j := 5) d11_11 (wd42 hw) rfl rfl rfl rfl ?_
  refine Wk.icN (pc' := 17) d11_14 (XT.ii_ge_f (by decide)) rfl ?_
  refine Wk.aloadN (pc' := 18) d11_17 rfl rfl rfl ?_
  refine Wk.aloadN (pc' := 19) d11_18 rfl rfl rfl ?_
  refine Wk.getF0 (pc' := 22) (i := 0) (j := 1) d11_19 (wd11 hw) rfl rfl rfl rfl ?_
  refine Wk.iloadN (pc' := 23) d11_22 rfl rfl ?_
  refine Wk.iconst (pc' := 24) (1 : Int32) d11_23 (by decide) rfl ?_
  refine Wk.ixor (pc' := 25) d11_24 rfl ?_
  refine Wk.ialoadG (pc' := 26) (i := 1) d11_25 rfl rfl rfl ?_
  refine Wk.dup2 (pc' := 27) d11_26 rfl rfl rfl ?_
  refine Wk.ialoadG (pc' := 28) (i := 5) d11_27 rfl rfl rfl ?_
  refine Wk.iconst (pc' := 29) (1 : Int32) d11_28 (by decide) rfl ?_
  refine Wk.iadd (pc' := 30) d11_29 rfl ?_
  refine Wk.iastoreG (pc' := 31) (i := 5) (H' := [obj "com/example/redoubt/redoubt/flow/FlowNetwork" ksFN [(.int (3 : Int32)), (rf hB 1), (rf hB 2), (rf hB 3), (rf hB 4), (.int (6 : Int32)), .null], ints [2, 0, 1, 0, 2, 1, 0, 0, 0, 0, 0, 0, 0, 0, 0, 0], ints cap, ints fl, longs cs, ints [2, 2, 2]]) d11_30 rfl rfl rfl rfl ?_
  refine Wk.iinc (pc' := 34) (Ls' := #[.val (rf hB 0), .val (rf hB 5), .val (.int (6 : Int32)), .unset, .unset]) (6 : Int32) d11_31 rfl (by decide) rfl rfl ?_
  refine Wk.goTo (pc' := 9) d11_34 (by decide) (by decide) ?_
  refine Wk.iloadN (pc' := 10) d11_9 rfl rfl ?_
  refine Wk.aloadN (pc' := 11) d11_10 rfl rfl rfl ?_
  refine Wk.getF0 (pc' := 14) (i := 0) (j := 5) d11_11 (wd42 hw) rfl rfl rfl rfl ?_
  refine Wk.icY (pc' := 37) d11_14 (XT.ii_ge_t (by decide)) (by decide) (by decide) ?_
  refine Wk.aloadN (pc' := 38) d11_37 rfl rfl rfl ?_
  refine Wk.getF0 (pc' := 41) (i := 0) (j := 0) d11_38 (wd20 hw) rfl rfl rfl rfl ?_
  refine Wk.newRefA (pc' := 44) (ty := .int) (C := "[I") (i := 6) (nn := 3) (H' := [obj "com/example/redoubt/redoubt/flow/FlowNetwork" ksFN [(.int (3 : Int32)), (rf hB 1), (rf hB 2), (rf hB 3), (rf hB 4), (.int (6 : Int32)), .null], ints [2, 0, 1, 0, 2, 1, 0, 0, 0, 0, 0, 0, 0, 0, 0, 0], ints cap, ints fl, longs cs, ints [2, 2, 2], arr (.array .int) [.null, .null, .null]]) d11_41 rfl (wd68 hw) (wd69 hw) (by decide) (by decide) (by omega) (Nat.le_of_ble_eq_true rfl) (Nat.le_of_ble_eq_true rfl) rfl rfl rfl ?_
  refine Wk.astoreN (pc' := 45) (Ls' := #[.val (rf hB 0), .val (rf hB 5), .val (rf hB 6), .unset, .unset]) d11_44 rfl rfl rfl ?_
  refine Wk.iconst (pc' := 46) (0 : Int32) d11_45 (by decide) rfl ?_
  refine Wk.istoreN (pc' := 47) (Ls' := #[.val (rf hB 0), .val (rf hB 5), .val (rf hB 6), .val (.int (0 : Int32)), .unset]) d11_46 rfl rfl ?_
  refine Wk.iloadN (pc' := 48) d11_47 rfl rfl ?_
  refine Wk.aloadN (pc' := 49) d11_48 rfl rfl rfl ?_
  refine Wk.getF0 (pc' := 52) (i := 0) (j := 0) d11_49 (wd20 hw) rfl rfl rfl rfl ?_
  refine Wk.icN (pc' := 55) d11_52 (XT.ii_ge_f (by decide)) rfl ?_
  refine Wk.aloadN (pc' := 56) d11_55 rfl rfl rfl ?_
  refine Wk.iloadN (pc' := 57) d11_56 rfl rfl ?_
  refine Wk.aloadN (pc' := 58) d11_57 rfl rfl rfl ?_
  refine Wk.iloadN (pc' := 59) d11_58 rfl rfl ?_
  refine Wk.ialoadG (pc' := 60) (i := 5) d11_59 rfl rfl rfl ?_
  refine Wk.newArr (pc' := 62) (i := 7) (nn := 2) (H' := [obj "com/example/redoubt/redoubt/flow/FlowNetwork" ksFN [(.int (3 : Int32)), (rf hB 1), (rf hB 2), (rf hB 3), (rf hB 4), (.int (6 : Int32)), .null], ints [2, 0, 1, 0, 2, 1, 0, 0, 0, 0, 0, 0, 0, 0, 0, 0], ints cap, ints fl, longs cs, ints [2, 2, 2], arr (.array .int) [.null, .null, .null], ints [0, 0]]) d11_60 (wd10 hw) (by decide) (by decide) (by omega) rfl ⟨(by intro C; simp [newarray.typeOf]), (by intro C; simp [newarray.typeOf])⟩ (Nat.le_of_ble_eq_true rfl) (Nat.le_of_ble_eq_true rfl) rfl rfl rfl ?_
  refine Wk.aastore (pc' := 63) (i := 6) (jn := 0) (H' := [obj "com/example/redoubt/redoubt/flow/FlowNetwork" ksFN [(.int (3 : Int32)), (rf hB 1), (rf hB 2), (rf hB 3), (rf hB 4), (.int (6 : Int32)), .null], ints [2, 0, 1, 0, 2, 1, 0, 0, 0, 0, 0, 0, 0, 0, 0, 0], ints cap, ints fl, longs cs, ints [2, 2, 2], arr (.array .int) [(rf hB 7), .null, .null], ints [0, 0]]) d11_62 rfl rfl (fun _ P => Wk.stoA P rfl rfl (Ins.self (P.exaA (C := "[I") rfl rfl))) rfl (by decide) (by decide) (Nat.le_of_ble_eq_true rfl) rfl rfl ?_
  refine Wk.aloadN (pc' := 64) d11_63 rfl rfl rfl ?_
  refine Wk.iloadN (pc' := 65) d11_64 rfl rfl ?_
  refine Wk.iconst (pc' := 66) (0 : Int32) d11_65 (by decide) rfl ?_
  refine Wk.iastoreG (pc' := 67) (i := 5) (H' := [obj "com/example/redoubt/redoubt/flow/FlowNetwork" ksFN [(.int (3 : Int32)), (rf hB 1), (rf hB 2), (rf hB 3), (rf hB 4), (.int (6 : Int32)), .null], ints [2, 0, 1, 0, 2, 1, 0, 0, 0, 0, 0, 0, 0, 0, 0, 0], ints cap, ints fl, longs cs, ints [0, 2, 2], arr (.array .int) [(rf hB 7), .null, .null], ints [0, 0]]) d11_66 rfl rfl rfl rfl ?_
  refine Wk.iinc (pc' := 70) (Ls' := #[.val (rf hB 0), .val (rf hB 5), .val (rf hB 6), .val (.int (1 : Int32)), .unset]) (1 : Int32) d11_67 rfl (by decide) rfl rfl ?_
  refine Wk.goTo (pc' := 47) d11_70 (by decide) (by decide) ?_
  refine Wk.iloadN (pc' := 48) d11_47 rfl rfl ?_
  refine Wk.aloadN (pc' := 49) d11_48 rfl rfl rfl ?_
  refine Wk.getF0 (pc' := 52) (i := 0) (j := 0) d11_49 (wd20 hw) rfl rfl rfl rfl ?_
  refine Wk.icN (pc' := 55) d11_52 (XT.ii_ge_f (by decide)) rfl ?_
  refine Wk.aloadN (pc' := 56) d11_55 rfl rfl rfl ?_
  refine Wk.iloadN (pc' := 57) d11_56 rfl rfl ?_
  refine Wk.aloadN (pc' := 58) d11_57 rfl rfl rfl ?_
  refine Wk.iloadN (pc' := 59) d11_58 rfl rfl ?_
  refine Wk.ialoadG (pc' := 60) (i := 5) d11_59 rfl rfl rfl ?_
  refine Wk.newArr (pc' := 62) (i := 8) (nn := 2) (H' := [obj "com/example/redoubt/redoubt/flow/FlowNetwork" ksFN [(.int (3 : Int32)), (rf hB 1), (rf hB 2), (rf hB 3), (rf hB 4), (.int (6 : Int32)), .null], ints [2, 0, 1, 0, 2, 1, 0, 0, 0, 0, 0, 0, 0, 0, 0, 0], ints cap, ints fl, longs cs, ints [0, 2, 2], arr (.array .int) [(rf hB 7), .null, .null], ints [0, 0], ints [0, 0]]) d11_60 (wd10 hw) (by decide) (by decide) (by omega) rfl ⟨(by intro C; simp [newarray.typeOf]), (by intro C; simp [newarray.typeOf])⟩ (Nat.le_of_ble_eq_true rfl) (Nat.le_of_ble_eq_true rfl) rfl rfl rfl ?_
  refine Wk.aastore (pc' := 63) (i := 6) (jn := 1) (H' := [obj "com/example/redoubt/redoubt/flow/FlowNetwork" ksFN [(.int (3 : Int32)), (rf hB 1), (rf hB 2), (rf hB 3), (rf hB 4), (.int (6 : Int32)), .null], ints [2, 0, 1, 0, 2, 1, 0, 0, 0, 0, 0, 0, 0, 0, 0, 0], ints cap, ints fl, longs cs, ints [0, 2, 2], arr (.array .int) [(rf hB 7), (rf hB 8), .null], ints [0, 0], ints [0, 0]]) d11_62 rfl rfl (fun _ P => Wk.stoA P rfl rfl (Ins.self (P.exaA (C := "[I") rfl rfl))) rfl (by decide) (by decide) (Nat.le_of_ble_eq_true rfl) rfl rfl ?_
  refine Wk.aloadN (pc' := 64) d11_63 rfl rfl rfl ?_
  refine Wk.iloadN (pc' := 65) d11_64 rfl rfl ?_
  refine Wk.iconst (pc' := 66) (0 : Int32) d11_65 (by decide) rfl ?_
  refine Wk.iastoreG (pc' := 67) (i := 5) (H' := [obj "com/example/redoubt/redoubt/flow/FlowNetwork" ksFN [(.int (3 : Int32)), (rf hB 1), (rf hB 2), (rf hB 3), (rf hB 4), (.int (6 : Int32)), .null], ints [2, 0, 1, 0, 2, 1, 0, 0, 0, 0, 0, 0, 0, 0, 0, 0], ints cap, ints fl, longs cs, ints [0, 0, 2], arr (.array .int) [(rf hB 7), (rf hB 8), .null], ints [0, 0], ints [0, 0]]) d11_66 rfl rfl rfl rfl ?_
  refine Wk.iinc (pc' := 70) (Ls' := #[.val (rf hB 0), .val (rf hB 5), .val (rf hB 6), .val (.int (2 : Int32)), .unset]) (2 : Int32) d11_67 rfl (by decide) rfl rfl ?_
  refine Wk.goTo (pc' := 47) d11_70 (by decide) (by decide) ?_
  refine Wk.iloadN (pc' := 48) d11_47 rfl rfl ?_
  refine Wk.aloadN (pc' := 49) d11_48 rfl rfl rfl ?_
  refine Wk.getF0 (pc' := 52) (i := 0) (j := 0) d11_49 (wd20 hw) rfl rfl rfl rfl ?_
  refine Wk.icN (pc' := 55) d11_52 (XT.ii_ge_f (by decide)) rfl ?_
  refine Wk.aloadN (pc' := 56) d11_55 rfl rfl rfl ?_
  refine Wk.iloadN (pc' := 57) d11_56 rfl rfl ?_
  refine Wk.aloadN (pc' := 58) d11_57 rfl rfl rfl ?_
  refine Wk.iloadN (pc' := 59) d11_58 rfl rfl ?_
  refine Wk.ialoadG (pc' := 60) (i := 5) d11_59 rfl rfl rfl ?_
  refine Wk.newArr (pc' := 62) (i := 9) (nn := 2) (H' := [obj "com/example/redoubt/redoubt/flow/FlowNetwork" ksFN [(.int (3 : Int32)), (rf hB 1), (rf hB 2), (rf hB 3), (rf hB 4), (.int (6 : Int32)), .null], ints [2, 0, 1, 0, 2, 1, 0, 0, 0, 0, 0, 0, 0, 0, 0, 0], ints cap, ints fl, longs cs, ints [0, 0, 2], arr (.array .int) [(rf hB 7), (rf hB 8), .null], ints [0, 0], ints [0, 0], ints [0, 0]]) d11_60 (wd10 hw) (by decide) (by decide) (by omega) rfl ⟨(by intro C; simp [newarray.typeOf]), (by intro C; simp [newarray.typeOf])⟩ (Nat.le_of_ble_eq_true rfl) (Nat.le_of_ble_eq_true rfl) rfl rfl rfl ?_
  refine Wk.aastore (pc' := 63) (i := 6) (jn := 2) (H' := [obj "com/example/redoubt/redoubt/flow/FlowNetwork" ksFN [(.int (3 : Int32)), (rf hB 1), (rf hB 2), (rf hB 3), (rf hB 4), (.int (6 : Int32)), .null], ints [2, 0, 1, 0, 2, 1, 0, 0, 0, 0, 0, 0, 0, 0, 0, 0], ints cap, ints fl, longs cs, ints [0, 0, 2], arr (.array .int) [(rf hB 7), (rf hB 8), (rf hB 9)], ints [0, 0], ints [0, 0], ints [0, 0]]) d11_62 rfl rfl (fun _ P => Wk.stoA P rfl rfl (Ins.self (P.exaA (C := "[I") rfl rfl))) rfl (by decide) (by decide) (Nat.le_of_ble_eq_true rfl) rfl rfl ?_
  refine Wk.aloadN (pc' := 64) d11_63 rfl rfl rfl ?_
  refine Wk.iloadN (pc' := 65) d11_64 rfl rfl ?_
  refine Wk.iconst (pc' := 66) (0 : Int32) d11_65 (by decide) rfl ?_
  refine Wk.iastoreG (pc' := 67) (i := 5) (H' := [obj "com/example/redoubt/redoubt/flow/FlowNetwork" ksFN [(.int (3 : Int32)), (rf hB 1), (rf hB 2), (rf hB 3), (rf hB 4), (.int (6 : Int32)), .null], ints [2, 0, 1, 0, 2, 1, 0, 0, 0, 0, 0, 0, 0, 0, 0, 0], ints cap, ints fl, longs cs, ints [0, 0, 0], arr (.array .int) [(rf hB 7), (rf hB 8), (rf hB 9)], ints [0, 0], ints [0, 0], ints [0, 0]]) d11_66 rfl rfl rfl rfl ?_
  refine Wk.iinc (pc' := 70) (Ls' := #[.val (rf hB 0), .val (rf hB 5), .val (rf hB 6), .val (.int (3 : Int32)), .unset]) (3 : Int32) d11_67 rfl (by decide) rfl rfl ?_
  refine Wk.goTo (pc' := 47) d11_70 (by decide) (by decide) ?_
  refine Wk.iloadN (pc' := 48) d11_47 rfl rfl ?_
  refine Wk.aloadN (pc' := 49) d11_48 rfl rfl rfl ?_
  refine Wk.getF0 (pc' := 52) (i := 0) (j := 0) d11_49 (wd20 hw) rfl rfl rfl rfl ?_
  refine Wk.icY (pc' := 73) d11_52 (XT.ii_ge_t (by decide)) (by decide) (by decide) ?_
  refine Wk.iconst (pc' := 74) (0 : Int32) d11_73 (by decide) rfl ?_
  refine Wk.istoreN (pc' := 75) (Ls' := #[.val (rf hB 0), .val (rf hB 5), .val (rf hB 6), .val (.int (0 : Int32)), .unset]) d11_74 rfl rfl ?_
  refine Wk.iloadN (pc' := 76) d11_75 rfl rfl ?_
  refine Wk.aloadN (pc' := 77) d11_76 rfl rfl rfl ?_
  refine Wk.getF0 (pc' := 80) (i := 0) (j := 5) d11_77 (wd42 hw) rfl rfl rfl rfl ?_
  refine Wk.icN (pc' := 83) d11_80 (XT.ii_ge_f (by decide)) rfl ?_
  refine Wk.aloadN (pc' := 84) d11_83 rfl rfl rfl ?_
  refine Wk.getF0 (pc' := 87) (i := 0) (j := 1) d11_84 (wd11 hw) rfl rfl rfl rfl ?_
  refine Wk.iloadN (pc' := 88) d11_87 rfl rfl ?_
  refine Wk.iconst (pc' := 89) (1 : Int32) d11_88 (by decide) rfl ?_
  refine Wk.ixor (pc' := 90) d11_89 rfl ?_
  refine Wk.ialoadG (pc' := 91) (i := 1) d11_90 rfl rfl rfl ?_
  refine Wk.istore (pc' := 93) (Ls' := #[.val (rf hB 0), .val (rf hB 5), .val (rf hB 6), .val (.int (0 : Int32)), .val (.int (0 : Int32))]) d11_91 rfl rfl ?_
  refine Wk.aloadN (pc' := 94) d11_93 rfl rfl rfl ?_
  refine Wk.iload (pc' := 96) d11_94 rfl rfl ?_
  refine Wk.aaload (pc' := 97) (i := 6) (jn := 0) (v := (rf hB 7)) d11_96 rfl rfl (by decide) (by decide) rfl rfl ?_
  refine Wk.aloadN (pc' := 98) d11_97 rfl rfl rfl ?_
  refine Wk.iload (pc' := 100) d11_98 rfl rfl ?_
  refine Wk.dup2 (pc' := 101) d11_100 rfl rfl rfl ?_
  refine Wk.ialoadG (pc' := 102) (i := 5) d11_101 rfl rfl rfl ?_
  refine Wk.dupX2 (pc' := 103) d11_102 rfl rfl rfl rfl ?_
  refine Wk.iconst (pc' := 104) (1 : Int32) d11_103 (by decide) rfl ?_
  refine Wk.iadd (pc' := 105) d11_104 rfl ?_
  refine Wk.iastoreG (pc' := 106) (i := 5) (H' := [obj "com/example/redoubt/redoubt/flow/FlowNetwork" ksFN [(.int (3 : Int32)), (rf hB 1), (rf hB 2), (rf hB 3), (rf hB 4), (.int (6 : Int32)), .null], ints [2, 0, 1, 0, 2, 1, 0, 0, 0, 0, 0, 0, 0, 0, 0, 0], ints cap, ints fl, longs cs, ints [1, 0, 0], arr (.array .int) [(rf hB 7), (rf hB 8), (rf hB 9)], ints [0, 0], ints [0, 0], ints [0, 0]]) d11_105 rfl rfl rfl rfl ?_
  refine Wk.iloadN (pc' := 107) d11_106 rfl rfl ?_
  refine Wk.iastoreG (pc' := 108) (i := 7) (H' := [obj "com/example/redoubt/redoubt/flow/FlowNetwork" ksFN [(.int (3 : Int32)), (rf hB 1), (rf hB 2), (rf hB 3), (rf hB 4), (.int (6 : Int32)), .null], ints [2, 0, 1, 0, 2, 1, 0, 0, 0, 0, 0, 0, 0, 0, 0, 0], ints cap, ints fl, longs cs, ints [1, 0, 0], arr (.array .int) [(rf hB 7), (rf hB 8), (rf hB 9)], ints [0, 0], ints [0, 0], ints [0, 0]]) d11_107 rfl rfl rfl rfl ?_
  refine Wk.iinc (pc' := 111) (Ls' := #[.val (rf hB 0), .val (rf hB 5), .val (rf hB 6), .val (.int (1 : Int32)), .val (.int (0 : Int32))]) (1 : Int32) d11_108 rfl (by decide) rfl rfl ?_
  refine Wk.goTo (pc' := 75) d11_111 (by decide) (by decide) ?_
  refine Wk.iloadN (pc' := 76) d11_75 rfl rfl ?_
  refine Wk.aloadN (pc' := 77) d11_76 rfl rfl rfl ?_
  refine Wk.getF0 (pc' := 80) (i := 0) (j := 5) d11_77 (wd42 hw) rfl rfl rfl rfl ?_
  refine Wk.icN (pc' := 83) d11_80 (XT.ii_ge_f (by decide)) rfl ?_
  refine Wk.aloadN (pc' := 84) d11_83 rfl rfl rfl ?_
  refine Wk.getF0 (pc' := 87) (i := 0) (j := 1) d11_84 (wd11 hw) rfl rfl rfl rfl ?_
  refine Wk.iloadN (pc' := 88) d11_87 rfl rfl ?_
  refine Wk.iconst (pc' := 89) (1 : Int32) d11_88 (by decide) rfl ?_
  refine Wk.ixor (pc' := 90) d11_89 rfl ?_
  refine Wk.ialoadG (pc' := 91) (i := 1) d11_90 rfl rfl rfl ?_
  refine Wk.istore (pc' := 93) (Ls' := #[.val (rf hB 0), .val (rf hB 5), .val (rf hB 6), .val (.int (1 : Int32)), .val (.int (2 : Int32))]) d11_91 rfl rfl ?_
  refine Wk.aloadN (pc' := 94) d11_93 rfl rfl rfl ?_
  refine Wk.iload (pc' := 96) d11_94 rfl rfl ?_
  refine Wk.aaload (pc' := 97) (i := 6) (jn := 2) (v := (rf hB 9)) d11_96 rfl rfl (by decide) (by decide) rfl rfl ?_
  refine Wk.aloadN (pc' := 98) d11_97 rfl rfl rfl ?_
  refine Wk.iload (pc' := 100) d11_98 rfl rfl ?_
  refine Wk.dup2 (pc' := 101) d11_100 rfl rfl rfl ?_
  refine Wk.ialoadG (pc' := 102) (i := 5) d11_101 rfl rfl rfl ?_
  refine Wk.dupX2 (pc' := 103) d11_102 rfl rfl rfl rfl ?_
  refine Wk.iconst (pc' := 104) (1 : Int32) d11_103 (by decide) rfl ?_
  refine Wk.iadd (pc' := 105) d11_104 rfl ?_
  refine Wk.iastoreG (pc' := 106) (i := 5) (H' := [obj "com/example/redoubt/redoubt/flow/FlowNetwork" ksFN [(.int (3 : Int32)), (rf hB 1), (rf hB 2), (rf hB 3), (rf hB 4), (.int (6 : Int32)), .null], ints [2, 0, 1, 0, 2, 1, 0, 0, 0, 0, 0, 0, 0, 0, 0, 0], ints cap, ints fl, longs cs, ints [1, 0, 1], arr (.array .int) [(rf hB 7), (rf hB 8), (rf hB 9)], ints [0, 0], ints [0, 0], ints [0, 0]]) d11_105 rfl rfl rfl rfl ?_
  refine Wk.iloadN (pc' := 107) d11_106 rfl rfl ?_
  refine Wk.iastoreG (pc' := 108) (i := 9) (H' := [obj "com/example/redoubt/redoubt/flow/FlowNetwork" ksFN [(.int (3 : Int32)), (rf hB 1), (rf hB 2), (rf hB 3), (rf hB 4), (.int (6 : Int32)), .null], ints [2, 0, 1, 0, 2, 1, 0, 0, 0, 0, 0, 0, 0, 0, 0, 0], ints cap, ints fl, longs cs, ints [1, 0, 1], arr (.array .int) [(rf hB 7), (rf hB 8), (rf hB 9)], ints [0, 0], ints [0, 0], ints [1, 0]]) d11_107 rfl rfl rfl rfl ?_
  refine Wk.iinc (pc' := 111) (Ls' := #[.val (rf hB 0), .val (rf hB 5), .val (rf hB 6), .val (.int (2 : Int32)), .val (.int (2 : Int32))]) (2 : Int32) d11_108 rfl (by decide) rfl rfl ?_
  refine Wk.goTo (pc' := 75) d11_111 (by decide) (by decide) ?_
  refine Wk.iloadN (pc' := 76) d11_75 rfl rfl ?_
  refine Wk.aloadN (pc' := 77) d11_76 rfl rfl rfl ?_
  refine Wk.getF0 (pc' := 80) (i := 0) (j := 5) d11_77 (wd42 hw) rfl rfl rfl rfl ?_
  refine Wk.icN (pc' := 83) d11_80 (XT.ii_ge_f (by decide)) rfl ?_
  refine Wk.aloadN (pc' := 84) d11_83 rfl rfl rfl ?_
  refine Wk.getF0 (pc' := 87) (i := 0) (j := 1) d11_84 (wd11 hw) rfl rfl rfl rfl ?_
  refine Wk.iloadN (pc' := 88) d11_87 rfl rfl ?_
  refine Wk.iconst (pc' := 89) (1 : Int32) d11_88 (by decide) rfl ?_
  refine Wk.ixor (pc' := 90) d11_89 rfl ?_
  refine Wk.ialoadG (pc' := 91) (i := 1) d11_90 rfl rfl rfl ?_
  refine Wk.istore (pc' := 93) (Ls' := #[.val (rf hB 0), .val (rf hB 5), .val (rf hB 6), .val (.int (2 : Int32)), .val (.int (0 : Int32))]) d11_91 rfl rfl ?_
  refine Wk.aloadN (pc' := 94) d11_93 rfl rfl rfl ?_
  refine Wk.iload (pc' := 96) d11_94 rfl rfl ?_
  refine Wk.aaload (pc' := 97) (i := 6) (jn := 0) (v := (rf hB 7)) d11_96 rfl rfl (by decide) (by decide) rfl rfl ?_
  refine Wk.aloadN (pc' := 98) d11_97 rfl rfl rfl ?_
  refine Wk.iload (pc' := 100) d11_98 rfl rfl ?_
  refine Wk.dup2 (pc' := 101) d11_100 rfl rfl rfl ?_
  refine Wk.ialoadG (pc' := 102) (i := 5) d11_101 rfl rfl rfl ?_
  refine Wk.dupX2 (pc' := 103) d11_102 rfl rfl rfl rfl ?_
  refine Wk.iconst (pc' := 104) (1 : Int32) d11_103 (by decide) rfl ?_
  refine Wk.iadd (pc' := 105) d11_104 rfl ?_
  refine Wk.iastoreG (pc' := 106) (i := 5) (H' := [obj "com/example/redoubt/redoubt/flow/FlowNetwork" ksFN [(.int (3 : Int32)), (rf hB 1), (rf hB 2), (rf hB 3), (rf hB 4), (.int (6 : Int32)), .null], ints [2, 0, 1, 0, 2, 1, 0, 0, 0, 0, 0, 0, 0, 0, 0, 0], ints cap, ints fl, longs cs, ints [2, 0, 1], arr (.array .int) [(rf hB 7), (rf hB 8), (rf hB 9)], ints [0, 0], ints [0, 0], ints [1, 0]]) d11_105 rfl rfl rfl rfl ?_
  refine Wk.iloadN (pc' := 107) d11_106 rfl rfl ?_
  refine Wk.iastoreG (pc' := 108) (i := 7) (H' := [obj "com/example/redoubt/redoubt/flow/FlowNetwork" ksFN [(.int (3 : Int32)), (rf hB 1), (rf hB 2), (rf hB 3), (rf hB 4), (.int (6 : Int32)), .null], ints [2, 0, 1, 0, 2, 1, 0, 0, 0, 0, 0, 0, 0, 0, 0, 0], ints cap, ints fl, longs cs, ints [2, 0, 1], arr (.array .int) [(rf hB 7), (rf hB 8), (rf hB 9)], ints [0, 2], ints [0, 0], ints [1, 0]]) d11_107 rfl rfl rfl rfl ?_
  refine Wk.iinc (pc' := 111) (Ls' := #[.val (rf hB 0), .val (rf hB 5), .val (rf hB 6), .val (.int (3 : Int32)), .val (.int (0 : Int32))]) (3 : Int32) d11_108 rfl (by decide) rfl rfl ?_
  refine Wk.goTo (pc' := 75) d11_111 (by decide) (by decide) ?_
  refine Wk.iloadN (pc' := 76) d11_75 rfl rfl ?_
  refine Wk.aloadN (pc' := 77) d11_76 rfl rfl rfl ?_
  refine Wk.getF0 (pc' := 80) (i := 0) (j := 5) d11_77 (wd42 hw) rfl rfl rfl rfl ?_
  refine Wk.icN (pc' := 83) d11_80 (XT.ii_ge_f (by decide)) rfl ?_
  refine Wk.aloadN (pc' := 84) d11_83 rfl rfl rfl ?_
  refine Wk.getF0 (pc' := 87) (i := 0) (j := 1) d11_84 (wd11 hw) rfl rfl rfl rfl ?_
  refine Wk.iloadN (pc' := 88) d11_87 rfl rfl ?_
  refine Wk.iconst (pc' := 89) (1 : Int32) d11_88 (by decide) rfl ?_
  refine Wk.ixor (pc' := 90) d11_89 rfl ?_
  refine Wk.ialoadG (pc' := 91) (i := 1) d11_90 rfl rfl rfl ?_
  refine Wk.istore (pc' := 93) (Ls' := #[.val (rf hB 0), .val (rf hB 5), .val (rf hB 6), .val (.int (3 : Int32)), .val (.int (1 : Int32))]) d11_91 rfl rfl ?_
  refine Wk.aloadN (pc' := 94) d11_93 rfl rfl rfl ?_
  refine Wk.iload (pc' := 96) d11_94 rfl rfl ?_
  refine Wk.aaload (pc' := 97) (i := 6) (jn := 1) (v := (rf hB 8)) d11_96 rfl rfl (by decide) (by decide) rfl rfl ?_
  refine Wk.aloadN (pc' := 98) d11_97 rfl rfl rfl ?_
  refine Wk.iload (pc' := 100) d11_98 rfl rfl ?_
  refine Wk.dup2 (pc' := 101) d11_100 rfl rfl rfl ?_
  refine Wk.ialoadG (pc' := 102) (i := 5) d11_101 rfl rfl rfl ?_
  refine Wk.dupX2 (pc' := 103) d11_102 rfl rfl rfl rfl ?_
  refine Wk.iconst (pc' := 104) (1 : Int32) d11_103 (by decide) rfl ?_
  refine Wk.iadd (pc' := 105) d11_104 rfl ?_
  refine Wk.iastoreG (pc' := 106) (i := 5) (H' := [obj "com/example/redoubt/redoubt/flow/FlowNetwork" ksFN [(.int (3 : Int32)), (rf hB 1), (rf hB 2), (rf hB 3), (rf hB 4), (.int (6 : Int32)), .null], ints [2, 0, 1, 0, 2, 1, 0, 0, 0, 0, 0, 0, 0, 0, 0, 0], ints cap, ints fl, longs cs, ints [2, 1, 1], arr (.array .int) [(rf hB 7), (rf hB 8), (rf hB 9)], ints [0, 2], ints [0, 0], ints [1, 0]]) d11_105 rfl rfl rfl rfl ?_
  refine Wk.iloadN (pc' := 107) d11_106 rfl rfl ?_
  refine Wk.iastoreG (pc' := 108) (i := 8) (H' := [obj "com/example/redoubt/redoubt/flow/FlowNetwork" ksFN [(.int (3 : Int32)), (rf hB 1), (rf hB 2), (rf hB 3), (rf hB 4), (.int (6 : Int32)), .null], ints [2, 0, 1, 0, 2, 1, 0, 0, 0, 0, 0, 0, 0, 0, 0, 0], ints cap, ints fl, longs cs, ints [2, 1, 1], arr (.array .int) [(rf hB 7), (rf hB 8), (rf hB 9)], ints [0, 2], ints [3, 0], ints [1, 0]]) d11_107 rfl rfl rfl rfl ?_
  refine Wk.iinc (pc' := 111) (Ls' := #[.val (rf hB 0), .val (rf hB 5), .val (rf hB 6), .val (.int (4 : Int32)), .val (.int (1 : Int32))]) (4 : Int32) d11_108 rfl (by decide) rfl rfl ?_
  refine Wk.goTo (pc' := 75) d11_111 (by decide) (by decide) ?_
  refine Wk.iloadN (pc' := 76) d11_75 rfl rfl ?_
  refine Wk.aloadN (pc' := 77) d11_76 rfl rfl rfl ?_
  refine Wk.getF0 (pc' := 80) (i := 0) (j := 5) d11_77 (wd42 hw) rfl rfl rfl rfl ?_
  refine Wk.icN (pc' := 83) d11_80 (XT.ii_ge_f (by decide)) rfl ?_
  refine Wk.aloadN (pc' := 84) d11_83 rfl rfl rfl ?_
  refine Wk.getF0 (pc' := 87) (i := 0) (j := 1) d11_84 (wd11 hw) rfl rfl rfl rfl ?_
  refine Wk.iloadN (pc' := 88) d11_87 rfl rfl ?_
  refine Wk.iconst (pc' := 89) (1 : Int32) d11_88 (by decide) rfl ?_
  refine Wk.ixor (pc' := 90) d11_89 rfl ?_
  refine Wk.ialoadG (pc' := 91) (i := 1) d11_90 rfl rfl rfl ?_
  refine Wk.istore (pc' := 93) (Ls' := #[.val (rf hB 0), .val (rf hB 5), .val (rf hB 6), .val (.int (4 : Int32)), .val (.int (1 : Int32))]) d11_91 rfl rfl ?_
  refine Wk.aloadN (pc' := 94) d11_93 rfl rfl rfl ?_
  refine Wk.iload (pc' := 96) d11_94 rfl rfl ?_
  refine Wk.aaload (pc' := 97) (i := 6) (jn := 1) (v := (rf hB 8)) d11_96 rfl rfl (by decide) (by decide) rfl rfl ?_
  refine Wk.aloadN (pc' := 98) d11_97 rfl rfl rfl ?_
  refine Wk.iload (pc' := 100) d11_98 rfl rfl ?_
  refine Wk.dup2 (pc' := 101) d11_100 rfl rfl rfl ?_
  refine Wk.ialoadG (pc' := 102) (i := 5) d11_101 rfl rfl rfl ?_
  refine Wk.dupX2 (pc' := 103) d11_102 rfl rfl rfl rfl ?_
  refine Wk.iconst (pc' := 104) (1 : Int32) d11_103 (by decide) rfl ?_
  refine Wk.iadd (pc' := 105) d11_104 rfl ?_
  refine Wk.iastoreG (pc' := 106) (i := 5) (H' := [obj "com/example/redoubt/redoubt/flow/FlowNetwork" ksFN [(.int (3 : Int32)), (rf hB 1), (rf hB 2), (rf hB 3), (rf hB 4), (.int (6 : Int32)), .null], ints [2, 0, 1, 0, 2, 1, 0, 0, 0, 0, 0, 0, 0, 0, 0, 0], ints cap, ints fl, longs cs, ints [2, 2, 1], arr (.array .int) [(rf hB 7), (rf hB 8), (rf hB 9)], ints [0, 2], ints [3, 0], ints [1, 0]]) d11_105 rfl rfl rfl rfl ?_
  refine Wk.iloadN (pc' := 107) d11_106 rfl rfl ?_
  refine Wk.iastoreG (pc' := 108) (i := 8) (H' := [obj "com/example/redoubt/redoubt/flow/FlowNetwork" ksFN [(.int (3 : Int32)), (rf hB 1), (rf hB 2), (rf hB 3), (rf hB 4), (.int (6 : Int32)), .null], ints [2, 0, 1, 0, 2, 1, 0, 0, 0, 0, 0, 0, 0, 0, 0, 0], ints cap, ints fl, longs cs, ints [2, 2, 1], arr (.array .int) [(rf hB 7), (rf hB 8), (rf hB 9)], ints [0, 2], ints [3, 4], ints [1, 0]]) d11_107 rfl rfl rfl rfl ?_
  refine Wk.iinc (pc' := 111) (Ls' := #[.val (rf hB 0), .val (rf hB 5), .val (rf hB 6), .val (.int (5 : Int32)), .val (.int (1 : Int32))]) (5 : Int32) d11_108 rfl (by decide) rfl rfl ?_
  refine Wk.goTo (pc' := 75) d11_111 (by decide) (by decide) ?_
  refine Wk.iloadN (pc' := 76) d11_75 rfl rfl ?_
  refine Wk.aloadN (pc' := 77) d11_76 rfl rfl rfl ?_
  refine Wk.getF0 (pc' := 80) (i := 0) (j := 5) d11_77 (wd42 hw) rfl rfl rfl rfl ?_
  refine Wk.icN (pc' := 83) d11_80 (XT.ii_ge_f (by decide)) rfl ?_
  refine Wk.aloadN (pc' := 84) d11_83 rfl rfl rfl ?_
  refine Wk.getF0 (pc' := 87) (i := 0) (j := 1) d11_84 (wd11 hw) rfl rfl rfl rfl ?_
  refine Wk.iloadN (pc' := 88) d11_87 rfl rfl ?_
  refine Wk.iconst (pc' := 89) (1 : Int32) d11_88 (by decide) rfl ?_
  refine Wk.ixor (pc' := 90) d11_89 rfl ?_
  refine Wk.ialoadG (pc' := 91) (i := 1) d11_90 rfl rfl rfl ?_
  refine Wk.istore (pc' := 93) (Ls' := #[.val (rf hB 0), .val (rf hB 5), .val (rf hB 6), .val (.int (5 : Int32)), .val (.int (2 : Int32))]) d11_91 rfl rfl ?_
  refine Wk.aloadN (pc' := 94) d11_93 rfl rfl rfl ?_
  refine Wk.iload (pc' := 96) d11_94 rfl rfl ?_
  refine Wk.aaload (pc' := 97) (i := 6) (jn := 2) (v := (rf hB 9)) d11_96 rfl rfl (by decide) (by decide) rfl rfl ?_
  refine Wk.aloadN (pc' := 98) d11_97 rfl rfl rfl ?_
  refine Wk.iload (pc' := 100) d11_98 rfl rfl ?_
  refine Wk.dup2 (pc' := 101) d11_100 rfl rfl rfl ?_
  refine Wk.ialoadG (pc' := 102) (i := 5) d11_101 rfl rfl rfl ?_
  refine Wk.dupX2 (pc' := 103) d11_102 rfl rfl rfl rfl ?_
  refine Wk.iconst (pc' := 104) (1 : Int32) d11_103 (by decide) rfl ?_
  refine Wk.iadd (pc' := 105) d11_104 rfl ?_
  refine Wk.iastoreG (pc' := 106) (i := 5) (H' := [obj "com/example/redoubt/redoubt/flow/FlowNetwork" ksFN [(.int (3 : Int32)), (rf hB 1), (rf hB 2), (rf hB 3), (rf hB 4), (.int (6 : Int32)), .null], ints [2, 0, 1, 0, 2, 1, 0, 0, 0, 0, 0, 0, 0, 0, 0, 0], ints cap, ints fl, longs cs, ints [2, 2, 2], arr (.array .int) [(rf hB 7), (rf hB 8), (rf hB 9)], ints [0, 2], ints [3, 4], ints [1, 0]]) d11_105 rfl rfl rfl rfl ?_
  refine Wk.iloadN (pc' := 107) d11_106 rfl rfl ?_
  refine Wk.iastoreG (pc' := 108) (i := 9) (H' := [obj "com/example/redoubt/redoubt/flow/FlowNetwork" ksFN [(.int (3 : Int32)), (rf hB 1), (rf hB 2), (rf hB 3), (rf hB 4), (.int (6 : Int32)), .null], ints [2, 0, 1, 0, 2, 1, 0, 0, 0, 0, 0, 0, 0, 0, 0, 0], ints cap, ints fl, longs cs, ints [2, 2, 2], arr (.array .int) [(rf hB 7), (rf hB 8), (rf hB 9)], ints [0, 2], ints [3, 4], ints [1, 5]]) d11_107 rfl rfl rfl rfl ?_
  refine Wk.iinc (pc' := 111) (Ls' := #[.val (rf hB 0), .val (rf hB 5), .val (rf hB 6), .val (.int (6 : Int32)), .val (.int (2 : Int32))]) (6 : Int32) d11_108 rfl (by decide) rfl rfl ?_
  refine Wk.goTo (pc' := 75) d11_111 (by decide) (by decide) ?_
  refine Wk.iloadN (pc' := 76) d11_75 rfl rfl ?_
  refine Wk.aloadN (pc' := 77) d11_76 rfl rfl rfl ?_
  refine Wk.getF0 (pc' := 80) (i := 0) (j := 5) d11_77 (wd42 hw) rfl rfl rfl rfl ?_
  refine Wk.icY (pc' := 114) d11_80 (XT.ii_ge_t (by decide)) (by decide) (by decide) ?_
  refine Wk.aloadN (pc' := 115) d11_114 rfl rfl rfl ?_
  exact Wk.aret (t := (.array (.array .int))) d11_115 rfl rfl rfl (Nat.le_of_ble_eq_true rfl) (Nat.le_of_ble_eq_true rfl) ⟨rfl, rfl⟩
set_option maxRecDepth 65536 in
set_option maxHeartbeats 40000000 in
theorem m_prep_B (l : Launch) (Z : State) (a0 : Array Value) (hw : ∀ d ∈ tables_1, d.before a0 Z = true) (hB : Heap) (cap fl : List Int32) (cs : List Int64) (sr sk : Int32) (a1 : ¬ sr < 0) (a2 : sr < 3) (b1 : ¬ sk < 0) (b2 : sk < 3) (hne : ¬ sr = sk) : Ctr l Z hB ({ cls := "com/example/redoubt/redoubt/flow/FlowNetwork", name := "prepare", desc := "(II)V" } : Jvm.MethodName) prog_4_method_14_code 3 none [] ({ frames := 1, cells := 5, slots := 12, locals := 17 } : Room) #[(rf hB 0), (.int sr), (.int sk)] [obj "com/example/redoubt/redoubt/flow/FlowNetwork" ksFN [(.int (3 : Int32)), (rf hB 1), (rf hB 2), (rf hB 3), (rf hB 4), (.int (6 : Int32)), .null], ints [2, 0, 1, 0, 2, 1, 0, 0, 0, 0, 0, 0, 0, 0, 0, 0], ints cap, ints fl, longs cs] (fun v H' => v = none ∧ H' = [obj "com/example/redoubt/redoubt/flow/FlowNetwork" ksFN [(.int (3 : Int32)), (rf hB 1), (rf hB 2), (rf hB 3), (rf hB 4), (.int (6 : Int32)), (rf hB 6)], ints [2, 0, 1, 0, 2, 1, 0, 0, 0, 0, 0, 0, 0, 0, 0, 0], ints cap, ints fl, longs cs, ints [2, 2, 2], arr (.array .int) [(rf hB 7), (rf hB 8), (rf hB 9)], ints [0, 2], ints [3, 4], ints [1, 5]]) := by
  refine Wk.ctr pn_15 (Ls := #[.val (rf hB 0), .val (.int sr), .val (.int sk)]) (fun m => by first | rfl | (simp [entryFrame, mkF, argsToLocals, Value.category]; done)) ?_
  refine Wk.aloadN (pc' := 1) d10_0 rfl rfl rfl ?_
  refine Wk.iloadN (pc' := 2) d10_1 rfl rfl ?_
  refine Wk.callP (pc' := 5) (argsL := [(.int sr)]) (st := []) d10_2 (wd32 hw) (wd33 hw) (Jvm.Kit.selects_private (by decide) (wd2 hw) (wd34 hw) (wd33 hw)) (wd34 hw) (wd3 hw) (wd35 hw) (by decide) (lenOf pd_0 rfl) (fun _ P => P.exa rfl) (m_cnode l Z a0 hw hB [obj "com/example/redoubt/redoubt/flow/FlowNetwork" ksFN [(.int (3 : Int32)), (rf hB 1), (rf hB 2), (rf hB 3), (rf hB 4), (.int (6 : Int32)), .null], ints [2, 0, 1, 0, 2, 1, 0, 0, 0, 0, 0, 0, 0, 0, 0, 0], ints cap, ints fl, longs cs] 6 sr .null rfl a1 a2) rfl (Nat.le_of_ble_eq_true rfl) (Nat.le_of_ble_eq_true rfl) (Nat.le_of_ble_eq_true rfl) (Nat.le_of_ble_eq_true rfl) rfl rfl ?_
  rintro _ _ ⟨rfl, hH⟩; obtain rfl := hH.symm
  show WP l Z hB _ _ _ _ _ _ _ _ [obj "com/example/redoubt/redoubt/flow/FlowNetwork" ksFN [(.int (3 : Int32)), (rf hB 1), (rf hB 2), (rf hB 3), (rf hB 4), (.int (6 : Int32)), .null], ints [2, 0, 1, 0, 2, 1, 0, 0, 0, 0, 0, 0, 0, 0, 0, 0], ints cap, ints fl, longs cs] _ _ []
  refine Wk.aloadN (pc' := 6) d10_5 rfl rfl rfl ?_
  refine Wk.iloadN (pc' := 7) d10_6 rfl rfl ?_
  refine Wk.callP (pc' := 10) (argsL := [(.int sk)]) (st := []) d10_7 (wd32 hw) (wd33 hw) (Jvm.Kit.selects_private (by decide) (wd2 hw) (wd34 hw) (wd33 hw)) (wd34 hw) (wd3 hw) (wd35 hw) (by decide) (lenOf pd_0 rfl) (fun _ P => P.exa rfl) (m_cnode l Z a0 hw hB [obj "com/example/redoubt/redoubt/flow/FlowNetwork" ksFN [(.int (3 : Int32)), (rf hB 1), (rf hB 2), (rf hB 3), (rf hB 4), (.int (6 : Int32)), .null], ints [2, 0, 1, 0, 2, 1, 0, 0, 0, 0, 0, 0, 0, 0, 0, 0], ints cap, ints fl, longs cs] 6 sk .null rfl b1 b2) rfl (Nat.le_of_ble_eq_true rfl) (Nat.le_of_ble_eq_true rfl) (Nat.le_of_ble_eq_true rfl) (Nat.le_of_ble_eq_true rfl) rfl rfl ?_
  rintro _ _ ⟨rfl, hH⟩; obtain rfl := hH.symm
  show WP l Z hB _ _ _ _ _ _ _ _ [obj "com/example/redoubt/redoubt/flow/FlowNetwork" ksFN [(.int (3 : Int32)), (rf hB 1), (rf hB 2), (rf hB 3), (rf hB 4), (.int (6 : Int32)), .null], ints [2, 0, 1, 0, 2, 1, 0, 0, 0, 0, 0, 0, 0, 0, 0, 0], ints cap, ints fl, longs cs] _ _ []
  refine Wk.iloadN (pc' := 11) d10_10 rfl rfl ?_
  refine Wk.iloadN (pc' := 12) d10_11 rfl rfl ?_
  refine Wk.icY (pc' := 29) d10_12 (XT.ii_ne_t hne) (by decide) (by decide) ?_
  refine Wk.aloadN (pc' := 30) d10_29 rfl rfl rfl ?_
  refine Wk.getF0 (pc' := 33) (i := 0) (j := 6) d10_30 (wd44 hw) rfl rfl rfl rfl ?_
  refine Wk.nonnullN (pc' := 36) d10_33 rfl ?_
  refine Wk.aloadN (pc' := 37) d10_36 rfl rfl rfl ?_
  refine Wk.aloadN (pc' := 38) d10_37 rfl rfl rfl ?_
  refine Wk.callP (pc' := 41) (argsL := []) (st := [(rf hB 0)]) d10_38 (wd64 hw) (wd65 hw) (Jvm.Kit.selects_private (by decide) (wd2 hw) (wd66 hw) (wd65 hw)) (wd66 hw) (wd3 hw) (wd67 hw) (by decide) (lenOf pd_7 rfl) (fun _ P => P.exa rfl) (m_group_B l Z a0 hw hB cap fl cs) rfl (Nat.le_of_ble_eq_true rfl) (Nat.le_of_ble_eq_true rfl) (Nat.le_of_ble_eq_true rfl) (Nat.le_of_ble_eq_true rfl) rfl rfl ?_
  rintro _ _ ⟨rfl, hH⟩; obtain rfl := hH.symm
  show WP l Z hB _ _ _ _ _ _ _ _ [obj "com/example/redoubt/redoubt/flow/FlowNetwork" ksFN [(.int (3 : Int32)), (rf hB 1), (rf hB 2), (rf hB 3), (rf hB 4), (.int (6 : Int32)), .null], ints [2, 0, 1, 0, 2, 1, 0, 0, 0, 0, 0, 0, 0, 0, 0, 0], ints cap, ints fl, longs cs, ints [2, 2, 2], arr (.array .int) [(rf hB 7), (rf hB 8), (rf hB 9)], ints [0, 2], ints [3, 4], ints [1, 5]] _ _ [(rf hB 6), (rf hB 0)]
  refine Wk.putF0 (pc' := 44) (i := 0) (j := 6) (H' := [obj "com/example/redoubt/redoubt/flow/FlowNetwork" ksFN [(.int (3 : Int32)), (rf hB 1), (rf hB 2), (rf hB 3), (rf hB 4), (.int (6 : Int32)), (rf hB 6)], ints [2, 0, 1, 0, 2, 1, 0, 0, 0, 0, 0, 0, 0, 0, 0, 0], ints cap, ints fl, longs cs, ints [2, 2, 2], arr (.array .int) [(rf hB 7), (rf hB 8), (rf hB 9)], ints [0, 2], ints [3, 4], ints [1, 5]]) (ty := (.array (.array .int))) d10_41 (wd44 hw) rfl rfl (Nat.le_of_ble_eq_true rfl) (Or.inl (wd45 hw)) (wd2 hw) (by decide) rfl rfl rfl rfl ?_
  exact Wk.vret d10_44 rfl (Nat.le_of_ble_eq_true rfl) (Nat.le_of_ble_eq_true rfl) ⟨rfl, rfl⟩
def Fm_mfl (hd : List Int32) (cap : List Int32) (cs : List Int64) (ct : List Int32) (r0 : List Int32) (r1 : List Int32) (r2 : List Int32) (ha : Int32) (sr sk : Int32) : Nat → List Int32 → List Int32 → List Int32 → List Int32 → Option (List Int32 × List Int32 × List Int32 × List Int32)
  | 0, _, _, _, _ => none
  | n + 1, fl, lv, nx, pa =>
    (Fm_lfs hd cap fl cs ct r0 r1 r2 ha lv nx pa sr sk).bind fun q1 =>
    if q1.1 = (0 : Int32) then (some ((fl), (q1.2.1), (nx), (pa))) else ((Fm_fill nx (0 : Int32)).bind fun q2 =>
    (Fm_bf hd cap fl cs ct r0 r1 r2 ha q1.2.1 q2 pa sr sk).bind fun q3 =>
    Fm_mfl hd cap cs ct r0 r1 r2 ha sr sk n (q3.1) (q1.2.1) (q3.2.1) (q3.2.2))
set_option maxRecDepth 65536 in
set_option maxHeartbeats 40000000 in
theorem m_mfl (l : Launch) (Z : State) (a0 : Array Value) (hw : ∀ d ∈ tables_1, d.before a0 Z = true) (hB : Heap) (hd : List Int32) (cap : List Int32) (cs : List Int64) (ct : List Int32) (r0 : List Int32) (r1 : List Int32) (r2 : List Int32) (ha : Int32) (sr sk : Int32) (n1 : Nat) (Q : Option Value → List Rec → Prop) (G : List Rec) (hn : 10 + G.length + 3 + 5 ≤ n1 + 13) : ∀ (n : Nat) (fl lv nx pa : List Int32) (K : List Rec) (sl : Nat) (out : List Int32 × List Int32 × List Int32 × List Int32), K.length + n ≤ 4 → sl + 3 * n ≤ 40 → Fm_mfl hd cap cs ct r0 r1 r2 ha sr sk n fl lv nx pa = some out → (∀ (K : List Rec) (sl : Nat), K.length ≤ 4 → sl ≤ 40 → WP l Z hB ({ cls := "com/example/redoubt/redoubt/flow/FlowNetwork", name := "maxFlow", desc := "(II)J" } : Jvm.MethodName) prog_4_method_8_code 6 (some .long) ({ frames := 3, cells := 13, slots := 40, locals := 60 } : Room) n1 Q sl ([obj "com/example/redoubt/redoubt/flow/FlowNetwork" ksFN [(.int (3 : Int32)), (rf hB 1), (rf hB 2), (rf hB 3), (rf hB 4), (.int ha), (rf hB 6)], ints hd, ints cap, ints out.1, longs cs, ints ct, arr (.array .int) [(rf hB 7), (rf hB 8), (rf hB 9)], ints r0, ints r1, ints r2] ++ (G ++ ([ints out.2.1, ints out.2.2.1, ints out.2.2.2] ++ K))) 59 #[.val (rf hB 0), .val (.int sr), .val (.int sk), .val (rf hB (10 + G.length + 0)), .val (rf hB (10 + G.length + 1)), .val (rf hB (10 + G.length + 2))] []) → WP l Z hB ({ cls := "com/example/redoubt/redoubt/flow/FlowNetwork", name := "maxFlow", desc := "(II)J" } : Jvm.MethodName) prog_4_method_8_code 6 (some .long) ({ frames := 3, cells := 13, slots := 40, locals := 60 } : Room) n1 Q sl ([obj "com/example/redoubt/redoubt/flow/FlowNetwork" ksFN [(.int (3 : Int32)), (rf hB 1), (rf hB 2), (rf hB 3), (rf hB 4), (.int ha), (rf hB 6)], ints hd, ints cap, ints fl, longs cs, ints ct, arr (.array .int) [(rf hB 7), (rf hB 8), (rf hB 9)], ints r0, ints r1, ints r2] ++ (G ++ ([ints lv, ints nx, ints pa] ++ K))) 29 #[.val (rf hB 0), .val (.int sr), .val (.int sk), .val (rf hB (10 + G.length + 0)), .val (rf hB (10 + G.length + 1)), .val (rf hB (10 + G.length + 2))] [] := by
  intro n
  induction n with
  | zero => intro _ _ _ _ _ _ out _ _ hM; cases hM
  | succ n ih =>
    intro fl lv nx pa K sl out hK hsl hM hk
    simp only [Fm_mfl] at hM
    refine Wk.aloadN (pc' := 30) d9_29 rfl rfl rfl ?_
    refine Wk.iloadN (pc' := 31) d9_30 rfl rfl ?_
    refine Wk.iloadN (pc' := 32) d9_31 rfl rfl ?_
    refine Wk.aloadN (pc' := 33) d9_32 rfl rfl rfl ?_
    obtain ⟨q1, eq1, hM⟩ := Option.bind_eq_some_iff.mp hM
    refine Wk.callP (pc' := 36) (argsL := [(.int sr), (.int sk), (rf hB (10 + G.length + 0))]) (st := []) d9_33 (wd71 hw) (wd72 hw) (Jvm.Kit.selects_private (by decide) (wd2 hw) (wd73 hw) (wd72 hw)) (wd73 hw) (wd3 hw) (wd74 hw) (by decide) (lenOf pd_8 rfl) (fun _ P => P.exa rfl) (m_lfs l Z a0 hw hB G K hd cap fl cs ct r0 r1 r2 ha lv nx pa sr sk q1 eq1) rfl (Nat.le_of_ble_eq_true rfl) (Nat.le_of_ble_eq_true rfl) (by simp only [List.length_append, List.length_cons, List.length_nil] <;> omega) (by show sl + 3 ≤ 40; omega) rfl rfl ?_
    rintro _ _ ⟨rfl, hH⟩; obtain rfl := hH.symm
    show WP l Z hB _ _ _ _ _ _ _ _ ([obj "com/example/redoubt/redoubt/flow/FlowNetwork" ksFN [(.int (3 : Int32)), (rf hB 1), (rf hB 2), (rf hB 3), (rf hB 4), (.int ha), (rf hB 6)], ints hd, ints cap, ints fl, longs cs, ints ct, arr (.array .int) [(rf hB 7), (rf hB 8), (rf hB 9)], ints r0, ints r1, ints r2] ++ (G ++ ([ints q1.2.1, ints nx, ints pa] ++ (K ++ [ints q1.2.2])))) _ _ [(.int q1.1)]
    by_cases hc1 : q1.1 = (0 : Int32)
    ·
      rw [if_pos hc1] at hM
      refine Wk.ifY (pc' := 59) d9_36 (XT.i0_eq_t hc1) (by decide) (by decide) ?_
      obtain rfl := Option.some.inj hM
      exact hk (K ++ [ints q1.2.2]) _ (by simp; omega) (by show _ + 3 ≤ 40; omega)
    ·
      rw [if_neg hc1] at hM
      refine Wk.ifN (pc' := 39) d9_36 (XT.i0_eq_f hc1) rfl ?_
      refine Wk.aload (pc' := 41) d9_39 rfl rfl rfl ?_
      refine Wk.iconst (pc' := 42) (0 : Int32) d9_41 (by decide) rfl ?_
      obtain ⟨q2, eq2, hM⟩ := Option.bind_eq_some_iff.mp hM
      refine Wk.callS (pc' := 45) (argsL := [(rf hB (10 + G.length + 1)), (.int (0 : Int32))]) (st := []) d9_42 (wd75 hw) (wd76 hw) (wd77 hw) (wd78 hw) (by decide) (lenOf pd_4 rfl) (m_fill l Z a0 hw hB ([obj "com/example/redoubt/redoubt/flow/FlowNetwork" ksFN [(.int (3 : Int32)), (rf hB 1), (rf hB 2), (rf hB 3), (rf hB 4), (.int ha), (rf hB 6)], ints hd, ints cap, ints fl, longs cs, ints ct, arr (.array .int) [(rf hB 7), (rf hB 8), (rf hB 9)], ints r0, ints r1, ints r2] ++ (G ++ ([ints q1.2.1, ints nx, ints pa] ++ (K ++ [ints q1.2.2])))) (10 + G.length + 1) nx (0 : Int32) q2 eq2 (Wk.getT rfl)) rfl (Nat.le_of_ble_eq_true rfl) (Nat.le_of_ble_eq_true rfl) (by simp only [List.length_append, List.length_cons, List.length_nil] <;> omega) (by show sl + 3 + 0 ≤ 40; omega) rfl rfl ?_
      rintro _ _ ⟨rfl, hH⟩; obtain rfl := hH.symm; refine Wk.WP.heap Wk.setT ?_
      show WP l Z hB _ _ _ _ _ _ _ _ ([obj "com/example/redoubt/redoubt/flow/FlowNetwork" ksFN [(.int (3 : Int32)), (rf hB 1), (rf hB 2), (rf hB 3), (rf hB 4), (.int ha), (rf hB 6)], ints hd, ints cap, ints fl, longs cs, ints ct, arr (.array .int) [(rf hB 7), (rf hB 8), (rf hB 9)], ints r0, ints r1, ints r2] ++ (G ++ ([ints q1.2.1, ints q2, ints pa] ++ (K ++ [ints q1.2.2])))) _ _ []
      refine Wk.aloadN (pc' := 46) d9_45 rfl rfl rfl ?_
      refine Wk.iloadN (pc' := 47) d9_46 rfl rfl ?_
      refine Wk.iloadN (pc' := 48) d9_47 rfl rfl ?_
      refine Wk.aloadN (pc' := 49) d9_48 rfl rfl rfl ?_
      refine Wk.aload (pc' := 51) d9_49 rfl rfl rfl ?_
      refine Wk.aload (pc' := 53) d9_51 rfl rfl rfl ?_
      obtain ⟨q3, eq3, hM⟩ := Option.bind_eq_some_iff.mp hM
      refine Wk.callP (pc' := 56) (argsL := [(.int sr), (.int sk), (rf hB (10 + G.length + 0)), (rf hB (10 + G.length + 1)), (rf hB (10 + G.length + 2))]) (st := []) d9_53 (wd83 hw) (wd84 hw) (Jvm.Kit.selects_private (by decide) (wd2 hw) (wd85 hw) (wd84 hw)) (wd85 hw) (wd3 hw) (wd86 hw) (by decide) (lenOf pd_9 rfl) (fun _ P => P.exa rfl) (m_bf l Z a0 hw hB G (K ++ [ints q1.2.2]) hd cap fl cs ct r0 r1 r2 ha q1.2.1 q2 pa sr sk q3 eq3) rfl (Nat.le_of_ble_eq_true rfl) (Nat.le_of_ble_eq_true rfl) (by simp only [List.length_append, List.length_cons, List.length_nil] <;> omega) (by show sl + 3 + 0 + 0 ≤ 40; omega) rfl rfl ?_
      rintro _ _ ⟨rfl, hH⟩; obtain rfl := hH.symm
      show WP l Z hB _ _ _ _ _ _ _ _ ([obj "com/example/redoubt/redoubt/flow/FlowNetwork" ksFN [(.int (3 : Int32)), (rf hB 1), (rf hB 2), (rf hB 3), (rf hB 4), (.int ha), (rf hB 6)], ints hd, ints cap, ints q3.1, longs cs, ints ct, arr (.array .int) [(rf hB 7), (rf hB 8), (rf hB 9)], ints r0, ints r1, ints r2] ++ (G ++ ([ints q1.2.1, ints q3.2.1, ints q3.2.2] ++ (K ++ [ints q1.2.2])))) _ _ []
      refine Wk.goTo (pc' := 29) d9_56 (by decide) (by decide) ?_
      exact ih (q3.1) (q1.2.1) (q3.2.1) (q3.2.2) (K ++ [ints q1.2.2]) _ out (by simp; omega) (by show _ + 3 + 0 + 0 + 3 * n ≤ 40; omega) hM hk
def Fm_mf6 (hd : List Int32) (cap : List Int32) (cs : List Int64) (ct : List Int32) (r0 : List Int32) (r1 : List Int32) (r2 : List Int32) (ha : Int32) (sr sk : Int32) (fl : List Int32) : Option (Int64 × List Int32) :=
    (Fm_mfl hd cap cs ct r0 r1 r2 ha sr sk 4 fl [0, 0, 0] [0, 0, 0] [0, 0, 0]).bind fun q1 =>
    (Fm_of hd cap q1.1 cs ct r0 r1 r2 ha sr).bind fun q2 =>
    some (q2, q1.1)
set_option maxRecDepth 65536 in
set_option maxHeartbeats 40000000 in
theorem m_mf6 (l : Launch) (Z : State) (a0 : Array Value) (hw : ∀ d ∈ tables_1, d.before a0 Z = true) (hB : Heap) (hd : List Int32) (cap : List Int32) (cs : List Int64) (ct : List Int32) (r0 : List Int32) (r1 : List Int32) (r2 : List Int32) (ha : Int32) (sr sk : Int32) (fl : List Int32) (G : List Rec) (n1 sl : Nat) (Q : Option Value → List Rec → Prop) (hn : 10 + G.length + 3 + 5 ≤ n1 + 13) (hsl : sl ≤ 12) (out : Int64 × List Int32) (hM : Fm_mf6 hd cap cs ct r0 r1 r2 ha sr sk fl = some out) (hq : ∀ v H', (v = some (.long out.1) ∧ ∃ G', H' = ([obj "com/example/redoubt/redoubt/flow/FlowNetwork" ksFN [(.int (3 : Int32)), (rf hB 1), (rf hB 2), (rf hB 3), (rf hB 4), (.int ha), (rf hB 6)], ints hd, ints cap, ints out.2, longs cs, ints ct, arr (.array .int) [(rf hB 7), (rf hB 8), (rf hB 9)], ints r0, ints r1, ints r2] ++ G') ∧ G'.length ≤ G.length + 7) → Q v H') : WP l Z hB ({ cls := "com/example/redoubt/redoubt/flow/FlowNetwork", name := "maxFlow", desc := "(II)J" } : Jvm.MethodName) prog_4_method_8_code 6 (some .long) ({ frames := 3, cells := 13, slots := 40, locals := 60 } : Room) n1 Q sl ([obj "com/example/redoubt/redoubt/flow/FlowNetwork" ksFN [(.int (3 : Int32)), (rf hB 1), (rf hB 2), (rf hB 3), (rf hB 4), (.int ha), (rf hB 6)], ints hd, ints cap, ints fl, longs cs, ints ct, arr (.array .int) [(rf hB 7), (rf hB 8), (rf hB 9)], ints r0, ints r1, ints r2] ++ G) 6 #[.val (rf hB 0), .val (.int sr), .val (.int sk), .unset, .unset, .unset] [] := by
  simp only [Fm_mf6] at hM
  refine Wk.aloadN (pc' := 7) d9_6 rfl rfl rfl ?_
  refine Wk.getF0 (pc' := 10) (i := 0) (j := 0) d9_7 (wd20 hw) rfl rfl rfl rfl ?_
  refine Wk.newArr (pc' := 12) (i := (10 + G.length + 0)) (nn := 3) (H' := ([obj "com/example/redoubt/redoubt/flow/FlowNetwork" ksFN [(.int (3 : Int32)), (rf hB 1), (rf hB 2), (rf hB 3), (rf hB 4), (.int ha), (rf hB 6)], ints hd, ints cap, ints fl, longs cs, ints ct, arr (.array .int) [(rf hB 7), (rf hB 8), (rf hB 9)], ints r0, ints r1, ints r2] ++ (G ++ [ints [0, 0, 0]]))) d9_10 (wd10 hw) (by decide) (by decide) (by omega) rfl ⟨(by intro C; simp [newarray.typeOf]), (by intro C; simp [newarray.typeOf])⟩ (by simp only [List.length_append, List.length_cons, List.length_nil] <;> omega) (by show _ + _ ≤ 40; omega) (List.append_assoc _ _ _) (by simp only [List.length_append, List.length_cons, List.length_nil] <;> omega) rfl ?_
  refine Wk.astoreN (pc' := 13) (Ls' := #[.val (rf hB 0), .val (.int sr), .val (.int sk), .val (rf hB (10 + G.length + 0)), .unset, .unset]) d9_12 rfl rfl rfl ?_
  refine Wk.aloadN (pc' := 14) d9_13 rfl rfl rfl ?_
  refine Wk.getF0 (pc' := 17) (i := 0) (j := 0) d9_14 (wd20 hw) rfl rfl rfl rfl ?_
  refine Wk.newArr (pc' := 19) (i := (10 + G.length + 1)) (nn := 3) (H' := ([obj "com/example/redoubt/redoubt/flow/FlowNetwork" ksFN [(.int (3 : Int32)), (rf hB 1), (rf hB 2), (rf hB 3), (rf hB 4), (.int ha), (rf hB 6)], ints hd, ints cap, ints fl, longs cs, ints ct, arr (.array .int) [(rf hB 7), (rf hB 8), (rf hB 9)], ints r0, ints r1, ints r2] ++ (G ++ [ints [0, 0, 0], ints [0, 0, 0]]))) d9_17 (wd10 hw) (by decide) (by decide) (by omega) rfl ⟨(by intro C; simp [newarray.typeOf]), (by intro C; simp [newarray.typeOf])⟩ (by simp only [List.length_append, List.length_cons, List.length_nil] <;> omega) (by show _ + _ ≤ 40; omega) Wk.pushT (by simp only [List.length_append, List.length_cons, List.length_nil] <;> omega) rfl ?_
  refine Wk.astore (pc' := 21) (Ls' := #[.val (rf hB 0), .val (.int sr), .val (.int sk), .val (rf hB (10 + G.length + 0)), .val (rf hB (10 + G.length + 1)), .unset]) d9_19 rfl rfl rfl ?_
  refine Wk.aloadN (pc' := 22) d9_21 rfl rfl rfl ?_
  refine Wk.getF0 (pc' := 25) (i := 0) (j := 0) d9_22 (wd20 hw) rfl rfl rfl rfl ?_
  refine Wk.newArr (pc' := 27) (i := (10 + G.length + 2)) (nn := 3) (H' := ([obj "com/example/redoubt/redoubt/flow/FlowNetwork" ksFN [(.int (3 : Int32)), (rf hB 1), (rf hB 2), (rf hB 3), (rf hB 4), (.int ha), (rf hB 6)], ints hd, ints cap, ints fl, longs cs, ints ct, arr (.array .int) [(rf hB 7), (rf hB 8), (rf hB 9)], ints r0, ints r1, ints r2] ++ (G ++ [ints [0, 0, 0], ints [0, 0, 0], ints [0, 0, 0]]))) d9_25 (wd10 hw) (by decide) (by decide) (by omega) rfl ⟨(by intro C; simp [newarray.typeOf]), (by intro C; simp [newarray.typeOf])⟩ (by simp only [List.length_append, List.length_cons, List.length_nil] <;> omega) (by show _ + _ ≤ 40; omega) Wk.pushT (by simp only [List.length_append, List.length_cons, List.length_nil] <;> omega) rfl ?_
  refine Wk.astore (pc' := 29) (Ls' := #[.val (rf hB 0), .val (.int sr), .val (.int sk), .val (rf hB (10 + G.length + 0)), .val (rf hB (10 + G.length + 1)), .val (rf hB (10 + G.length + 2))]) d9_27 rfl rfl rfl ?_
  obtain ⟨q1, eq1, hM⟩ := Option.bind_eq_some_iff.mp hM
  refine m_mfl l Z a0 hw hB hd cap cs ct r0 r1 r2 ha sr sk n1 Q G hn 4 fl [0, 0, 0] [0, 0, 0] [0, 0, 0] [] _ q1 (by simp) (by show _ + 3 + 3 + 3 + 3 * 4 ≤ 40; omega) eq1 ?_
  intro K sl' hK hsl'
  refine Wk.aloadN (pc' := 60) d9_59 rfl rfl rfl ?_
  refine Wk.iloadN (pc' := 61) d9_60 rfl rfl ?_
  obtain ⟨q2, eq2, hM⟩ := Option.bind_eq_some_iff.mp hM
  refine Wk.callP (pc' := 64) (argsL := [(.int sr)]) (st := []) d9_61 (wd96 hw) (wd97 hw) (Jvm.Kit.selects_private (by decide) (wd2 hw) (wd98 hw) (wd97 hw)) (wd98 hw) (wd3 hw) (wd99 hw) (by decide) (lenOf pd_10 rfl) (fun _ P => P.exa rfl) (m_of l Z a0 hw hB (G ++ ([ints q1.2.1, ints q1.2.2.1, ints q1.2.2.2] ++ K)) hd cap q1.1 cs ct r0 r1 r2 ha sr q2 eq2) rfl (Nat.le_of_ble_eq_true rfl) (Nat.le_of_ble_eq_true rfl) (by simp only [List.length_append, List.length_cons, List.length_nil] <;> omega) (by show sl' + 0 ≤ 40; omega) rfl rfl ?_
  rintro _ _ ⟨rfl, hH⟩; obtain rfl := hH.symm
  show WP l Z hB _ _ _ _ _ _ _ _ ([obj "com/example/redoubt/redoubt/flow/FlowNetwork" ksFN [(.int (3 : Int32)), (rf hB 1), (rf hB 2), (rf hB 3), (rf hB 4), (.int ha), (rf hB 6)], ints hd, ints cap, ints q1.1, longs cs, ints ct, arr (.array .int) [(rf hB 7), (rf hB 8), (rf hB 9)], ints r0, ints r1, ints r2] ++ (G ++ ([ints q1.2.1, ints q1.2.2.1, ints q1.2.2.2] ++ K))) _ _ [(.long q2)]
  obtain rfl := Option.some.inj hM
  exact Wk.lret d9_64 rfl (by simp only [List.length_append, List.length_cons, List.length_nil] <;> omega) (by show sl' + 0 ≤ 40; omega) (hq _ _ ⟨rfl, (G ++ ([ints q1.2.1, ints q1.2.2.1, ints q1.2.2.2] ++ K)), rfl, by simp; omega⟩)
set_option maxRecDepth 65536 in
set_option maxHeartbeats 40000000 in
theorem m_maxN (l : Launch) (Z : State) (a0 : Array Value) (hw : ∀ d ∈ tables_1, d.before a0 Z = true) (hB : Heap) (G : List Rec) (hd : List Int32) (cap : List Int32) (fl : List Int32) (cs : List Int64) (ct : List Int32) (r0 : List Int32) (r1 : List Int32) (r2 : List Int32) (ha : Int32) (sr sk : Int32) (a1 : ¬ sr < 0) (a2 : sr < 3) (b1 : ¬ sk < 0) (b2 : sk < 3) (hne : ¬ sr = sk) (out : Int64 × List Int32) (hM : Fm_mf6 hd cap cs ct r0 r1 r2 ha sr sk fl = some out) : Ctr l Z hB ({ cls := "com/example/redoubt/redoubt/flow/FlowNetwork", name := "maxFlow", desc := "(II)J" } : Jvm.MethodName) prog_4_method_8_code 6 (some .long) [] ({ frames := 3, cells := 13, slots := 40, locals := 60 } : Room) #[(rf hB 0), (.int sr), (.int sk)] ([obj "com/example/redoubt/redoubt/flow/FlowNetwork" ksFN [(.int (3 : Int32)), (rf hB 1), (rf hB 2), (rf hB 3), (rf hB 4), (.int ha), (rf hB 6)], ints hd, ints cap, ints fl, longs cs, ints ct, arr (.array .int) [(rf hB 7), (rf hB 8), (rf hB 9)], ints r0, ints r1, ints r2] ++ G) (fun v H' => (v = some (.long out.1) ∧ ∃ G', H' = ([obj "com/example/redoubt/redoubt/flow/FlowNetwork" ksFN [(.int (3 : Int32)), (rf hB 1), (rf hB 2), (rf hB 3), (rf hB 4), (.int ha), (rf hB 6)], ints hd, ints cap, ints out.2, longs cs, ints ct, arr (.array .int) [(rf hB 7), (rf hB 8), (rf hB 9)], ints r0, ints r1, ints r2] ++ G') ∧ G'.length ≤ G.length + 7)) := by
  refine Wk.ctr pn_17 (Ls := #[.val (rf hB 0), .val (.int sr), .val (.int sk), .unset, .unset, .unset]) (fun m => by first | rfl | (simp [entryFrame, mkF, argsToLocals, Value.category]; done)) ?_
  refine Wk.aloadN (pc' := 1) d9_0 rfl rfl rfl ?_
  refine Wk.iloadN (pc' := 2) d9_1 rfl rfl ?_
  refine Wk.iloadN (pc' := 3) d9_2 rfl rfl ?_
  refine Wk.callP (pc' := 6) (argsL := [(.int sr), (.int sk)]) (st := []) d9_3 (wd60 hw) (wd61 hw) (Jvm.Kit.selects_private (by decide) (wd2 hw) (wd62 hw) (wd61 hw)) (wd62 hw) (wd3 hw) (wd63 hw) (by decide) (lenOf pd_11 rfl) (fun _ P => P.exa rfl) (m_prepN l Z a0 hw hB G hd cap fl cs ct r0 r1 r2 ha sr sk a1 a2 b1 b2 hne) rfl (Nat.le_of_ble_eq_true rfl) (Nat.le_of_ble_eq_true rfl) (by simp only [List.length_append, List.length_cons, List.length_nil] <;> omega) (Nat.le_of_ble_eq_true rfl) rfl rfl ?_
  rintro _ _ ⟨rfl, hH⟩; obtain rfl := hH.symm
  show WP l Z hB _ _ _ _ _ _ _ _ ([obj "com/example/redoubt/redoubt/flow/FlowNetwork" ksFN [(.int (3 : Int32)), (rf hB 1), (rf hB 2), (rf hB 3), (rf hB 4), (.int ha), (rf hB 6)], ints hd, ints cap, ints fl, longs cs, ints ct, arr (.array .int) [(rf hB 7), (rf hB 8), (rf hB 9)], ints r0, ints r1, ints r2] ++ G) _ _ []
  exact m_mf6 l Z a0 hw hB hd cap cs ct r0 r1 r2 ha sr sk fl G _ _ _ (by simp; omega) (by decide) out hM (fun _ _ h => h)
set_option maxRecDepth 65536 in
set_option maxHeartbeats 40000000 in
theorem m_max_A (l : Launch) (Z : State) (a0 : Array Value) (hw : ∀ d ∈ tables_1, d.before a0 Z = true) (hB : Heap) (cap fl : List Int32) (cs : List Int64) (sr sk : Int32) (a1 : ¬ sr < 0) (a2 : sr < 3) (b1 : ¬ sk < 0) (b2 : sk < 3) (hne : ¬ sr = sk) (out : Int64 × List Int32) (hM : Fm_mf6 [1, 0, 2, 1, 2, 0, 0, 0, 0, 0, 0, 0, 0, 0, 0, 0] cap cs [2, 2, 2] [0, 4] [1, 2] [3, 5] 6 sr sk fl = some out) : Ctr l Z hB ({ cls := "com/example/redoubt/redoubt/flow/FlowNetwork", name := "maxFlow", desc := "(II)J" } : Jvm.MethodName) prog_4_method_8_code 6 (some .long) [] ({ frames := 3, cells := 13, slots := 40, locals := 60 } : Room) #[(rf hB 0), (.int sr), (.int sk)] [obj "com/example/redoubt/redoubt/flow/FlowNetwork" ksFN [(.int (3 : Int32)), (rf hB 1), (rf hB 2), (rf hB 3), (rf hB 4), (.int (6 : Int32)), .null], ints [1, 0, 2, 1, 2, 0, 0, 0, 0, 0, 0, 0, 0, 0, 0, 0], ints cap, ints fl, longs cs] (fun v H' => (v = some (.long out.1) ∧ ∃ G', H' = ([obj "com/example/redoubt/redoubt/flow/FlowNetwork" ksFN [(.int (3 : Int32)), (rf hB 1), (rf hB 2), (rf hB 3), (rf hB 4), (.int (6 : Int32)), (rf hB 6)], ints [1, 0, 2, 1, 2, 0, 0, 0, 0, 0, 0, 0, 0, 0, 0, 0], ints cap, ints out.2, longs cs, ints [2, 2, 2], arr (.array .int) [(rf hB 7), (rf hB 8), (rf hB 9)], ints [0, 4], ints [1, 2], ints [3, 5]] ++ G') ∧ G'.length ≤ 0 + 7)) := by
  refine Wk.ctr pn_17 (Ls := #[.val (rf hB 0), .val (.int sr), .val (.int sk), .unset, .unset, .unset]) (fun m => by first | rfl | (simp [entryFrame, mkF, argsToLocals, Value.category]; done)) ?_
  refine Wk.aloadN (pc' := 1) d9_0 rfl rfl rfl ?_
  refine Wk.iloadN (pc' := 2) d9_1 rfl rfl ?_
  refine Wk.iloadN (pc' := 3) d9_2 rfl rfl ?_
  refine Wk.callP (pc' := 6) (argsL := [(.int sr), (.int sk)]) (st := []) d9_3 (wd60 hw) (wd61 hw) (Jvm.Kit.selects_private (by decide) (wd2 hw) (wd62 hw) (wd61 hw)) (wd62 hw) (wd3 hw) (wd63 hw) (by decide) (lenOf pd_11 rfl) (fun _ P => P.exa rfl) (m_prep_A l Z a0 hw hB cap fl cs sr sk a1 a2 b1 b2 hne) rfl (Nat.le_of_ble_eq_true rfl) (Nat.le_of_ble_eq_true rfl) (Nat.le_of_ble_eq_true rfl) (Nat.le_of_ble_eq_true rfl) rfl rfl ?_
  rintro _ _ ⟨rfl, hH⟩; obtain rfl := hH.symm
  show WP l Z hB _ _ _ _ _ _ _ _ [obj "com/example/redoubt/redoubt/flow/FlowNetwork" ksFN [(.int (3 : Int32)), (rf hB 1), (rf hB 2), (rf hB 3), (rf hB 4), (.int (6 : Int32)), (rf hB 6)], ints [1, 0, 2, 1, 2, 0, 0, 0, 0, 0, 0, 0, 0, 0, 0, 0], ints cap, ints fl, longs cs, ints [2, 2, 2], arr (.array .int) [(rf hB 7), (rf hB 8), (rf hB 9)], ints [0, 4], ints [1, 2], ints [3, 5]] _ _ []
  exact m_mf6 l Z a0 hw hB [1, 0, 2, 1, 2, 0, 0, 0, 0, 0, 0, 0, 0, 0, 0, 0] cap cs [2, 2, 2] [0, 4] [1, 2] [3, 5] 6 sr sk fl [] _ _ _ (by simp) (by decide) out hM (fun _ _ h => h)
set_option maxRecDepth 65536 in
set_option maxHeartbeats 40000000 in
theorem m_max_B (l : Launch) (Z : State) (a0 : Array Value) (hw : ∀ d ∈ tables_1, d.before a0 Z = true) (hB : Heap) (cap fl : List Int32) (cs : List Int64) (sr sk : Int32) (a1 : ¬ sr < 0) (a2 : sr < 3) (b1 : ¬ sk < 0) (b2 : sk < 3) (hne : ¬ sr = sk) (out : Int64 × List Int32) (hM : Fm_mf6 [2, 0, 1, 0, 2, 1, 0, 0, 0, 0, 0, 0, 0, 0, 0, 0] cap cs [2, 2, 2] [0, 2] [3, 4] [1, 5] 6 sr sk fl = some out) : Ctr l Z hB ({ cls := "com/example/redoubt/redoubt/flow/FlowNetwork", name := "maxFlow", desc := "(II)J" } : Jvm.MethodName) prog_4_method_8_code 6 (some .long) [] ({ frames := 3, cells := 13, slots := 40, locals := 60 } : Room) #[(rf hB 0), (.int sr), (.int sk)] [obj "com/example/redoubt/redoubt/flow/FlowNetwork" ksFN [(.int (3 : Int32)), (rf hB 1), (rf hB 2), (rf hB 3), (rf hB 4), (.int (6 : Int32)), .null], ints [2, 0, 1, 0, 2, 1, 0, 0, 0, 0, 0, 0, 0, 0, 0, 0], ints cap, ints fl, longs cs] (fun v H' => (v = some (.long out.1) ∧ ∃ G', H' = ([obj "com/example/redoubt/redoubt/flow/FlowNetwork" ksFN [(.int (3 : Int32)), (rf hB 1), (rf hB 2), (rf hB 3), (rf hB 4), (.int (6 : Int32)), (rf hB 6)], ints [2, 0, 1, 0, 2, 1, 0, 0, 0, 0, 0, 0, 0, 0, 0, 0], ints cap, ints out.2, longs cs, ints [2, 2, 2], arr (.array .int) [(rf hB 7), (rf hB 8), (rf hB 9)], ints [0, 2], ints [3, 4], ints [1, 5]] ++ G') ∧ G'.length ≤ 0 + 7)) := by
  refine Wk.ctr pn_17 (Ls := #[.val (rf hB 0), .val (.int sr), .val (.int sk), .unset, .unset, .unset]) (fun m => by first | rfl | (simp [entryFrame, mkF, argsToLocals, Value.category]; done)) ?_
  refine Wk.aloadN (pc' := 1) d9_0 rfl rfl rfl ?_
  refine Wk.iloadN (pc' := 2) d9_1 rfl rfl ?_
  refine Wk.iloadN (pc' := 3) d9_2 rfl rfl ?_
  refine Wk.callP (pc' := 6) (argsL := [(.int sr), (.int sk)]) (st := []) d9_3 (wd60 hw) (wd61 hw) (Jvm.Kit.selects_private (by decide) (wd2 hw) (wd62 hw) (wd61 hw)) (wd62 hw) (wd3 hw) (wd63 hw) (by decide) (lenOf pd_11 rfl) (fun _ P => P.exa rfl) (m_prep_B l Z a0 hw hB cap fl cs sr sk a1 a2 b1 b2 hne) rfl (Nat.le_of_ble_eq_true rfl) (Nat.le_of_ble_eq_true rfl) (Nat.le_of_ble_eq_true rfl) (Nat.le_of_ble_eq_true rfl) rfl rfl ?_
  rintro _ _ ⟨rfl, hH⟩; obtain rfl := hH.symm
  show WP l Z hB _ _ _ _ _ _ _ _ [obj "com/example/redoubt/redoubt/flow/FlowNetwork" ksFN [(.int (3 : Int32)), (rf hB 1), (rf hB 2), (rf hB 3), (rf hB 4), (.int (6 : Int32)), (rf hB 6)], ints [2, 0, 1, 0, 2, 1, 0, 0, 0, 0, 0, 0, 0, 0, 0, 0], ints cap, ints fl, longs cs, ints [2, 2, 2], arr (.array .int) [(rf hB 7), (rf hB 8), (rf hB 9)], ints [0, 2], ints [3, 4], ints [1, 5]] _ _ []
  exact m_mf6 l Z a0 hw hB [2, 0, 1, 0, 2, 1, 0, 0, 0, 0, 0, 0, 0, 0, 0, 0] cap cs [2, 2, 2] [0, 2] [3, 4] [1, 5] 6 sr sk fl [] _ _ _ (by simp) (by decide) out hM (fun _ _ h => h)
theorem ev_bs {α β : Type} {x : Option α} {f : α → Option β} {a : α} {r : Option β} (h : x = some a) (k : f a = r) : x.bind f = r := by subst h; exact k
theorem ev_T {α : Type} {c : Prop} [Decidable c] {a b r : α} (h : c) (k : a = r) : (if c then a else b) = r := by rw [if_pos h]; exact k
theorem ev_F {α : Type} {c : Prop} [Decidable c] {a b r : α} (h : ¬ c) (k : b = r) : (if c then a else b) = r := by rw [if_neg h]; exact k
theorem mn_max (r : Int32) : mnI 2147483647 r = r := by
  unfold mnI; split
  · rfl
  · rename_i h; rw [Int32.lt_iff_toInt_lt] at h; have := Int32.toInt_lt r; have e : (2147483647 : Int32).toInt = 2147483647 := rfl
    exact Int32.toInt_inj.mp (by omega)
theorem pos_of {c : Int32} (h : ¬ c < 0) (h2 : ¬ c = 0) : 0 < c := by
  rw [Int32.lt_iff_toInt_lt] at *; have e : (0 : Int32).toInt = 0 := rfl
  have : ¬ c.toInt = 0 := fun q => h2 (Int32.toInt_inj.mp q); omega
theorem sub_pos {a b : Int32} (hb : 0 < b) (h : b < a) : 0 < a - b := by
  rw [Int32.lt_iff_toInt_lt] at *; have e : (0 : Int32).toInt = 0 := rfl
  have := c_isub a b; have := rng32 (a - b); have := rng32 a; omega
set_option maxRecDepth 65536 in
set_option maxHeartbeats 40000000 in
theorem ev_A_0x0 (c1 : Int32) (cs : List Int64) (hm : mnI 0 c1 = 0) : ∃ p q r : Int32, Fm_mf6 [1, 0, 2, 1, 2, 0, 0, 0, 0, 0, 0, 0, 0, 0, 0, 0] [0, 0, c1, 0, 0, 0, 0, 0, 0, 0, 0, 0, 0, 0, 0, 0] cs [2, 2, 2] [0, 4] [1, 2] [3, 5] 6 0 2 [0, 0, 0, 0, 0, 0, 0, 0, 0, 0, 0, 0, 0, 0, 0, 0] = some (((mnI 0 c1).toInt64 + (0 : Int32).toInt64), [(mnI 0 c1), p, (mnI 0 c1), q, 0, r, 0, 0, 0, 0, 0, 0, 0, 0, 0, 0]) := by
  refine ⟨?_, ?_, ?_, ?e⟩
  case e =>
    repeat (first
      | simp only [mn_max, hm, Int32.sub_zero, Int32.zero_add, Int32.sub_self, Int64.zero_add]
      | with_reducible apply ev_bs
      | with_reducible refine ev_T (by first | assumption | decide) ?_
      | with_reducible refine ev_F (by first | assumption | decide) ?_
      | exact (rfl : Wk.gI _ _ = some _)
      | exact (rfl : Wk.sI _ _ _ = some _)
      | exact (rfl : Wk.gR _ _ = some _)
      | rw [Fm_res] | rw [Fm_climb] | rw [Fm_bC] | rw [Fm_bO] | rw [Fm_lin] | rw [Fm_lout] | rw [Fm_f2l] | rw [Fm_fill] | rw [Fm_bA] | rw [Fm_bB] | rw [Fm_ofl] | rw [Fm_lfs] | rw [Fm_bf] | rw [Fm_mfl] | rw [Fm_of] | rw [Fm_mf6]
      | exact (rfl : some _ = some _))
set_option maxRecDepth 65536 in
set_option maxHeartbeats 40000000 in
theorem ev_A_0xp (c1 c2 : Int32) (cs : List Int64) (h2 : 0 < c2) (hm : mnI 0 c1 = 0) : ∃ p q r : Int32, Fm_mf6 [1, 0, 2, 1, 2, 0, 0, 0, 0, 0, 0, 0, 0, 0, 0, 0] [0, 0, c1, 0, c2, 0, 0, 0, 0, 0, 0, 0, 0, 0, 0, 0] cs [2, 2, 2] [0, 4] [1, 2] [3, 5] 6 0 2 [0, 0, 0, 0, 0, 0, 0, 0, 0, 0, 0, 0, 0, 0, 0, 0] = some (((mnI 0 c1).toInt64 + (c2 : Int32).toInt64), [(mnI 0 c1), p, (mnI 0 c1), q, c2, r, 0, 0, 0, 0, 0, 0, 0, 0, 0, 0]) := by
  refine ⟨?_, ?_, ?_, ?e⟩
  case e =>
    repeat (first
      | simp only [mn_max, hm, Int32.sub_zero, Int32.zero_add, Int32.sub_self, Int64.zero_add]
      | with_reducible apply ev_bs
      | with_reducible refine ev_T (by first | assumption | decide) ?_
      | with_reducible refine ev_F (by first | assumption | decide) ?_
      | exact (rfl : Wk.gI _ _ = some _)
      | exact (rfl : Wk.sI _ _ _ = some _)
      | exact (rfl : Wk.gR _ _ = some _)
      | rw [Fm_res] | rw [Fm_climb] | rw [Fm_bC] | rw [Fm_bO] | rw [Fm_lin] | rw [Fm_lout] | rw [Fm_f2l] | rw [Fm_fill] | rw [Fm_bA] | rw [Fm_bB] | rw [Fm_ofl] | rw [Fm_lfs] | rw [Fm_bf] | rw [Fm_mfl] | rw [Fm_of] | rw [Fm_mf6]
      | exact (rfl : some _ = some _))
set_option maxRecDepth 65536 in
set_option maxHeartbeats 40000000 in
theorem ev_A_p00 (c0 : Int32) (cs : List Int64) (h0 : 0 < c0) (hm : mnI c0 0 = 0) : ∃ p q r : Int32, Fm_mf6 [1, 0, 2, 1, 2, 0, 0, 0, 0, 0, 0, 0, 0, 0, 0, 0] [c0, 0, 0, 0, 0, 0, 0, 0, 0, 0, 0, 0, 0, 0, 0, 0] cs [2, 2, 2] [0, 4] [1, 2] [3, 5] 6 0 2 [0, 0, 0, 0, 0, 0, 0, 0, 0, 0, 0, 0, 0, 0, 0, 0] = some (((mnI c0 0).toInt64 + (0 : Int32).toInt64), [(mnI c0 0), p, (mnI c0 0), q, 0, r, 0, 0, 0, 0, 0, 0, 0, 0, 0, 0]) := by
  refine ⟨?_, ?_, ?_, ?e⟩
  case e =>
    repeat (first
      | simp only [mn_max, hm, Int32.sub_zero, Int32.zero_add, Int32.sub_self, Int64.zero_add]
      | with_reducible apply ev_bs
      | with_reducible refine ev_T (by first | assumption | decide) ?_
      | with_reducible refine ev_F (by first | assumption | decide) ?_
      | exact (rfl : Wk.gI _ _ = some _)
      | exact (rfl : Wk.sI _ _ _ = some _)
      | exact (rfl : Wk.gR _ _ = some _)
      | rw [Fm_res] | rw [Fm_climb] | rw [Fm_bC] | rw [Fm_bO] | rw [Fm_lin] | rw [Fm_lout] | rw [Fm_f2l] | rw [Fm_fill] | rw [Fm_bA] | rw [Fm_bB] | rw [Fm_ofl] | rw [Fm_lfs] | rw [Fm_bf] | rw [Fm_mfl] | rw [Fm_of] | rw [Fm_mf6]
      | exact (rfl : some _ = some _))
set_option maxRecDepth 65536 in
set_option maxHeartbeats 40000000 in
theorem ev_A_p0p (c0 c2 : Int32) (cs : List Int64) (h0 : 0 < c0) (h2 : 0 < c2) (hm : mnI c0 0 = 0) : ∃ p q r : Int32, Fm_mf6 [1, 0, 2, 1, 2, 0, 0, 0, 0, 0, 0, 0, 0, 0, 0, 0] [c0, 0, 0, 0, c2, 0, 0, 0, 0, 0, 0, 0, 0, 0, 0, 0] cs [2, 2, 2] [0, 4] [1, 2] [3, 5] 6 0 2 [0, 0, 0, 0, 0, 0, 0, 0, 0, 0, 0, 0, 0, 0, 0, 0] = some (((mnI c0 0).toInt64 + (c2 : Int32).toInt64), [(mnI c0 0), p, (mnI c0 0), q, c2, r, 0, 0, 0, 0, 0, 0, 0, 0, 0, 0]) := by
  refine ⟨?_, ?_, ?_, ?e⟩
  case e =>
    repeat (first
      | simp only [mn_max, hm, Int32.sub_zero, Int32.zero_add, Int32.sub_self, Int64.zero_add]
      | with_reducible apply ev_bs
      | with_reducible refine ev_T (by first | assumption | decide) ?_
      | with_reducible refine ev_F (by first | assumption | decide) ?_
      | exact (rfl : Wk.gI _ _ = some _)
      | exact (rfl : Wk.sI _ _ _ = some _)
      | exact (rfl : Wk.gR _ _ = some _)
      | rw [Fm_res] | rw [Fm_climb] | rw [Fm_bC] | rw [Fm_bO] | rw [Fm_lin] | rw [Fm_lout] | rw [Fm_f2l] | rw [Fm_fill] | rw [Fm_bA] | rw [Fm_bB] | rw [Fm_ofl] | rw [Fm_lfs] | rw [Fm_bf] | rw [Fm_mfl] | rw [Fm_of] | rw [Fm_mf6]
      | exact (rfl : some _ = some _))
set_option maxRecDepth 65536 in
set_option maxHeartbeats 40000000 in
theorem ev_A_pp0l (c0 c1 : Int32) (cs : List Int64) (h0 : 0 < c0) (h1 : 0 < c1) (hm : mnI c0 c1 = c1) (h01 : 0 < c0 - c1) : ∃ p q r : Int32, Fm_mf6 [1, 0, 2, 1, 2, 0, 0, 0, 0, 0, 0, 0, 0, 0, 0, 0] [c0, 0, c1, 0, 0, 0, 0, 0, 0, 0, 0, 0, 0, 0, 0, 0] cs [2, 2, 2] [0, 4] [1, 2] [3, 5] 6 0 2 [0, 0, 0, 0, 0, 0, 0, 0, 0, 0, 0, 0, 0, 0, 0, 0] = some (((mnI c0 c1).toInt64 + (0 : Int32).toInt64), [(mnI c0 c1), p, (mnI c0 c1), q, 0, r, 0, 0, 0, 0, 0, 0, 0, 0, 0, 0]) := by
  refine ⟨?_, ?_, ?_, ?e⟩
  case e =>
    repeat (first
      | simp only [mn_max, hm, Int32.sub_zero, Int32.zero_add, Int32.sub_self, Int64.zero_add]
      | with_reducible apply ev_bs
      | with_reducible refine ev_T (by first | assumption | decide) ?_
      | with_reducible refine ev_F (by first | assumption | decide) ?_
      | exact (rfl : Wk.gI _ _ = some _)
      | exact (rfl : Wk.sI _ _ _ = some _)
      | exact (rfl : Wk.gR _ _ = some _)
      | rw [Fm_res] | rw [Fm_climb] | rw [Fm_bC] | rw [Fm_bO] | rw [Fm_lin] | rw [Fm_lout] | rw [Fm_f2l] | rw [Fm_fill] | rw [Fm_bA] | rw [Fm_bB] | rw [Fm_ofl] | rw [Fm_lfs] | rw [Fm_bf] | rw [Fm_mfl] | rw [Fm_of] | rw [Fm_mf6]
      | exact (rfl : some _ = some _))
set_option maxRecDepth 65536 in
set_option maxHeartbeats 40000000 in
theorem ev_A_pp0g (c0 c1 : Int32) (cs : List Int64) (h0 : 0 < c0) (h1 : 0 < c1) (hm : mnI c0 c1 = c0) : ∃ p q r : Int32, Fm_mf6 [1, 0, 2, 1, 2, 0, 0, 0, 0, 0, 0, 0, 0, 0, 0, 0] [c0, 0, c1, 0, 0, 0, 0, 0, 0, 0, 0, 0, 0, 0, 0, 0] cs [2, 2, 2] [0, 4] [1, 2] [3, 5] 6 0 2 [0, 0, 0, 0, 0, 0, 0, 0, 0, 0, 0, 0, 0, 0, 0, 0] = some (((mnI c0 c1).toInt64 + (0 : Int32).toInt64), [(mnI c0 c1), p, (mnI c0 c1), q, 0, r, 0, 0, 0, 0, 0, 0, 0, 0, 0, 0]) := by
  refine ⟨?_, ?_, ?_, ?e⟩
  case e =>
    repeat (first
      | simp only [mn_max, hm, Int32.sub_zero, Int32.zero_add, Int32.sub_self, Int64.zero_add]
      | with_reducible apply ev_bs
      | with_reducible refine ev_T (by first | assumption | decide) ?_
      | with_reducible refine ev_F (by first | assumption | decide) ?_
      | exact (rfl : Wk.gI _ _ = some _)
      | exact (rfl : Wk.sI _ _ _ = some _)
      | exact (rfl : Wk.gR _ _ = some _)
      | rw [Fm_res] | rw [Fm_climb] | rw [Fm_bC] | rw [Fm_bO] | rw [Fm_lin] | rw [Fm_lout] | rw [Fm_f2l] | rw [Fm_fill] | rw [Fm_bA] | rw [Fm_bB] | rw [Fm_ofl] | rw [Fm_lfs] | rw [Fm_bf] | rw [Fm_mfl] | rw [Fm_of] | rw [Fm_mf6]
      | exact (rfl : some _ = some _))
set_option maxRecDepth 65536 in
set_option maxHeartbeats 40000000 in
theorem ev_A_pppl (c0 c1 c2 : Int32) (cs : List Int64) (h0 : 0 < c0) (h1 : 0 < c1) (h2 : 0 < c2) (hm : mnI c0 c1 = c1) (h01 : 0 < c0 - c1) : ∃ p q r : Int32, Fm_mf6 [1, 0, 2, 1, 2, 0, 0, 0, 0, 0, 0, 0, 0, 0, 0, 0] [c0, 0, c1, 0, c2, 0, 0, 0, 0, 0, 0, 0, 0, 0, 0, 0] cs [2, 2, 2] [0, 4] [1, 2] [3, 5] 6 0 2 [0, 0, 0, 0, 0, 0, 0, 0, 0, 0, 0, 0, 0, 0, 0, 0] = some (((mnI c0 c1).toInt64 + (c2 : Int32).toInt64), [(mnI c0 c1), p, (mnI c0 c1), q, c2, r, 0, 0, 0, 0, 0, 0, 0, 0, 0, 0]) := by
  refine ⟨?_, ?_, ?_, ?e⟩
  case e =>
    repeat (first
      | simp only [mn_max, hm, Int32.sub_zero, Int32.zero_add, Int32.sub_self, Int64.zero_add]
      | with_reducible apply ev_bs
      | with_reducible refine ev_T (by first | assumption | decide) ?_
      | with_reducible refine ev_F (by first | assumption | decide) ?_
      | exact (rfl : Wk.gI _ _ = some _)
      | exact (rfl : Wk.sI _ _ _ = some _)
      | exact (rfl : Wk.gR _ _ = some _)
      | rw [Fm_res] | rw [Fm_climb] | rw [Fm_bC] | rw [Fm_bO] | rw [Fm_lin] | rw [Fm_lout] | rw [Fm_f2l] | rw [Fm_fill] | rw [Fm_bA] | rw [Fm_bB] | rw [Fm_ofl] | rw [Fm_lfs] | rw [Fm_bf] | rw [Fm_mfl] | rw [Fm_of] | rw [Fm_mf6]
      | exact (rfl : some _ = some _))
set_option maxRecDepth 65536 in
set_option maxHeartbeats 40000000 in
theorem ev_A_pppg (c0 c1 c2 : Int32) (cs : List Int64) (h0 : 0 < c0) (h1 : 0 < c1) (h2 : 0 < c2) (hm : mnI c0 c1 = c0) : ∃ p q r : Int32, Fm_mf6 [1, 0, 2, 1, 2, 0, 0, 0, 0, 0, 0, 0, 0, 0, 0, 0] [c0, 0, c1, 0, c2, 0, 0, 0, 0, 0, 0, 0, 0, 0, 0, 0] cs [2, 2, 2] [0, 4] [1, 2] [3, 5] 6 0 2 [0, 0, 0, 0, 0, 0, 0, 0, 0, 0, 0, 0, 0, 0, 0, 0] = some (((mnI c0 c1).toInt64 + (c2 : Int32).toInt64), [(mnI c0 c1), p, (mnI c0 c1), q, c2, r, 0, 0, 0, 0, 0, 0, 0, 0, 0, 0]) := by
  refine ⟨?_, ?_, ?_, ?e⟩
  case e =>
    repeat (first
      | simp only [mn_max, hm, Int32.sub_zero, Int32.zero_add, Int32.sub_self, Int64.zero_add]
      | with_reducible apply ev_bs
      | with_reducible refine ev_T (by first | assumption | decide) ?_
      | with_reducible refine ev_F (by first | assumption | decide) ?_
      | exact (rfl : Wk.gI _ _ = some _)
      | exact (rfl : Wk.sI _ _ _ = some _)
      | exact (rfl : Wk.gR _ _ = some _)
      | rw [Fm_res] | rw [Fm_climb] | rw [Fm_bC] | rw [Fm_bO] | rw [Fm_lin] | rw [Fm_lout] | rw [Fm_f2l] | rw [Fm_fill] | rw [Fm_bA] | rw [Fm_bB] | rw [Fm_ofl] | rw [Fm_lfs] | rw [Fm_bf] | rw [Fm_mfl] | rw [Fm_of] | rw [Fm_mf6]
      | exact (rfl : some _ = some _))
set_option maxRecDepth 65536 in
set_option maxHeartbeats 40000000 in
theorem ev_A (c0 c1 c2 : Int32) (cs : List Int64) (n0 : ¬ c0 < 0) (n1 : ¬ c1 < 0) (n2 : ¬ c2 < 0) : ∃ p q r : Int32, Fm_mf6 [1, 0, 2, 1, 2, 0, 0, 0, 0, 0, 0, 0, 0, 0, 0, 0] [c0, 0, c1, 0, c2, 0, 0, 0, 0, 0, 0, 0, 0, 0, 0, 0] cs [2, 2, 2] [0, 4] [1, 2] [3, 5] 6 0 2 [0, 0, 0, 0, 0, 0, 0, 0, 0, 0, 0, 0, 0, 0, 0, 0] = some (((mnI c0 c1).toInt64 + (c2 : Int32).toInt64), [(mnI c0 c1), p, (mnI c0 c1), q, c2, r, 0, 0, 0, 0, 0, 0, 0, 0, 0, 0]) := by
  by_cases z2 : c2 = 0
  · subst z2
    by_cases z0 : c0 = 0
    · subst z0; exact ev_A_0x0 c1  cs (if_neg (fun q => n1 q))
    · have p0 := pos_of n0 z0; by_cases z1 : c1 = 0
      · subst z1; exact ev_A_p00 c0  cs p0 (if_pos p0)
      · have p1 := pos_of n1 z1; by_cases hlt : c1 < c0
        · exact ev_A_pp0l c0 c1  cs p0 p1 (if_pos hlt) (sub_pos p1 hlt)
        · exact ev_A_pp0g c0 c1  cs p0 p1 (if_neg hlt)
  · have p2 := pos_of n2 z2
    by_cases z0 : c0 = 0
    · subst z0; exact ev_A_0xp c1 c2 cs p2 (if_neg (fun q => n1 q))
    · have p0 := pos_of n0 z0; by_cases z1 : c1 = 0
      · subst z1; exact ev_A_p0p c0 c2 cs p0 p2 (if_pos p0)
      · have p1 := pos_of n1 z1; by_cases hlt : c1 < c0
        · exact ev_A_pppl c0 c1 c2 cs p0 p1 p2 (if_pos hlt) (sub_pos p1 hlt)
        · exact ev_A_pppg c0 c1 c2 cs p0 p1 p2 (if_neg hlt)
set_option maxRecDepth 65536 in
set_option maxHeartbeats 40000000 in
theorem ev_A_back (c0 c1 c2 : Int32) (cs : List Int64) : Fm_mf6 [1, 0, 2, 1, 2, 0, 0, 0, 0, 0, 0, 0, 0, 0, 0, 0] [c0, 0, c1, 0, c2, 0, 0, 0, 0, 0, 0, 0, 0, 0, 0, 0] cs [2, 2, 2] [0, 4] [1, 2] [3, 5] 6 2 0 [0, 0, 0, 0, 0, 0, 0, 0, 0, 0, 0, 0, 0, 0, 0, 0] = some (0, [0, 0, 0, 0, 0, 0, 0, 0, 0, 0, 0, 0, 0, 0, 0, 0]) := by
  have hm : mnI 0 0 = 0 := by decide
  repeat (first
    | simp only [mn_max, hm, Int32.sub_zero, Int32.zero_add, Int32.sub_self, Int64.zero_add]
    | with_reducible apply ev_bs
    | with_reducible refine ev_T (by first | assumption | decide) ?_
    | with_reducible refine ev_F (by first | assumption | decide) ?_
    | exact (rfl : Wk.gI _ _ = some _)
    | exact (rfl : Wk.sI _ _ _ = some _)
    | exact (rfl : Wk.gR _ _ = some _)
    | rw [Fm_res] | rw [Fm_climb] | rw [Fm_bC] | rw [Fm_bO] | rw [Fm_lin] | rw [Fm_lout] | rw [Fm_f2l] | rw [Fm_fill] | rw [Fm_bA] | rw [Fm_bB] | rw [Fm_ofl] | rw [Fm_lfs] | rw [Fm_bf] | rw [Fm_mfl] | rw [Fm_of] | rw [Fm_mf6]
    | exact (rfl : some _ = some _))
set_option maxRecDepth 65536 in
set_option maxHeartbeats 40000000 in
theorem ev_B_0x0 (c1 : Int32) (cs : List Int64) (hm : mnI 0 c1 = 0) : ∃ p q r : Int32, Fm_mf6 [2, 0, 1, 0, 2, 1, 0, 0, 0, 0, 0, 0, 0, 0, 0, 0] [0, 0, 0, 0, c1, 0, 0, 0, 0, 0, 0, 0, 0, 0, 0, 0] cs [2, 2, 2] [0, 2] [3, 4] [1, 5] 6 0 2 [0, 0, 0, 0, 0, 0, 0, 0, 0, 0, 0, 0, 0, 0, 0, 0] = some (((0 : Int32).toInt64 + (mnI 0 c1).toInt64), [0, p, (mnI 0 c1), q, (mnI 0 c1), r, 0, 0, 0, 0, 0, 0, 0, 0, 0, 0]) := by
  refine ⟨?_, ?_, ?_, ?e⟩
  case e =>
    repeat (first
      | simp only [mn_max, hm, Int32.sub_zero, Int32.zero_add, Int32.sub_self, Int64.zero_add]
      | with_reducible apply ev_bs
      | with_reducible refine ev_T (by first | assumption | decide) ?_
      | with_reducible refine ev_F (by first | assumption | decide) ?_
      | exact (rfl : Wk.gI _ _ = some _)
      | exact (rfl : Wk.sI _ _ _ = some _)
      | exact (rfl : Wk.gR _ _ = some _)
      | rw [Fm_res] | rw [Fm_climb] | rw [Fm_bC] | rw [Fm_bO] | rw [Fm_lin] | rw [Fm_lout] | rw [Fm_f2l] | rw [Fm_fill] | rw [Fm_bA] | rw [Fm_bB] | rw [Fm_ofl] | rw [Fm_lfs] | rw [Fm_bf] | rw [Fm_mfl] | rw [Fm_of] | rw [Fm_mf6]
      | exact (rfl : some _ = some _))
set_option maxRecDepth 65536 in
set_option maxHeartbeats 40000000 in
theorem ev_B_0xp (c1 c2 : Int32) (cs : List Int64) (h2 : 0 < c2) (hm : mnI 0 c1 = 0) : ∃ p q r : Int32, Fm_mf6 [2, 0, 1, 0, 2, 1, 0, 0, 0, 0, 0, 0, 0, 0, 0, 0] [c2, 0, 0, 0, c1, 0, 0, 0, 0, 0, 0, 0, 0, 0, 0, 0] cs [2, 2, 2] [0, 2] [3, 4] [1, 5] 6 0 2 [0, 0, 0, 0, 0, 0, 0, 0, 0, 0, 0, 0, 0, 0, 0, 0] = some (((c2 : Int32).toInt64 + (mnI 0 c1).toInt64), [c2, p, (mnI 0 c1), q, (mnI 0 c1), r, 0, 0, 0, 0, 0, 0, 0, 0, 0, 0]) := by
  refine ⟨?_, ?_, ?_, ?e⟩
  case e =>
    repeat (first
      | simp only [mn_max, hm, Int32.sub_zero, Int32.zero_add, Int32.sub_self, Int64.zero_add]
      | with_reducible apply ev_bs
      | with_reducible refine ev_T (by first | assumption | decide) ?_
      | with_reducible refine ev_F (by first | assumption | decide) ?_
      | exact (rfl : Wk.gI _ _ = some _)
      | exact (rfl : Wk.sI _ _ _ = some _)
      | exact (rfl : Wk.gR _ _ = some _)
      | rw [Fm_res] | rw [Fm_climb] | rw [Fm_bC] | rw [Fm_bO] | rw [Fm_lin] | rw [Fm_lout] | rw [Fm_f2l] | rw [Fm_fill] | rw [Fm_bA] | rw [Fm_bB] | rw [Fm_ofl] | rw [Fm_lfs] | rw [Fm_bf] | rw [Fm_mfl] | rw [Fm_of] | rw [Fm_mf6]
      | exact (rfl : some _ = some _))
set_option maxRecDepth 65536 in
set_option maxHeartbeats 40000000 in
theorem ev_B_p00 (c0 : Int32) (cs : List Int64) (h0 : 0 < c0) (hm : mnI c0 0 = 0) : ∃ p q r : Int32, Fm_mf6 [2, 0, 1, 0, 2, 1, 0, 0, 0, 0, 0, 0, 0, 0, 0, 0] [0, 0, c0, 0, 0, 0, 0, 0, 0, 0, 0, 0, 0, 0, 0, 0] cs [2, 2, 2] [0, 2] [3, 4] [1, 5] 6 0 2 [0, 0, 0, 0, 0, 0, 0, 0, 0, 0, 0, 0, 0, 0, 0, 0] = some (((0 : Int32).toInt64 + (mnI c0 0).toInt64), [0, p, (mnI c0 0), q, (mnI c0 0), r, 0, 0, 0, 0, 0, 0, 0, 0, 0, 0]) := by
  refine ⟨?_, ?_, ?_, ?e⟩
  case e =>
    repeat (first
      | simp only [mn_max, hm, Int32.sub_zero, Int32.zero_add, Int32.sub_self, Int64.zero_add]
      | with_reducible apply ev_bs
      | with_reducible refine ev_T (by first | assumption | decide) ?_
      | with_reducible refine ev_F (by first | assumption | decide) ?_
      | exact (rfl : Wk.gI _ _ = some _)
      | exact (rfl : Wk.sI _ _ _ = some _)
      | exact (rfl : Wk.gR _ _ = some _)
      | rw [Fm_res] | rw [Fm_climb] | rw [Fm_bC] | rw [Fm_bO] | rw [Fm_lin] | rw [Fm_lout] | rw [Fm_f2l] | rw [Fm_fill] | rw [Fm_bA] | rw [Fm_bB] | rw [Fm_ofl] | rw [Fm_lfs] | rw [Fm_bf] | rw [Fm_mfl] | rw [Fm_of] | rw [Fm_mf6]
      | exact (rfl : some _ = some _))
set_option maxRecDepth 65536 in
set_option maxHeartbeats 40000000 in
theorem ev_B_p0p (c0 c2 : Int32) (cs : List Int64) (h0 : 0 < c0) (h2 : 0 < c2) (hm : mnI c0 0 = 0) : ∃ p q r : Int32, Fm_mf6 [2, 0, 1, 0, 2, 1, 0, 0, 0, 0, 0, 0, 0, 0, 0, 0] [c2, 0, c0, 0, 0, 0, 0, 0, 0, 0, 0, 0, 0, 0, 0, 0] cs [2, 2, 2] [0, 2] [3, 4] [1, 5] 6 0 2 [0, 0, 0, 0, 0, 0, 0, 0, 0, 0, 0, 0, 0, 0, 0, 0] = some (((c2 : Int32).toInt64 + (mnI c0 0).toInt64), [c2, p, (mnI c0 0), q, (mnI c0 0), r, 0, 0, 0, 0, 0, 0, 0, 0, 0, 0]) := by
  refine ⟨?_, ?_, ?_, ?e⟩
  case e =>
    repeat (first
      | simp only [mn_max, hm, Int32.sub_zero, Int32.zero_add, Int32.sub_self, Int64.zero_add]
      | with_reducible apply ev_bs
      | with_reducible refine ev_T (by first | assumption | decide) ?_
      | with_reducible refine ev_F (by first | assumption | decide) ?_
      | exact (rfl : Wk.gI _ _ = some _)
      | exact (rfl : Wk.sI _ _ _ = some _)
      | exact (rfl : Wk.gR _ _ = some _)
      | rw [Fm_res] | rw [Fm_climb] | rw [Fm_bC] | rw [Fm_bO] | rw [Fm_lin] | rw [Fm_lout] | rw [Fm_f2l] | rw [Fm_fill] | rw [Fm_bA] | rw [Fm_bB] | rw [Fm_ofl] | rw [Fm_lfs] | rw [Fm_bf] | rw [Fm_mfl] | rw [Fm_of] | rw [Fm_mf6]
      | exact (rfl : some _ = some _))
set_option maxRecDepth 65536 in
set_option maxHeartbeats 40000000 in
theorem ev_B_pp0l (c0 c1 : Int32) (cs : List Int64) (h0 : 0 < c0) (h1 : 0 < c1) (hm : mnI c0 c1 = c1) (h01 : 0 < c0 - c1) : ∃ p q r : Int32, Fm_mf6 [2, 0, 1, 0, 2, 1, 0, 0, 0, 0, 0, 0, 0, 0, 0, 0] [0, 0, c0, 0, c1, 0, 0, 0, 0, 0, 0, 0, 0, 0, 0, 0] cs [2, 2, 2] [0, 2] [3, 4] [1, 5] 6 0 2 [0, 0, 0, 0, 0, 0, 0, 0, 0, 0, 0, 0, 0, 0, 0, 0] = some (((0 : Int32).toInt64 + (mnI c0 c1).toInt64), [0, p, (mnI c0 c1), q, (mnI c0 c1), r, 0, 0, 0, 0, 0, 0, 0, 0, 0, 0]) := by
  refine ⟨?_, ?_, ?_, ?e⟩
  case e =>
    repeat (first
      | simp only [mn_max, hm, Int32.sub_zero, Int32.zero_add, Int32.sub_self, Int64.zero_add]
      | with_reducible apply ev_bs
      | with_reducible refine ev_T (by first | assumption | decide) ?_
      | with_reducible refine ev_F (by first | assumption | decide) ?_
      | exact (rfl : Wk.gI _ _ = some _)
      | exact (rfl : Wk.sI _ _ _ = some _)
      | exact (rfl : Wk.gR _ _ = some _)
      | rw [Fm_res] | rw [Fm_climb] | rw [Fm_bC] | rw [Fm_bO] | rw [Fm_lin] | rw [Fm_lout] | rw [Fm_f2l] | rw [Fm_fill] | rw [Fm_bA] | rw [Fm_bB] | rw [Fm_ofl] | rw [Fm_lfs] | rw [Fm_bf] | rw [Fm_mfl] | rw [Fm_of] | rw [Fm_mf6]
      | exact (rfl : some _ = some _))
set_option maxRecDepth 65536 in
set_option maxHeartbeats 40000000 in
theorem ev_B_pp0g (c0 c1 : Int32) (cs : List Int64) (h0 : 0 < c0) (h1 : 0 < c1) (hm : mnI c0 c1 = c0) : ∃ p q r : Int32, Fm_mf6 [2, 0, 1, 0, 2, 1, 0, 0, 0, 0, 0, 0, 0, 0, 0, 0] [0, 0, c0, 0, c1, 0, 0, 0, 0, 0, 0, 0, 0, 0, 0, 0] cs [2, 2, 2] [0, 2] [3, 4] [1, 5] 6 0 2 [0, 0, 0, 0, 0, 0, 0, 0, 0, 0, 0, 0, 0, 0, 0, 0] = some (((0 : Int32).toInt64 + (mnI c0 c1).toInt64), [0, p, (mnI c0 c1), q, (mnI c0 c1), r, 0, 0, 0, 0, 0, 0, 0, 0, 0, 0]) := by
  refine ⟨?_, ?_, ?_, ?e⟩
  case e =>
    repeat (first
      | simp only [mn_max, hm, Int32.sub_zero, Int32.zero_add, Int32.sub_self, Int64.zero_add]
      | with_reducible apply ev_bs
      | with_reducible refine ev_T (by first | assumption | decide) ?_
      | with_reducible refine ev_F (by first | assumption | decide) ?_
      | exact (rfl : Wk.gI _ _ = some _)
      | exact (rfl : Wk.sI _ _ _ = some _)
      | exact (rfl : Wk.gR _ _ = some _)
      | rw [Fm_res] | rw [Fm_climb] | rw [Fm_bC] | rw [Fm_bO] | rw [Fm_lin] | rw [Fm_lout] | rw [Fm_f2l] | rw [Fm_fill] | rw [Fm_bA] | rw [Fm_bB] | rw [Fm_ofl] | rw [Fm_lfs] | rw [Fm_bf] | rw [Fm_mfl] | rw [Fm_of] | rw [Fm_mf6]
      | exact (rfl : some _ = some _))
set_option maxRecDepth 65536 in
set_option maxHeartbeats 40000000 in
theorem ev_B_pppl (c0 c1 c2 : Int32) (cs : List Int64) (h0 : 0 < c0) (h1 : 0 < c1) (h2 : 0 < c2) (hm : mnI c0 c1 = c1) (h01 : 0 < c0 - c1) : ∃ p q r : Int32, Fm_mf6 [2, 0, 1, 0, 2, 1, 0, 0, 0, 0, 0, 0, 0, 0, 0, 0] [c2, 0, c0, 0, c1, 0, 0, 0, 0, 0, 0, 0, 0, 0, 0, 0] cs [2, 2, 2] [0, 2] [3, 4] [1, 5] 6 0 2 [0, 0, 0, 0, 0, 0, 0, 0, 0, 0, 0, 0, 0, 0, 0, 0] = some (((c2 : Int32).toInt64 + (mnI c0 c1).toInt64), [c2, p, (mnI c0 c1), q, (mnI c0 c1), r, 0, 0, 0, 0, 0, 0, 0, 0, 0, 0]) := by
  refine ⟨?_, ?_, ?_, ?e⟩
  case e =>
    repeat (first
      | simp only [mn_max, hm, Int32.sub_zero, Int32.zero_add, Int32.sub_self, Int64.zero_add]
      | with_reducible apply ev_bs
      | with_reducible refine ev_T (by first | assumption | decide) ?_
      | with_reducible refine ev_F (by first | assumption | decide) ?_
      | exact (rfl : Wk.gI _ _ = some _)
      | exact (rfl : Wk.sI _ _ _ = some _)
      | exact (rfl : Wk.gR _ _ = some _)
      | rw [Fm_res] | rw [Fm_climb] | rw [Fm_bC] | rw [Fm_bO] | rw [Fm_lin] | rw [Fm_lout] | rw [Fm_f2l] | rw [Fm_fill] | rw [Fm_bA] | rw [Fm_bB] | rw [Fm_ofl] | rw [Fm_lfs] | rw [Fm_bf] | rw [Fm_mfl] | rw [Fm_of] | rw [Fm_mf6]
      | exact (rfl : some _ = some _))
set_option maxRecDepth 65536 in
set_option maxHeartbeats 40000000 in
theorem ev_B_pppg (c0 c1 c2 : Int32) (cs : List Int64) (h0 : 0 < c0) (h1 : 0 < c1) (h2 : 0 < c2) (hm : mnI c0 c1 = c0) : ∃ p q r : Int32, Fm_mf6 [2, 0, 1, 0, 2, 1, 0, 0, 0, 0, 0, 0, 0, 0, 0, 0] [c2, 0, c0, 0, c1, 0, 0, 0, 0, 0, 0, 0, 0, 0, 0, 0] cs [2, 2, 2] [0, 2] [3, 4] [1, 5] 6 0 2 [0, 0, 0, 0, 0, 0, 0, 0, 0, 0, 0, 0, 0, 0, 0, 0] = some (((c2 : Int32).toInt64 + (mnI c0 c1).toInt64), [c2, p, (mnI c0 c1), q, (mnI c0 c1), r, 0, 0, 0, 0, 0, 0, 0, 0, 0, 0]) := by
  refine ⟨?_, ?_, ?_, ?e⟩
  case e =>
    repeat (first
      | simp only [mn_max, hm, Int32.sub_zero, Int32.zero_add, Int32.sub_self, Int64.zero_add]
      | with_reducible apply ev_bs
      | with_reducible refine ev_T (by first | assumption | decide) ?_
      | with_reducible refine ev_F (by first | assumption | decide) ?_
      | exact (rfl : Wk.gI _ _ = some _)
      | exact (rfl : Wk.sI _ _ _ = some _)
      | exact (rfl : Wk.gR _ _ = some _)
      | rw [Fm_res] | rw [Fm_climb] | rw [Fm_bC] | rw [Fm_bO] | rw [Fm_lin] | rw [Fm_lout] | rw [Fm_f2l] | rw [Fm_fill] | rw [Fm_bA] | rw [Fm_bB] | rw [Fm_ofl] | rw [Fm_lfs] | rw [Fm_bf] | rw [Fm_mfl] | rw [Fm_of] | rw [Fm_mf6]
      | exact (rfl : some _ = some _))
set_option maxRecDepth 65536 in
set_option maxHeartbeats 40000000 in
theorem ev_B (c0 c1 c2 : Int32) (cs : List Int64) (n0 : ¬ c0 < 0) (n1 : ¬ c1 < 0) (n2 : ¬ c2 < 0) : ∃ p q r : Int32, Fm_mf6 [2, 0, 1, 0, 2, 1, 0, 0, 0, 0, 0, 0, 0, 0, 0, 0] [c2, 0, c0, 0, c1, 0, 0, 0, 0, 0, 0, 0, 0, 0, 0, 0] cs [2, 2, 2] [0, 2] [3, 4] [1, 5] 6 0 2 [0, 0, 0, 0, 0, 0, 0, 0, 0, 0, 0, 0, 0, 0, 0, 0] = some (((c2 : Int32).toInt64 + (mnI c0 c1).toInt64), [c2, p, (mnI c0 c1), q, (mnI c0 c1), r, 0, 0, 0, 0, 0, 0, 0, 0, 0, 0]) := by
  by_cases z2 : c2 = 0
  · subst z2
    by_cases z0 : c0 = 0
    · subst z0; exact ev_B_0x0 c1  cs (if_neg (fun q => n1 q))
    · have p0 := pos_of n0 z0; by_cases z1 : c1 = 0
      · subst z1; exact ev_B_p00 c0  cs p0 (if_pos p0)
      · have p1 := pos_of n1 z1; by_cases hlt : c1 < c0
        · exact ev_B_pp0l c0 c1  cs p0 p1 (if_pos hlt) (sub_pos p1 hlt)
        · exact ev_B_pp0g c0 c1  cs p0 p1 (if_neg hlt)
  · have p2 := pos_of n2 z2
    by_cases z0 : c0 = 0
    · subst z0; exact ev_B_0xp c1 c2 cs p2 (if_neg (fun q => n1 q))
    · have p0 := pos_of n0 z0; by_cases z1 : c1 = 0
      · subst z1; exact ev_B_p0p c0 c2 cs p0 p2 (if_pos p0)
      · have p1 := pos_of n1 z1; by_cases hlt : c1 < c0
        · exact ev_B_pppl c0 c1 c2 cs p0 p1 p2 (if_pos hlt) (sub_pos p1 hlt)
        · exact ev_B_pppg c0 c1 c2 cs p0 p1 p2 (if_neg hlt)
set_option maxRecDepth 65536 in
set_option maxHeartbeats 40000000 in
theorem ev_B_back (c0 c1 c2 : Int32) (cs : List Int64) : Fm_mf6 [2, 0, 1, 0, 2, 1, 0, 0, 0, 0, 0, 0, 0, 0, 0, 0] [c2, 0, c0, 0, c1, 0, 0, 0, 0, 0, 0, 0, 0, 0, 0, 0] cs [2, 2, 2] [0, 2] [3, 4] [1, 5] 6 2 0 [0, 0, 0, 0, 0, 0, 0, 0, 0, 0, 0, 0, 0, 0, 0, 0] = some (0, [0, 0, 0, 0, 0, 0, 0, 0, 0, 0, 0, 0, 0, 0, 0, 0]) := by
  have hm : mnI 0 0 = 0 := by decide
  repeat (first
    | simp only [mn_max, hm, Int32.sub_zero, Int32.zero_add, Int32.sub_self, Int64.zero_add]
    | with_reducible apply ev_bs
    | with_reducible refine ev_T (by first | assumption | decide) ?_
    | with_reducible refine ev_F (by first | assumption | decide) ?_
    | exact (rfl : Wk.gI _ _ = some _)
    | exact (rfl : Wk.sI _ _ _ = some _)
    | exact (rfl : Wk.gR _ _ = some _)
    | rw [Fm_res] | rw [Fm_climb] | rw [Fm_bC] | rw [Fm_bO] | rw [Fm_lin] | rw [Fm_lout] | rw [Fm_f2l] | rw [Fm_fill] | rw [Fm_bA] | rw [Fm_bB] | rw [Fm_ofl] | rw [Fm_lfs] | rw [Fm_bf] | rw [Fm_mfl] | rw [Fm_of] | rw [Fm_mf6]
    | exact (rfl : some _ = some _))
set_option maxRecDepth 65536 in
set_option maxHeartbeats 40000000 in
theorem ev_addA0 (c0 c1 c2 : Int32) : Fm_add 0 [0, 0, 0, 0, 0, 0, 0, 0, 0, 0, 0, 0, 0, 0, 0, 0] [0, 0, 0, 0, 0, 0, 0, 0, 0, 0, 0, 0, 0, 0, 0, 0] [0, 0, 0, 0, 0, 0, 0, 0, 0, 0, 0, 0, 0, 0, 0, 0] [0, 0, 0, 0, 0, 0, 0, 0, 0, 0, 0, 0, 0, 0, 0, 0] 0 1 c0 = some (2, [1, 0, 0, 0, 0, 0, 0, 0, 0, 0, 0, 0, 0, 0, 0, 0], [c0, 0, 0, 0, 0, 0, 0, 0, 0, 0, 0, 0, 0, 0, 0, 0], [0, 0, 0, 0, 0, 0, 0, 0, 0, 0, 0, 0, 0, 0, 0, 0], 0) := by
  repeat (first
    | with_reducible apply ev_bs
    | with_reducible refine ev_F (by decide) ?_
    | exact (rfl : Wk.sI _ _ _ = some _)
    | exact (rfl : Wk.sJ _ _ _ = some _)
    | rw [Fm_add] | rw [Fm_add4]
    | exact (rfl : some _ = some _))
set_option maxRecDepth 65536 in
set_option maxHeartbeats 40000000 in
theorem ev_addA1 (c0 c1 c2 : Int32) : Fm_add 2 [1, 0, 0, 0, 0, 0, 0, 0, 0, 0, 0, 0, 0, 0, 0, 0] [c0, 0, 0, 0, 0, 0, 0, 0, 0, 0, 0, 0, 0, 0, 0, 0] [0, 0, 0, 0, 0, 0, 0, 0, 0, 0, 0, 0, 0, 0, 0, 0] [0, 0, 0, 0, 0, 0, 0, 0, 0, 0, 0, 0, 0, 0, 0, 0] 1 2 c1 = some (4, [1, 0, 2, 1, 0, 0, 0, 0, 0, 0, 0, 0, 0, 0, 0, 0], [c0, 0, c1, 0, 0, 0, 0, 0, 0, 0, 0, 0, 0, 0, 0, 0], [0, 0, 0, 0, 0, 0, 0, 0, 0, 0, 0, 0, 0, 0, 0, 0], 1) := by
  repeat (first
    | with_reducible apply ev_bs
    | with_reducible refine ev_F (by decide) ?_
    | exact (rfl : Wk.sI _ _ _ = some _)
    | exact (rfl : Wk.sJ _ _ _ = some _)
    | rw [Fm_add] | rw [Fm_add4]
    | exact (rfl : some _ = some _))
set_option maxRecDepth 65536 in
set_option maxHeartbeats 40000000 in
theorem ev_addA2 (c0 c1 c2 : Int32) : Fm_add 4 [1, 0, 2, 1, 0, 0, 0, 0, 0, 0, 0, 0, 0, 0, 0, 0] [c0, 0, c1, 0, 0, 0, 0, 0, 0, 0, 0, 0, 0, 0, 0, 0] [0, 0, 0, 0, 0, 0, 0, 0, 0, 0, 0, 0, 0, 0, 0, 0] [0, 0, 0, 0, 0, 0, 0, 0, 0, 0, 0, 0, 0, 0, 0, 0] 0 2 c2 = some (6, [1, 0, 2, 1, 2, 0, 0, 0, 0, 0, 0, 0, 0, 0, 0, 0], [c0, 0, c1, 0, c2, 0, 0, 0, 0, 0, 0, 0, 0, 0, 0, 0], [0, 0, 0, 0, 0, 0, 0, 0, 0, 0, 0, 0, 0, 0, 0, 0], 2) := by
  repeat (first
    | with_reducible apply ev_bs
    | with_reducible refine ev_F (by decide) ?_
    | exact (rfl : Wk.sI _ _ _ = some _)
    | exact (rfl : Wk.sJ _ _ _ = some _)
    | rw [Fm_add] | rw [Fm_add4]
    | exact (rfl : some _ = some _))
set_option maxRecDepth 65536 in
set_option maxHeartbeats 40000000 in
theorem ev_addB0 (c0 c1 c2 : Int32) : Fm_add 0 [0, 0, 0, 0, 0, 0, 0, 0, 0, 0, 0, 0, 0, 0, 0, 0] [0, 0, 0, 0, 0, 0, 0, 0, 0, 0, 0, 0, 0, 0, 0, 0] [0, 0, 0, 0, 0, 0, 0, 0, 0, 0, 0, 0, 0, 0, 0, 0] [0, 0, 0, 0, 0, 0, 0, 0, 0, 0, 0, 0, 0, 0, 0, 0] 0 2 c2 = some (2, [2, 0, 0, 0, 0, 0, 0, 0, 0, 0, 0, 0, 0, 0, 0, 0], [c2, 0, 0, 0, 0, 0, 0, 0, 0, 0, 0, 0, 0, 0, 0, 0], [0, 0, 0, 0, 0, 0, 0, 0, 0, 0, 0, 0, 0, 0, 0, 0], 0) := by
  repeat (first
    | with_reducible apply ev_bs
    | with_reducible refine ev_F (by decide) ?_
    | exact (rfl : Wk.sI _ _ _ = some _)
    | exact (rfl : Wk.sJ _ _ _ = some _)
    | rw [Fm_add] | rw [Fm_add4]
    | exact (rfl : some _ = some _))
set_option maxRecDepth 65536 in
set_option maxHeartbeats 40000000 in
theorem ev_addB1 (c0 c1 c2 : Int32) : Fm_add 2 [2, 0, 0, 0, 0, 0, 0, 0, 0, 0, 0, 0, 0, 0, 0, 0] [c2, 0, 0, 0, 0, 0, 0, 0, 0, 0, 0, 0, 0, 0, 0, 0] [0, 0, 0, 0, 0, 0, 0, 0, 0, 0, 0, 0, 0, 0, 0, 0] [0, 0, 0, 0, 0, 0, 0, 0, 0, 0, 0, 0, 0, 0, 0, 0] 0 1 c0 = some (4, [2, 0, 1, 0, 0, 0, 0, 0, 0, 0, 0, 0, 0, 0, 0, 0], [c2, 0, c0, 0, 0, 0, 0, 0, 0, 0, 0, 0, 0, 0, 0, 0], [0, 0, 0, 0, 0, 0, 0, 0, 0, 0, 0, 0, 0, 0, 0, 0], 1) := by
  repeat (first
    | with_reducible apply ev_bs
    | with_reducible refine ev_F (by decide) ?_
    | exact (rfl : Wk.sI _ _ _ = some _)
    | exact (rfl : Wk.sJ _ _ _ = some _)
    | rw [Fm_add] | rw [Fm_add4]
    | exact (rfl : some _ = some _))
set_option maxRecDepth 65536 in
set_option maxHeartbeats 40000000 in
theorem ev_addB2 (c0 c1 c2 : Int32) : Fm_add 4 [2, 0, 1, 0, 0, 0, 0, 0, 0, 0, 0, 0, 0, 0, 0, 0] [c2, 0, c0, 0, 0, 0, 0, 0, 0, 0, 0, 0, 0, 0, 0, 0] [0, 0, 0, 0, 0, 0, 0, 0, 0, 0, 0, 0, 0, 0, 0, 0] [0, 0, 0, 0, 0, 0, 0, 0, 0, 0, 0, 0, 0, 0, 0, 0] 1 2 c1 = some (6, [2, 0, 1, 0, 2, 1, 0, 0, 0, 0, 0, 0, 0, 0, 0, 0], [c2, 0, c0, 0, c1, 0, 0, 0, 0, 0, 0, 0, 0, 0, 0, 0], [0, 0, 0, 0, 0, 0, 0, 0, 0, 0, 0, 0, 0, 0, 0, 0], 2) := by
  repeat (first
    | with_reducible apply ev_bs
    | with_reducible refine ev_F (by decide) ?_
    | exact (rfl : Wk.sI _ _ _ = some _)
    | exact (rfl : Wk.sJ _ _ _ = some _)
    | rw [Fm_add] | rw [Fm_add4]
    | exact (rfl : some _ = some _))
set_option maxRecDepth 65536 in
set_option maxHeartbeats 40000000 in
theorem m_18A (l : Launch) (Z : State) (a0 : Array Value) (hw : ∀ d ∈ tables_1, d.before a0 Z = true) (hB : Heap) (x0 x1 x2 x3 c0 c1 c2 p q r : Int32) (n0 : ¬ c0 < 0) (n1 : ¬ c1 < 0) (n2 : ¬ c2 < 0) (hMA : Fm_mf6 [1, 0, 2, 1, 2, 0, 0, 0, 0, 0, 0, 0, 0, 0, 0, 0] [c0, 0, c1, 0, c2, 0, 0, 0, 0, 0, 0, 0, 0, 0, 0, 0] [0, 0, 0, 0, 0, 0, 0, 0, 0, 0, 0, 0, 0, 0, 0, 0] [2, 2, 2] [0, 4] [1, 2] [3, 5] 6 0 2 [0, 0, 0, 0, 0, 0, 0, 0, 0, 0, 0, 0, 0, 0, 0, 0] = some (((mnI c0 c1).toInt64 + (c2 : Int32).toInt64), [(mnI c0 c1), p, (mnI c0 c1), q, c2, r, 0, 0, 0, 0, 0, 0, 0, 0, 0, 0])) (ho : (x3 &&& (1 : Int32)) = (0 : Int32)) : WP l Z hB x code maxLocals ret room_1 0 (fun v _ => v = some (.int 1)) 0 [] 18 #[.val (.int x0), .val (.int x1), .val (.int x2), .val (.int x3), .val (.int c0), .val (.int c1), .val (.int c2), .unset, .unset, .unset, .unset, .unset, .unset] [] := by
  refine Wk.newObj (pc' := 21) (i := 0) (H' := [obj "com/example/redoubt/redoubt/flow/FlowNetwork" ksFN [(.int (0 : Int32)), .null, .null, .null, .null, (.int (0 : Int32)), .null]]) at_18 (wd1 hw) (wd2 hw) (wd3 hw) (ksFN_laid hw) (ksFN_dist hw) (Nat.le_of_ble_eq_true rfl) (Nat.le_of_ble_eq_true rfl) rfl rfl rfl ?_
  refine Wk.dup (pc' := 22) at_21 rfl rfl ?_
  refine Wk.iconst (pc' := 23) (3 : Int32) at_22 (by decide) rfl ?_
  refine Wk.callI (pc' := 26) (argsL := [(.int (3 : Int32))]) (st := [(rf hB 0)]) at_23 rfl (wd4 hw) (wd5 hw) (wd3 hw) (wd6 hw) (by decide) (lenOf pd_0 rfl) (m_init l Z a0 hw hB) rfl (Nat.le_of_ble_eq_true rfl) (Nat.le_of_ble_eq_true rfl) (Nat.le_of_ble_eq_true rfl) (Nat.le_of_ble_eq_true rfl) rfl rfl ?_
  rintro _ _ ⟨rfl, hH⟩; obtain rfl := hH.symm
  show WP l Z hB _ _ _ _ _ _ _ _ [obj "com/example/redoubt/redoubt/flow/FlowNetwork" ksFN [(.int (3 : Int32)), (rf hB 1), (rf hB 2), (rf hB 3), (rf hB 4), (.int (0 : Int32)), .null], ints [0, 0, 0, 0, 0, 0, 0, 0, 0, 0, 0, 0, 0, 0, 0, 0], ints [0, 0, 0, 0, 0, 0, 0, 0, 0, 0, 0, 0, 0, 0, 0, 0], ints [0, 0, 0, 0, 0, 0, 0, 0, 0, 0, 0, 0, 0, 0, 0, 0], longs [0, 0, 0, 0, 0, 0, 0, 0, 0, 0, 0, 0, 0, 0, 0, 0]] _ _ [(rf hB 0)]
  refine Wk.astore (pc' := 28) (Ls' := #[.val (.int x0), .val (.int x1), .val (.int x2), .val (.int x3), .val (.int c0), .val (.int c1), .val (.int c2), .val (rf hB 0), .unset, .unset, .unset, .unset, .unset]) at_26 rfl rfl rfl ?_
  refine Wk.iconst (pc' := 29) (-1 : Int32) at_28 (by decide) rfl ?_
  refine Wk.istore (pc' := 31) (Ls' := #[.val (.int x0), .val (.int x1), .val (.int x2), .val (.int x3), .val (.int c0), .val (.int c1), .val (.int c2), .val (rf hB 0), .val (.int (-1 : Int32)), .unset, .unset, .unset, .unset]) at_29 rfl rfl ?_
  refine Wk.iloadN (pc' := 32) at_31 rfl rfl ?_
  refine Wk.iconst (pc' := 33) (1 : Int32) at_32 (by decide) rfl ?_
  refine Wk.iand (pc' := 34) at_33 rfl ?_
  refine Wk.ifY (pc' := 48) at_34 (XT.i0_eq_t ho) (by decide) (by decide) ?_
  refine Wk.aload (pc' := 50) at_48 rfl rfl rfl ?_
  refine Wk.iconst (pc' := 51) (0 : Int32) at_50 (by decide) rfl ?_
  refine Wk.iconst (pc' := 52) (1 : Int32) at_51 (by decide) rfl ?_
  refine Wk.iload (pc' := 54) at_52 rfl rfl ?_
  refine Wk.callV (pc' := 57) (argsL := [(.int (0 : Int32)), (.int (1 : Int32)), (.int c0)]) (st := []) at_54 (wd22 hw) (wd23 hw) (Wk.nfSel (wd25 hw)) (wd25 hw) (wd24 hw) (wd3 hw) (wd26 hw) (by decide) (lenOf pd_12 rfl) (fun _ P => P.exa rfl) (m_add l Z a0 hw hB 0 [0, 0, 0, 0, 0, 0, 0, 0, 0, 0, 0, 0, 0, 0, 0, 0] [0, 0, 0, 0, 0, 0, 0, 0, 0, 0, 0, 0, 0, 0, 0, 0] [0, 0, 0, 0, 0, 0, 0, 0, 0, 0, 0, 0, 0, 0, 0, 0] [0, 0, 0, 0, 0, 0, 0, 0, 0, 0, 0, 0, 0, 0, 0, 0] 0 1 c0 _ (ev_addA0 c0 c1 c2) (by decide) (by decide) (by decide) (by decide) n0) rfl (Nat.le_of_ble_eq_true rfl) (Nat.le_of_ble_eq_true rfl) (Nat.le_of_ble_eq_true rfl) (Nat.le_of_ble_eq_true rfl) rfl rfl ?_
  rintro _ _ ⟨rfl, hH⟩; obtain rfl := hH.symm
  show WP l Z hB _ _ _ _ _ _ _ _ [obj "com/example/redoubt/redoubt/flow/FlowNetwork" ksFN [(.int (3 : Int32)), (rf hB 1), (rf hB 2), (rf hB 3), (rf hB 4), (.int (2 : Int32)), .null], ints [1, 0, 0, 0, 0, 0, 0, 0, 0, 0, 0, 0, 0, 0, 0, 0], ints [c0, 0, 0, 0, 0, 0, 0, 0, 0, 0, 0, 0, 0, 0, 0, 0], ints [0, 0, 0, 0, 0, 0, 0, 0, 0, 0, 0, 0, 0, 0, 0, 0], longs [0, 0, 0, 0, 0, 0, 0, 0, 0, 0, 0, 0, 0, 0, 0, 0]] _ _ [(.int (0 : Int32))]
  refine Wk.istore (pc' := 59) (Ls' := #[.val (.int x0), .val (.int x1), .val (.int x2), .val (.int x3), .val (.int c0), .val (.int c1), .val (.int c2), .val (rf hB 0), .val (.int (-1 : Int32)), .val (.int (0 : Int32)), .unset, .unset, .unset]) at_57 rfl rfl ?_
  refine Wk.aload (pc' := 61) at_59 rfl rfl rfl ?_
  refine Wk.iconst (pc' := 62) (1 : Int32) at_61 (by decide) rfl ?_
  refine Wk.iconst (pc' := 63) (2 : Int32) at_62 (by decide) rfl ?_
  refine Wk.iload (pc' := 65) at_63 rfl rfl ?_
  refine Wk.callV (pc' := 68) (argsL := [(.int (1 : Int32)), (.int (2 : Int32)), (.int c1)]) (st := []) at_65 (wd22 hw) (wd23 hw) (Wk.nfSel (wd25 hw)) (wd25 hw) (wd24 hw) (wd3 hw) (wd26 hw) (by decide) (lenOf pd_12 rfl) (fun _ P => P.exa rfl) (m_add l Z a0 hw hB 2 [1, 0, 0, 0, 0, 0, 0, 0, 0, 0, 0, 0, 0, 0, 0, 0] [c0, 0, 0, 0, 0, 0, 0, 0, 0, 0, 0, 0, 0, 0, 0, 0] [0, 0, 0, 0, 0, 0, 0, 0, 0, 0, 0, 0, 0, 0, 0, 0] [0, 0, 0, 0, 0, 0, 0, 0, 0, 0, 0, 0, 0, 0, 0, 0] 1 2 c1 _ (ev_addA1 c0 c1 c2) (by decide) (by decide) (by decide) (by decide) n1) rfl (Nat.le_of_ble_eq_true rfl) (Nat.le_of_ble_eq_true rfl) (Nat.le_of_ble_eq_true rfl) (Nat.le_of_ble_eq_true rfl) rfl rfl ?_
  rintro _ _ ⟨rfl, hH⟩; obtain rfl := hH.symm
  show WP l Z hB _ _ _ _ _ _ _ _ [obj "com/example/redoubt/redoubt/flow/FlowNetwork" ksFN [(.int (3 : Int32)), (rf hB 1), (rf hB 2), (rf hB 3), (rf hB 4), (.int (4 : Int32)), .null], ints [1, 0, 2, 1, 0, 0, 0, 0, 0, 0, 0, 0, 0, 0, 0, 0], ints [c0, 0, c1, 0, 0, 0, 0, 0, 0, 0, 0, 0, 0, 0, 0, 0], ints [0, 0, 0, 0, 0, 0, 0, 0, 0, 0, 0, 0, 0, 0, 0, 0], longs [0, 0, 0, 0, 0, 0, 0, 0, 0, 0, 0, 0, 0, 0, 0, 0]] _ _ [(.int (1 : Int32))]
  refine Wk.istore (pc' := 70) (Ls' := #[.val (.int x0), .val (.int x1), .val (.int x2), .val (.int x3), .val (.int c0), .val (.int c1), .val (.int c2), .val (rf hB 0), .val (.int (-1 : Int32)), .val (.int (0 : Int32)), .val (.int (1 : Int32)), .unset, .unset]) at_68 rfl rfl ?_
  refine Wk.iloadN (pc' := 71) at_70 rfl rfl ?_
  refine Wk.iconst (pc' := 72) (1 : Int32) at_71 (by decide) rfl ?_
  refine Wk.iand (pc' := 73) at_72 rfl ?_
  refine Wk.ifN (pc' := 76) at_73 (XT.i0_ne_f ho) rfl ?_
  refine Wk.aload (pc' := 78) at_76 rfl rfl rfl ?_
  refine Wk.iconst (pc' := 79) (0 : Int32) at_78 (by decide) rfl ?_
  refine Wk.iconst (pc' := 80) (2 : Int32) at_79 (by decide) rfl ?_
  refine Wk.iload (pc' := 82) at_80 rfl rfl ?_
  refine Wk.callV (pc' := 85) (argsL := [(.int (0 : Int32)), (.int (2 : Int32)), (.int c2)]) (st := []) at_82 (wd22 hw) (wd23 hw) (Wk.nfSel (wd25 hw)) (wd25 hw) (wd24 hw) (wd3 hw) (wd26 hw) (by decide) (lenOf pd_12 rfl) (fun _ P => P.exa rfl) (m_add l Z a0 hw hB 4 [1, 0, 2, 1, 0, 0, 0, 0, 0, 0, 0, 0, 0, 0, 0, 0] [c0, 0, c1, 0, 0, 0, 0, 0, 0, 0, 0, 0, 0, 0, 0, 0] [0, 0, 0, 0, 0, 0, 0, 0, 0, 0, 0, 0, 0, 0, 0, 0] [0, 0, 0, 0, 0, 0, 0, 0, 0, 0, 0, 0, 0, 0, 0, 0] 0 2 c2 _ (ev_addA2 c0 c1 c2) (by decide) (by decide) (by decide) (by decide) n2) rfl (Nat.le_of_ble_eq_true rfl) (Nat.le_of_ble_eq_true rfl) (Nat.le_of_ble_eq_true rfl) (Nat.le_of_ble_eq_true rfl) rfl rfl ?_
  rintro _ _ ⟨rfl, hH⟩; obtain rfl := hH.symm
  show WP l Z hB _ _ _ _ _ _ _ _ [obj "com/example/redoubt/redoubt/flow/FlowNetwork" ksFN [(.int (3 : Int32)), (rf hB 1), (rf hB 2), (rf hB 3), (rf hB 4), (.int (6 : Int32)), .null], ints [1, 0, 2, 1, 2, 0, 0, 0, 0, 0, 0, 0, 0, 0, 0, 0], ints [c0, 0, c1, 0, c2, 0, 0, 0, 0, 0, 0, 0, 0, 0, 0, 0], ints [0, 0, 0, 0, 0, 0, 0, 0, 0, 0, 0, 0, 0, 0, 0, 0], longs [0, 0, 0, 0, 0, 0, 0, 0, 0, 0, 0, 0, 0, 0, 0, 0]] _ _ [(.int (2 : Int32))]
  refine Wk.istore (pc' := 87) (Ls' := #[.val (.int x0), .val (.int x1), .val (.int x2), .val (.int x3), .val (.int c0), .val (.int c1), .val (.int c2), .val (rf hB 0), .val (.int (2 : Int32)), .val (.int (0 : Int32)), .val (.int (1 : Int32)), .unset, .unset]) at_85 rfl rfl ?_
  refine Wk.aload (pc' := 89) at_87 rfl rfl rfl ?_
  refine Wk.iload (pc' := 91) at_89 rfl rfl ?_
  refine Wk.callV (pc' := 94) (argsL := [(.int (2 : Int32))]) (st := []) at_91 (wd46 hw) (wd47 hw) (Wk.nfSel (wd49 hw)) (wd49 hw) (wd48 hw) (wd3 hw) (wd50 hw) (by decide) (lenOf pd_3 rfl) (fun _ P => P.exa rfl) (m_flow l Z a0 hw hB [obj "com/example/redoubt/redoubt/flow/FlowNetwork" ksFN [(.int (3 : Int32)), (rf hB 1), (rf hB 2), (rf hB 3), (rf hB 4), (.int (6 : Int32)), .null], ints [1, 0, 2, 1, 2, 0, 0, 0, 0, 0, 0, 0, 0, 0, 0, 0], ints [c0, 0, c1, 0, c2, 0, 0, 0, 0, 0, 0, 0, 0, 0, 0, 0], ints [0, 0, 0, 0, 0, 0, 0, 0, 0, 0, 0, 0, 0, 0, 0, 0], longs [0, 0, 0, 0, 0, 0, 0, 0, 0, 0, 0, 0, 0, 0, 0, 0]] 6 .null rfl [0, 0, 0, 0, 0, 0, 0, 0, 0, 0, 0, 0, 0, 0, 0, 0] (2 : Int32) 0 rfl rfl (by decide) (by decide)) rfl (Nat.le_of_ble_eq_true rfl) (Nat.le_of_ble_eq_true rfl) (Nat.le_of_ble_eq_true rfl) (Nat.le_of_ble_eq_true rfl) rfl rfl ?_
  rintro _ _ ⟨rfl, hH⟩; obtain rfl := hH.symm
  show WP l Z hB _ _ _ _ _ _ _ _ [obj "com/example/redoubt/redoubt/flow/FlowNetwork" ksFN [(.int (3 : Int32)), (rf hB 1), (rf hB 2), (rf hB 3), (rf hB 4), (.int (6 : Int32)), .null], ints [1, 0, 2, 1, 2, 0, 0, 0, 0, 0, 0, 0, 0, 0, 0, 0], ints [c0, 0, c1, 0, c2, 0, 0, 0, 0, 0, 0, 0, 0, 0, 0, 0], ints [0, 0, 0, 0, 0, 0, 0, 0, 0, 0, 0, 0, 0, 0, 0, 0], longs [0, 0, 0, 0, 0, 0, 0, 0, 0, 0, 0, 0, 0, 0, 0, 0]] _ _ [(.int (0 : Int32))]
  refine Wk.ifN (pc' := 97) at_94 (XT.i0_ne_f rfl) rfl ?_
  refine Wk.iconst (pc' := 98) (1 : Int32) at_97 (by decide) rfl ?_
  refine Wk.goTo (pc' := 102) at_98 (by decide) (by decide) ?_
  refine Wk.istore (pc' := 104) (Ls' := #[.val (.int x0), .val (.int x1), .val (.int x2), .val (.int x3), .val (.int c0), .val (.int c1), .val (.int c2), .val (rf hB 0), .val (.int (2 : Int32)), .val (.int (0 : Int32)), .val (.int (1 : Int32)), .val (.int (1 : Int32)), .unset]) at_102 rfl rfl ?_
  refine Wk.aload (pc' := 106) at_104 rfl rfl rfl ?_
  refine Wk.iconst (pc' := 107) (0 : Int32) at_106 (by decide) rfl ?_
  refine Wk.iconst (pc' := 108) (2 : Int32) at_107 (by decide) rfl ?_
  refine Wk.callV (pc' := 111) (argsL := [(.int (0 : Int32)), (.int (2 : Int32))]) (st := []) at_108 (wd55 hw) (wd56 hw) (Wk.nfSel (wd58 hw)) (wd58 hw) (wd57 hw) (wd3 hw) (wd59 hw) (by decide) (lenOf pd_13 rfl) (fun _ P => P.exa rfl) (m_max_A l Z a0 hw hB [c0, 0, c1, 0, c2, 0, 0, 0, 0, 0, 0, 0, 0, 0, 0, 0] [0, 0, 0, 0, 0, 0, 0, 0, 0, 0, 0, 0, 0, 0, 0, 0] [0, 0, 0, 0, 0, 0, 0, 0, 0, 0, 0, 0, 0, 0, 0, 0] 0 2 (by decide) (by decide) (by decide) (by decide) (by decide) _ hMA) rfl (Nat.le_of_ble_eq_true rfl) (Nat.le_of_ble_eq_true rfl) (Nat.le_of_ble_eq_true rfl) (Nat.le_of_ble_eq_true rfl) rfl rfl ?_
  rintro _ _ ⟨rfl, G1, hH, hG1⟩; obtain rfl := hH.symm
  show WP l Z hB _ _ _ _ _ _ _ _ ([obj "com/example/redoubt/redoubt/flow/FlowNetwork" ksFN [(.int (3 : Int32)), (rf hB 1), (rf hB 2), (rf hB 3), (rf hB 4), (.int (6 : Int32)), (rf hB 6)], ints [1, 0, 2, 1, 2, 0, 0, 0, 0, 0, 0, 0, 0, 0, 0, 0], ints [c0, 0, c1, 0, c2, 0, 0, 0, 0, 0, 0, 0, 0, 0, 0, 0], ints [(mnI c0 c1), p, (mnI c0 c1), q, c2, r, 0, 0, 0, 0, 0, 0, 0, 0, 0, 0], longs [0, 0, 0, 0, 0, 0, 0, 0, 0, 0, 0, 0, 0, 0, 0, 0], ints [2, 2, 2], arr (.array .int) [(rf hB 7), (rf hB 8), (rf hB 9)], ints [0, 4], ints [1, 2], ints [3, 5]] ++ G1) _ _ [(.long ((mnI c0 c1).toInt64 + (c2 : Int32).toInt64))]
  refine Wk.pop2L (pc' := 112) at_111 rfl ?_
  refine Wk.iload (pc' := 114) at_112 rfl rfl ?_
  refine Wk.iload (pc' := 116) at_114 rfl rfl ?_
  refine Wk.callS (pc' := 119) (argsL := [(.int c0), (.int c1)]) (st := []) at_116 (wd100 hw) (wd93 hw) (wd94 hw) (wd95 hw) (by decide) (lenOf pd_5 rfl) (m_min l Z a0 hw hB ([obj "com/example/redoubt/redoubt/flow/FlowNetwork" ksFN [(.int (3 : Int32)), (rf hB 1), (rf hB 2), (rf hB 3), (rf hB 4), (.int (6 : Int32)), (rf hB 6)], ints [1, 0, 2, 1, 2, 0, 0, 0, 0, 0, 0, 0, 0, 0, 0, 0], ints [c0, 0, c1, 0, c2, 0, 0, 0, 0, 0, 0, 0, 0, 0, 0, 0], ints [(mnI c0 c1), p, (mnI c0 c1), q, c2, r, 0, 0, 0, 0, 0, 0, 0, 0, 0, 0], longs [0, 0, 0, 0, 0, 0, 0, 0, 0, 0, 0, 0, 0, 0, 0, 0], ints [2, 2, 2], arr (.array .int) [(rf hB 7), (rf hB 8), (rf hB 9)], ints [0, 4], ints [1, 2], ints [3, 5]] ++ G1) c0 c1) rfl (Nat.le_of_ble_eq_true rfl) (Nat.le_of_ble_eq_true rfl) (by simp only [List.length_append, List.length_cons, List.length_nil] <;> (try show _ ≤ 0 + 40) <;> omega) (Nat.le_of_ble_eq_true rfl) rfl rfl ?_
  rintro _ _ ⟨rfl, hH⟩; obtain rfl := hH.symm
  show WP l Z hB _ _ _ _ _ _ _ _ ([obj "com/example/redoubt/redoubt/flow/FlowNetwork" ksFN [(.int (3 : Int32)), (rf hB 1), (rf hB 2), (rf hB 3), (rf hB 4), (.int (6 : Int32)), (rf hB 6)], ints [1, 0, 2, 1, 2, 0, 0, 0, 0, 0, 0, 0, 0, 0, 0, 0], ints [c0, 0, c1, 0, c2, 0, 0, 0, 0, 0, 0, 0, 0, 0, 0, 0], ints [(mnI c0 c1), p, (mnI c0 c1), q, c2, r, 0, 0, 0, 0, 0, 0, 0, 0, 0, 0], longs [0, 0, 0, 0, 0, 0, 0, 0, 0, 0, 0, 0, 0, 0, 0, 0], ints [2, 2, 2], arr (.array .int) [(rf hB 7), (rf hB 8), (rf hB 9)], ints [0, 4], ints [1, 2], ints [3, 5]] ++ G1) _ _ [(.int (mnI c0 c1))]
  refine Wk.istore (pc' := 121) (Ls' := #[.val (.int x0), .val (.int x1), .val (.int x2), .val (.int x3), .val (.int c0), .val (.int c1), .val (.int c2), .val (rf hB 0), .val (.int (2 : Int32)), .val (.int (0 : Int32)), .val (.int (1 : Int32)), .val (.int (1 : Int32)), .val (.int (mnI c0 c1))]) at_119 rfl rfl ?_
  refine Wk.iload (pc' := 123) at_121 rfl rfl ?_
  refine Wk.ifN (pc' := 126) at_123 (XT.i0_eq_f (by decide)) rfl ?_
  refine Wk.aload (pc' := 128) at_126 rfl rfl rfl ?_
  refine Wk.iload (pc' := 130) at_128 rfl rfl ?_
  refine Wk.callV (pc' := 133) (argsL := [(.int (0 : Int32))]) (st := []) at_130 (wd46 hw) (wd47 hw) (Wk.nfSel (wd49 hw)) (wd49 hw) (wd48 hw) (wd3 hw) (wd50 hw) (by decide) (lenOf pd_3 rfl) (fun _ P => P.exa rfl) (m_flow l Z a0 hw hB ([obj "com/example/redoubt/redoubt/flow/FlowNetwork" ksFN [(.int (3 : Int32)), (rf hB 1), (rf hB 2), (rf hB 3), (rf hB 4), (.int (6 : Int32)), (rf hB 6)], ints [1, 0, 2, 1, 2, 0, 0, 0, 0, 0, 0, 0, 0, 0, 0, 0], ints [c0, 0, c1, 0, c2, 0, 0, 0, 0, 0, 0, 0, 0, 0, 0, 0], ints [(mnI c0 c1), p, (mnI c0 c1), q, c2, r, 0, 0, 0, 0, 0, 0, 0, 0, 0, 0], longs [0, 0, 0, 0, 0, 0, 0, 0, 0, 0, 0, 0, 0, 0, 0, 0], ints [2, 2, 2], arr (.array .int) [(rf hB 7), (rf hB 8), (rf hB 9)], ints [0, 4], ints [1, 2], ints [3, 5]] ++ G1) 6 (rf hB 6) rfl [(mnI c0 c1), p, (mnI c0 c1), q, c2, r, 0, 0, 0, 0, 0, 0, 0, 0, 0, 0] (0 : Int32) (mnI c0 c1) rfl rfl (by decide) (by decide)) rfl (Nat.le_of_ble_eq_true rfl) (Nat.le_of_ble_eq_true rfl) (by simp only [List.length_append, List.length_cons, List.length_nil] <;> (try show _ ≤ 0 + 40) <;> omega) (Nat.le_of_ble_eq_true rfl) rfl rfl ?_
  rintro _ _ ⟨rfl, hH⟩; obtain rfl := hH.symm
  show WP l Z hB _ _ _ _ _ _ _ _ ([obj "com/example/redoubt/redoubt/flow/FlowNetwork" ksFN [(.int (3 : Int32)), (rf hB 1), (rf hB 2), (rf hB 3), (rf hB 4), (.int (6 : Int32)), (rf hB 6)], ints [1, 0, 2, 1, 2, 0, 0, 0, 0, 0, 0, 0, 0, 0, 0, 0], ints [c0, 0, c1, 0, c2, 0, 0, 0, 0, 0, 0, 0, 0, 0, 0, 0], ints [(mnI c0 c1), p, (mnI c0 c1), q, c2, r, 0, 0, 0, 0, 0, 0, 0, 0, 0, 0], longs [0, 0, 0, 0, 0, 0, 0, 0, 0, 0, 0, 0, 0, 0, 0, 0], ints [2, 2, 2], arr (.array .int) [(rf hB 7), (rf hB 8), (rf hB 9)], ints [0, 4], ints [1, 2], ints [3, 5]] ++ G1) _ _ [(.int (mnI c0 c1))]
  refine Wk.iload (pc' := 135) at_133 rfl rfl ?_
  refine Wk.icN (pc' := 138) at_135 (XT.ii_ne_f rfl) rfl ?_
  refine Wk.aload (pc' := 140) at_138 rfl rfl rfl ?_
  refine Wk.iload (pc' := 142) at_140 rfl rfl ?_
  refine Wk.callV (pc' := 145) (argsL := [(.int (1 : Int32))]) (st := []) at_142 (wd46 hw) (wd47 hw) (Wk.nfSel (wd49 hw)) (wd49 hw) (wd48 hw) (wd3 hw) (wd50 hw) (by decide) (lenOf pd_3 rfl) (fun _ P => P.exa rfl) (m_flow l Z a0 hw hB ([obj "com/example/redoubt/redoubt/flow/FlowNetwork" ksFN [(.int (3 : Int32)), (rf hB 1), (rf hB 2), (rf hB 3), (rf hB 4), (.int (6 : Int32)), (rf hB 6)], ints [1, 0, 2, 1, 2, 0, 0, 0, 0, 0, 0, 0, 0, 0, 0, 0], ints [c0, 0, c1, 0, c2, 0, 0, 0, 0, 0, 0, 0, 0, 0, 0, 0], ints [(mnI c0 c1), p, (mnI c0 c1), q, c2, r, 0, 0, 0, 0, 0, 0, 0, 0, 0, 0], longs [0, 0, 0, 0, 0, 0, 0, 0, 0, 0, 0, 0, 0, 0, 0, 0], ints [2, 2, 2], arr (.array .int) [(rf hB 7), (rf hB 8), (rf hB 9)], ints [0, 4], ints [1, 2], ints [3, 5]] ++ G1) 6 (rf hB 6) rfl [(mnI c0 c1), p, (mnI c0 c1), q, c2, r, 0, 0, 0, 0, 0, 0, 0, 0, 0, 0] (1 : Int32) (mnI c0 c1) rfl rfl (by decide) (by decide)) rfl (Nat.le_of_ble_eq_true rfl) (Nat.le_of_ble_eq_true rfl) (by simp only [List.length_append, List.length_cons, List.length_nil] <;> (try show _ ≤ 0 + 40) <;> omega) (Nat.le_of_ble_eq_true rfl) rfl rfl ?_
  rintro _ _ ⟨rfl, hH⟩; obtain rfl := hH.symm
  show WP l Z hB _ _ _ _ _ _ _ _ ([obj "com/example/redoubt/redoubt/flow/FlowNetwork" ksFN [(.int (3 : Int32)), (rf hB 1), (rf hB 2), (rf hB 3), (rf hB 4), (.int (6 : Int32)), (rf hB 6)], ints [1, 0, 2, 1, 2, 0, 0, 0, 0, 0, 0, 0, 0, 0, 0, 0], ints [c0, 0, c1, 0, c2, 0, 0, 0, 0, 0, 0, 0, 0, 0, 0, 0], ints [(mnI c0 c1), p, (mnI c0 c1), q, c2, r, 0, 0, 0, 0, 0, 0, 0, 0, 0, 0], longs [0, 0, 0, 0, 0, 0, 0, 0, 0, 0, 0, 0, 0, 0, 0, 0], ints [2, 2, 2], arr (.array .int) [(rf hB 7), (rf hB 8), (rf hB 9)], ints [0, 4], ints [1, 2], ints [3, 5]] ++ G1) _ _ [(.int (mnI c0 c1))]
  refine Wk.iload (pc' := 147) at_145 rfl rfl ?_
  refine Wk.icN (pc' := 150) at_147 (XT.ii_ne_f rfl) rfl ?_
  refine Wk.aload (pc' := 152) at_150 rfl rfl rfl ?_
  refine Wk.iload (pc' := 154) at_152 rfl rfl ?_
  refine Wk.callV (pc' := 157) (argsL := [(.int (2 : Int32))]) (st := []) at_154 (wd46 hw) (wd47 hw) (Wk.nfSel (wd49 hw)) (wd49 hw) (wd48 hw) (wd3 hw) (wd50 hw) (by decide) (lenOf pd_3 rfl) (fun _ P => P.exa rfl) (m_flow l Z a0 hw hB ([obj "com/example/redoubt/redoubt/flow/FlowNetwork" ksFN [(.int (3 : Int32)), (rf hB 1), (rf hB 2), (rf hB 3), (rf hB 4), (.int (6 : Int32)), (rf hB 6)], ints [1, 0, 2, 1, 2, 0, 0, 0, 0, 0, 0, 0, 0, 0, 0, 0], ints [c0, 0, c1, 0, c2, 0, 0, 0, 0, 0, 0, 0, 0, 0, 0, 0], ints [(mnI c0 c1), p, (mnI c0 c1), q, c2, r, 0, 0, 0, 0, 0, 0, 0, 0, 0, 0], longs [0, 0, 0, 0, 0, 0, 0, 0, 0, 0, 0, 0, 0, 0, 0, 0], ints [2, 2, 2], arr (.array .int) [(rf hB 7), (rf hB 8), (rf hB 9)], ints [0, 4], ints [1, 2], ints [3, 5]] ++ G1) 6 (rf hB 6) rfl [(mnI c0 c1), p, (mnI c0 c1), q, c2, r, 0, 0, 0, 0, 0, 0, 0, 0, 0, 0] (2 : Int32) c2 rfl rfl (by decide) (by decide)) rfl (Nat.le_of_ble_eq_true rfl) (Nat.le_of_ble_eq_true rfl) (by simp only [List.length_append, List.length_cons, List.length_nil] <;> (try show _ ≤ 0 + 40) <;> omega) (Nat.le_of_ble_eq_true rfl) rfl rfl ?_
  rintro _ _ ⟨rfl, hH⟩; obtain rfl := hH.symm
  show WP l Z hB _ _ _ _ _ _ _ _ ([obj "com/example/redoubt/redoubt/flow/FlowNetwork" ksFN [(.int (3 : Int32)), (rf hB 1), (rf hB 2), (rf hB 3), (rf hB 4), (.int (6 : Int32)), (rf hB 6)], ints [1, 0, 2, 1, 2, 0, 0, 0, 0, 0, 0, 0, 0, 0, 0, 0], ints [c0, 0, c1, 0, c2, 0, 0, 0, 0, 0, 0, 0, 0, 0, 0, 0], ints [(mnI c0 c1), p, (mnI c0 c1), q, c2, r, 0, 0, 0, 0, 0, 0, 0, 0, 0, 0], longs [0, 0, 0, 0, 0, 0, 0, 0, 0, 0, 0, 0, 0, 0, 0, 0], ints [2, 2, 2], arr (.array .int) [(rf hB 7), (rf hB 8), (rf hB 9)], ints [0, 4], ints [1, 2], ints [3, 5]] ++ G1) _ _ [(.int c2)]
  refine Wk.iload (pc' := 159) at_157 rfl rfl ?_
  refine Wk.icN (pc' := 162) at_159 (XT.ii_ne_f rfl) rfl ?_
  refine Wk.iconst (pc' := 163) (1 : Int32) at_162 (by decide) rfl ?_
  refine Wk.goTo (pc' := 167) at_163 (by decide) (by decide) ?_
  exact Wk.iret (t := .boolean) at_167 rfl (by simp) rfl (by simp only [List.length_append, List.length_cons, List.length_nil] <;> (try show _ ≤ 0 + 40) <;> omega) (Nat.le_of_ble_eq_true rfl) rfl
set_option maxRecDepth 65536 in
set_option maxHeartbeats 40000000 in
theorem m_18B (l : Launch) (Z : State) (a0 : Array Value) (hw : ∀ d ∈ tables_1, d.before a0 Z = true) (hB : Heap) (x0 x1 x2 x3 c0 c1 c2 p q r : Int32) (n0 : ¬ c0 < 0) (n1 : ¬ c1 < 0) (n2 : ¬ c2 < 0) (hMB : Fm_mf6 [2, 0, 1, 0, 2, 1, 0, 0, 0, 0, 0, 0, 0, 0, 0, 0] [c2, 0, c0, 0, c1, 0, 0, 0, 0, 0, 0, 0, 0, 0, 0, 0] [0, 0, 0, 0, 0, 0, 0, 0, 0, 0, 0, 0, 0, 0, 0, 0] [2, 2, 2] [0, 2] [3, 4] [1, 5] 6 0 2 [0, 0, 0, 0, 0, 0, 0, 0, 0, 0, 0, 0, 0, 0, 0, 0] = some (((c2 : Int32).toInt64 + (mnI c0 c1).toInt64), [c2, p, (mnI c0 c1), q, (mnI c0 c1), r, 0, 0, 0, 0, 0, 0, 0, 0, 0, 0])) (ho : ¬ (x3 &&& (1 : Int32)) = (0 : Int32)) : WP l Z hB x code maxLocals ret room_1 0 (fun v _ => v = some (.int 1)) 0 [] 18 #[.val (.int x0), .val (.int x1), .val (.int x2), .val (.int x3), .val (.int c0), .val (.int c1), .val (.int c2), .unset, .unset, .unset, .unset, .unset, .unset] [] := by
  refine Wk.newObj (pc' := 21) (i := 0) (H' := [obj "com/example/redoubt/redoubt/flow/FlowNetwork" ksFN [(.int (0 : Int32)), .null, .null, .null, .null, (.int (0 : Int32)), .null]]) at_18 (wd1 hw) (wd2 hw) (wd3 hw) (ksFN_laid hw) (ksFN_dist hw) (Nat.le_of_ble_eq_true rfl) (Nat.le_of_ble_eq_true rfl) rfl rfl rfl ?_
  refine Wk.dup (pc' := 22) at_21 rfl rfl ?_
  refine Wk.iconst (pc' := 23) (3 : Int32) at_22 (by decide) rfl ?_
  refine Wk.callI (pc' := 26) (argsL := [(.int (3 : Int32))]) (st := [(rf hB 0)]) at_23 rfl (wd4 hw) (wd5 hw) (wd3 hw) (wd6 hw) (by decide) (lenOf pd_0 rfl) (m_init l Z a0 hw hB) rfl (Nat.le_of_ble_eq_true rfl) (Nat.le_of_ble_eq_true rfl) (Nat.le_of_ble_eq_true rfl) (Nat.le_of_ble_eq_true rfl) rfl rfl ?_
  rintro _ _ ⟨rfl, hH⟩; obtain rfl := hH.symm
  show WP l Z hB _ _ _ _ _ _ _ _ [obj "com/example/redoubt/redoubt/flow/FlowNetwork" ksFN [(.int (3 : Int32)), (rf hB 1), (rf hB 2), (rf hB 3), (rf hB 4), (.int (0 : Int32)), .null], ints [0, 0, 0, 0, 0, 0, 0, 0, 0, 0, 0, 0, 0, 0, 0, 0], ints [0, 0, 0, 0, 0, 0, 0, 0, 0, 0, 0, 0, 0, 0, 0, 0], ints [0, 0, 0, 0, 0, 0, 0, 0, 0, 0, 0, 0, 0, 0, 0, 0], longs [0, 0, 0, 0, 0, 0, 0, 0, 0, 0, 0, 0, 0, 0, 0, 0]] _ _ [(rf hB 0)]
  refine Wk.astore (pc' := 28) (Ls' := #[.val (.int x0), .val (.int x1), .val (.int x2), .val (.int x3), .val (.int c0), .val (.int c1), .val (.int c2), .val (rf hB 0), .unset, .unset, .unset, .unset, .unset]) at_26 rfl rfl rfl ?_
  refine Wk.iconst (pc' := 29) (-1 : Int32) at_28 (by decide) rfl ?_
  refine Wk.istore (pc' := 31) (Ls' := #[.val (.int x0), .val (.int x1), .val (.int x2), .val (.int x3), .val (.int c0), .val (.int c1), .val (.int c2), .val (rf hB 0), .val (.int (-1 : Int32)), .unset, .unset, .unset, .unset]) at_29 rfl rfl ?_
  refine Wk.iloadN (pc' := 32) at_31 rfl rfl ?_
  refine Wk.iconst (pc' := 33) (1 : Int32) at_32 (by decide) rfl ?_
  refine Wk.iand (pc' := 34) at_33 rfl ?_
  refine Wk.ifN (pc' := 37) at_34 (XT.i0_eq_f ho) rfl ?_
  refine Wk.aload (pc' := 39) at_37 rfl rfl rfl ?_
  refine Wk.iconst (pc' := 40) (0 : Int32) at_39 (by decide) rfl ?_
  refine Wk.iconst (pc' := 41) (2 : Int32) at_40 (by decide) rfl ?_
  refine Wk.iload (pc' := 43) at_41 rfl rfl ?_
  refine Wk.callV (pc' := 46) (argsL := [(.int (0 : Int32)), (.int (2 : Int32)), (.int c2)]) (st := []) at_43 (wd22 hw) (wd23 hw) (Wk.nfSel (wd25 hw)) (wd25 hw) (wd24 hw) (wd3 hw) (wd26 hw) (by decide) (lenOf pd_12 rfl) (fun _ P => P.exa rfl) (m_add l Z a0 hw hB 0 [0, 0, 0, 0, 0, 0, 0, 0, 0, 0, 0, 0, 0, 0, 0, 0] [0, 0, 0, 0, 0, 0, 0, 0, 0, 0, 0, 0, 0, 0, 0, 0] [0, 0, 0, 0, 0, 0, 0, 0, 0, 0, 0, 0, 0, 0, 0, 0] [0, 0, 0, 0, 0, 0, 0, 0, 0, 0, 0, 0, 0, 0, 0, 0] 0 2 c2 _ (ev_addB0 c0 c1 c2) (by decide) (by decide) (by decide) (by decide) n2) rfl (Nat.le_of_ble_eq_true rfl) (Nat.le_of_ble_eq_true rfl) (Nat.le_of_ble_eq_true rfl) (Nat.le_of_ble_eq_true rfl) rfl rfl ?_
  rintro _ _ ⟨rfl, hH⟩; obtain rfl := hH.symm
  show WP l Z hB _ _ _ _ _ _ _ _ [obj "com/example/redoubt/redoubt/flow/FlowNetwork" ksFN [(.int (3 : Int32)), (rf hB 1), (rf hB 2), (rf hB 3), (rf hB 4), (.int (2 : Int32)), .null], ints [2, 0, 0, 0, 0, 0, 0, 0, 0, 0, 0, 0, 0, 0, 0, 0], ints [c2, 0, 0, 0, 0, 0, 0, 0, 0, 0, 0, 0, 0, 0, 0, 0], ints [0, 0, 0, 0, 0, 0, 0, 0, 0, 0, 0, 0, 0, 0, 0, 0], longs [0, 0, 0, 0, 0, 0, 0, 0, 0, 0, 0, 0, 0, 0, 0, 0]] _ _ [(.int (0 : Int32))]
  refine Wk.istore (pc' := 48) (Ls' := #[.val (.int x0), .val (.int x1), .val (.int x2), .val (.int x3), .val (.int c0), .val (.int c1), .val (.int c2), .val (rf hB 0), .val (.int (0 : Int32)), .unset, .unset, .unset, .unset]) at_46 rfl rfl ?_
  refine Wk.aload (pc' := 50) at_48 rfl rfl rfl ?_
  refine Wk.iconst (pc' := 51) (0 : Int32) at_50 (by decide) rfl ?_
  refine Wk.iconst (pc' := 52) (1 : Int32) at_51 (by decide) rfl ?_
  refine Wk.iload (pc' := 54) at_52 rfl rfl ?_
  refine Wk.callV (pc' := 57) (argsL := [(.int (0 : Int32)), (.int (1 : Int32)), (.int c0)]) (st := []) at_54 (wd22 hw) (wd23 hw) (Wk.nfSel (wd25 hw)) (wd25 hw) (wd24 hw) (wd3 hw) (wd26 hw) (by decide) (lenOf pd_12 rfl) (fun _ P => P.exa rfl) (m_add l Z a0 hw hB 2 [2, 0, 0, 0, 0, 0, 0, 0, 0, 0, 0, 0, 0, 0, 0, 0] [c2, 0, 0, 0, 0, 0, 0, 0, 0, 0, 0, 0, 0, 0, 0, 0] [0, 0, 0, 0, 0, 0, 0, 0, 0, 0, 0, 0, 0, 0, 0, 0] [0, 0, 0, 0, 0, 0, 0, 0, 0, 0, 0, 0, 0, 0, 0, 0] 0 1 c0 _ (ev_addB1 c0 c1 c2) (by decide) (by decide) (by decide) (by decide) n0) rfl (Nat.le_of_ble_eq_true rfl) (Nat.le_of_ble_eq_true rfl) (Nat.le_of_ble_eq_true rfl) (Nat.le_of_ble_eq_true rfl) rfl rfl ?_
  rintro _ _ ⟨rfl, hH⟩; obtain rfl := hH.symm
  show WP l Z hB _ _ _ _ _ _ _ _ [obj "com/example/redoubt/redoubt/flow/FlowNetwork" ksFN [(.int (3 : Int32)), (rf hB 1), (rf hB 2), (rf hB 3), (rf hB 4), (.int (4 : Int32)), .null], ints [2, 0, 1, 0, 0, 0, 0, 0, 0, 0, 0, 0, 0, 0, 0, 0], ints [c2, 0, c0, 0, 0, 0, 0, 0, 0, 0, 0, 0, 0, 0, 0, 0], ints [0, 0, 0, 0, 0, 0, 0, 0, 0, 0, 0, 0, 0, 0, 0, 0], longs [0, 0, 0, 0, 0, 0, 0, 0, 0, 0, 0, 0, 0, 0, 0, 0]] _ _ [(.int (1 : Int32))]
  refine Wk.istore (pc' := 59) (Ls' := #[.val (.int x0), .val (.int x1), .val (.int x2), .val (.int x3), .val (.int c0), .val (.int c1), .val (.int c2), .val (rf hB 0), .val (.int (0 : Int32)), .val (.int (1 : Int32)), .unset, .unset, .unset]) at_57 rfl rfl ?_
  refine Wk.aload (pc' := 61) at_59 rfl rfl rfl ?_
  refine Wk.iconst (pc' := 62) (1 : Int32) at_61 (by decide) rfl ?_
  refine Wk.iconst (pc' := 63) (2 : Int32) at_62 (by decide) rfl ?_
  refine Wk.iload (pc' := 65) at_63 rfl rfl ?_
  refine Wk.callV (pc' := 68) (argsL := [(.int (1 : Int32)), (.int (2 : Int32)), (.int c1)]) (st := []) at_65 (wd22 hw) (wd23 hw) (Wk.nfSel (wd25 hw)) (wd25 hw) (wd24 hw) (wd3 hw) (wd26 hw) (by decide) (lenOf pd_12 rfl) (fun _ P => P.exa rfl) (m_add l Z a0 hw hB 4 [2, 0, 1, 0, 0, 0, 0, 0, 0, 0, 0, 0, 0, 0, 0, 0] [c2, 0, c0, 0, 0, 0, 0, 0, 0, 0, 0, 0, 0, 0, 0, 0] [0, 0, 0, 0, 0, 0, 0, 0, 0, 0, 0, 0, 0, 0, 0, 0] [0, 0, 0, 0, 0, 0, 0, 0, 0, 0, 0, 0, 0, 0, 0, 0] 1 2 c1 _ (ev_addB2 c0 c1 c2) (by decide) (by decide) (by decide) (by decide) n1) rfl (Nat.le_of_ble_eq_true rfl) (Nat.le_of_ble_eq_true rfl) (Nat.le_of_ble_eq_true rfl) (Nat.le_of_ble_eq_true rfl) rfl rfl ?_
  rintro _ _ ⟨rfl, hH⟩; obtain rfl := hH.symm
  show WP l Z hB _ _ _ _ _ _ _ _ [obj "com/example/redoubt/redoubt/flow/FlowNetwork" ksFN [(.int (3 : Int32)), (rf hB 1), (rf hB 2), (rf hB 3), (rf hB 4), (.int (6 : Int32)), .null], ints [2, 0, 1, 0, 2, 1, 0, 0, 0, 0, 0, 0, 0, 0, 0, 0], ints [c2, 0, c0, 0, c1, 0, 0, 0, 0, 0, 0, 0, 0, 0, 0, 0], ints [0, 0, 0, 0, 0, 0, 0, 0, 0, 0, 0, 0, 0, 0, 0, 0], longs [0, 0, 0, 0, 0, 0, 0, 0, 0, 0, 0, 0, 0, 0, 0, 0]] _ _ [(.int (2 : Int32))]
  refine Wk.istore (pc' := 70) (Ls' := #[.val (.int x0), .val (.int x1), .val (.int x2), .val (.int x3), .val (.int c0), .val (.int c1), .val (.int c2), .val (rf hB 0), .val (.int (0 : Int32)), .val (.int (1 : Int32)), .val (.int (2 : Int32)), .unset, .unset]) at_68 rfl rfl ?_
  refine Wk.iloadN (pc' := 71) at_70 rfl rfl ?_
  refine Wk.iconst (pc' := 72) (1 : Int32) at_71 (by decide) rfl ?_
  refine Wk.iand (pc' := 73) at_72 rfl ?_
  refine Wk.ifY (pc' := 87) at_73 (XT.i0_ne_t ho) (by decide) (by decide) ?_
  refine Wk.aload (pc' := 89) at_87 rfl rfl rfl ?_
  refine Wk.iload (pc' := 91) at_89 rfl rfl ?_
  refine Wk.callV (pc' := 94) (argsL := [(.int (0 : Int32))]) (st := []) at_91 (wd46 hw) (wd47 hw) (Wk.nfSel (wd49 hw)) (wd49 hw) (wd48 hw) (wd3 hw) (wd50 hw) (by decide) (lenOf pd_3 rfl) (fun _ P => P.exa rfl) (m_flow l Z a0 hw hB [obj "com/example/redoubt/redoubt/flow/FlowNetwork" ksFN [(.int (3 : Int32)), (rf hB 1), (rf hB 2), (rf hB 3), (rf hB 4), (.int (6 : Int32)), .null], ints [2, 0, 1, 0, 2, 1, 0, 0, 0, 0, 0, 0, 0, 0, 0, 0], ints [c2, 0, c0, 0, c1, 0, 0, 0, 0, 0, 0, 0, 0, 0, 0, 0], ints [0, 0, 0, 0, 0, 0, 0, 0, 0, 0, 0, 0, 0, 0, 0, 0], longs [0, 0, 0, 0, 0, 0, 0, 0, 0, 0, 0, 0, 0, 0, 0, 0]] 6 .null rfl [0, 0, 0, 0, 0, 0, 0, 0, 0, 0, 0, 0, 0, 0, 0, 0] (0 : Int32) 0 rfl rfl (by decide) (by decide)) rfl (Nat.le_of_ble_eq_true rfl) (Nat.le_of_ble_eq_true rfl) (Nat.le_of_ble_eq_true rfl) (Nat.le_of_ble_eq_true rfl) rfl rfl ?_
  rintro _ _ ⟨rfl, hH⟩; obtain rfl := hH.symm
  show WP l Z hB _ _ _ _ _ _ _ _ [obj "com/example/redoubt/redoubt/flow/FlowNetwork" ksFN [(.int (3 : Int32)), (rf hB 1), (rf hB 2), (rf hB 3), (rf hB 4), (.int (6 : Int32)), .null], ints [2, 0, 1, 0, 2, 1, 0, 0, 0, 0, 0, 0, 0, 0, 0, 0], ints [c2, 0, c0, 0, c1, 0, 0, 0, 0, 0, 0, 0, 0, 0, 0, 0], ints [0, 0, 0, 0, 0, 0, 0, 0, 0, 0, 0, 0, 0, 0, 0, 0], longs [0, 0, 0, 0, 0, 0, 0, 0, 0, 0, 0, 0, 0, 0, 0, 0]] _ _ [(.int (0 : Int32))]
  refine Wk.ifN (pc' := 97) at_94 (XT.i0_ne_f rfl) rfl ?_
  refine Wk.iconst (pc' := 98) (1 : Int32) at_97 (by decide) rfl ?_
  refine Wk.goTo (pc' := 102) at_98 (by decide) (by decide) ?_
  refine Wk.istore (pc' := 104) (Ls' := #[.val (.int x0), .val (.int x1), .val (.int x2), .val (.int x3), .val (.int c0), .val (.int c1), .val (.int c2), .val (rf hB 0), .val (.int (0 : Int32)), .val (.int (1 : Int32)), .val (.int (2 : Int32)), .val (.int (1 : Int32)), .unset]) at_102 rfl rfl ?_
  refine Wk.aload (pc' := 106) at_104 rfl rfl rfl ?_
  refine Wk.iconst (pc' := 107) (0 : Int32) at_106 (by decide) rfl ?_
  refine Wk.iconst (pc' := 108) (2 : Int32) at_107 (by decide) rfl ?_
  refine Wk.callV (pc' := 111) (argsL := [(.int (0 : Int32)), (.int (2 : Int32))]) (st := []) at_108 (wd55 hw) (wd56 hw) (Wk.nfSel (wd58 hw)) (wd58 hw) (wd57 hw) (wd3 hw) (wd59 hw) (by decide) (lenOf pd_13 rfl) (fun _ P => P.exa rfl) (m_max_B l Z a0 hw hB [c2, 0, c0, 0, c1, 0, 0, 0, 0, 0, 0, 0, 0, 0, 0, 0] [0, 0, 0, 0, 0, 0, 0, 0, 0, 0, 0, 0, 0, 0, 0, 0] [0, 0, 0, 0, 0, 0, 0, 0, 0, 0, 0, 0, 0, 0, 0, 0] 0 2 (by decide) (by decide) (by decide) (by decide) (by decide) _ hMB) rfl (Nat.le_of_ble_eq_true rfl) (Nat.le_of_ble_eq_true rfl) (Nat.le_of_ble_eq_true rfl) (Nat.le_of_ble_eq_true rfl) rfl rfl ?_
  rintro _ _ ⟨rfl, G1, hH, hG1⟩; obtain rfl := hH.symm
  show WP l Z hB _ _ _ _ _ _ _ _ ([obj "com/example/redoubt/redoubt/flow/FlowNetwork" ksFN [(.int (3 : Int32)), (rf hB 1), (rf hB 2), (rf hB 3), (rf hB 4), (.int (6 : Int32)), (rf hB 6)], ints [2, 0, 1, 0, 2, 1, 0, 0, 0, 0, 0, 0, 0, 0, 0, 0], ints [c2, 0, c0, 0, c1, 0, 0, 0, 0, 0, 0, 0, 0, 0, 0, 0], ints [c2, p, (mnI c0 c1), q, (mnI c0 c1), r, 0, 0, 0, 0, 0, 0, 0, 0, 0, 0], longs [0, 0, 0, 0, 0, 0, 0, 0, 0, 0, 0, 0, 0, 0, 0, 0], ints [2, 2, 2], arr (.array .int) [(rf hB 7), (rf hB 8), (rf hB 9)], ints [0, 2], ints [3, 4], ints [1, 5]] ++ G1) _ _ [(.long ((c2 : Int32).toInt64 + (mnI c0 c1).toInt64))]
  refine Wk.pop2L (pc' := 112) at_111 rfl ?_
  refine Wk.iload (pc' := 114) at_112 rfl rfl ?_
  refine Wk.iload (pc' := 116) at_114 rfl rfl ?_
  refine Wk.callS (pc' := 119) (argsL := [(.int c0), (.int c1)]) (st := []) at_116 (wd100 hw) (wd93 hw) (wd94 hw) (wd95 hw) (by decide) (lenOf pd_5 rfl) (m_min l Z a0 hw hB ([obj "com/example/redoubt/redoubt/flow/FlowNetwork" ksFN [(.int (3 : Int32)), (rf hB 1), (rf hB 2), (rf hB 3), (rf hB 4), (.int (6 : Int32)), (rf hB 6)], ints [2, 0, 1, 0, 2, 1, 0, 0, 0, 0, 0, 0, 0, 0, 0, 0], ints [c2, 0, c0, 0, c1, 0, 0, 0, 0, 0, 0, 0, 0, 0, 0, 0], ints [c2, p, (mnI c0 c1), q, (mnI c0 c1), r, 0, 0, 0, 0, 0, 0, 0, 0, 0, 0], longs [0, 0, 0, 0, 0, 0, 0, 0, 0, 0, 0, 0, 0, 0, 0, 0], ints [2, 2, 2], arr (.array .int) [(rf hB 7), (rf hB 8), (rf hB 9)], ints [0, 2], ints [3, 4], ints [1, 5]] ++ G1) c0 c1) rfl (Nat.le_of_ble_eq_true rfl) (Nat.le_of_ble_eq_true rfl) (by simp only [List.length_append, List.length_cons, List.length_nil] <;> (try show _ ≤ 0 + 40) <;> omega) (Nat.le_of_ble_eq_true rfl) rfl rfl ?_
  rintro _ _ ⟨rfl, hH⟩; obtain rfl := hH.symm
  show WP l Z hB _ _ _ _ _ _ _ _ ([obj "com/example/redoubt/redoubt/flow/FlowNetwork" ksFN [(.int (3 : Int32)), (rf hB 1), (rf hB 2), (rf hB 3), (rf hB 4), (.int (6 : Int32)), (rf hB 6)], ints [2, 0, 1, 0, 2, 1, 0, 0, 0, 0, 0, 0, 0, 0, 0, 0], ints [c2, 0, c0, 0, c1, 0, 0, 0, 0, 0, 0, 0, 0, 0, 0, 0], ints [c2, p, (mnI c0 c1), q, (mnI c0 c1), r, 0, 0, 0, 0, 0, 0, 0, 0, 0, 0], longs [0, 0, 0, 0, 0, 0, 0, 0, 0, 0, 0, 0, 0, 0, 0, 0], ints [2, 2, 2], arr (.array .int) [(rf hB 7), (rf hB 8), (rf hB 9)], ints [0, 2], ints [3, 4], ints [1, 5]] ++ G1) _ _ [(.int (mnI c0 c1))]
  refine Wk.istore (pc' := 121) (Ls' := #[.val (.int x0), .val (.int x1), .val (.int x2), .val (.int x3), .val (.int c0), .val (.int c1), .val (.int c2), .val (rf hB 0), .val (.int (0 : Int32)), .val (.int (1 : Int32)), .val (.int (2 : Int32)), .val (.int (1 : Int32)), .val (.int (mnI c0 c1))]) at_119 rfl rfl ?_
  refine Wk.iload (pc' := 123) at_121 rfl rfl ?_
  refine Wk.ifN (pc' := 126) at_123 (XT.i0_eq_f (by decide)) rfl ?_
  refine Wk.aload (pc' := 128) at_126 rfl rfl rfl ?_
  refine Wk.iload (pc' := 130) at_128 rfl rfl ?_
  refine Wk.callV (pc' := 133) (argsL := [(.int (1 : Int32))]) (st := []) at_130 (wd46 hw) (wd47 hw) (Wk.nfSel (wd49 hw)) (wd49 hw) (wd48 hw) (wd3 hw) (wd50 hw) (by decide) (lenOf pd_3 rfl) (fun _ P => P.exa rfl) (m_flow l Z a0 hw hB ([obj "com/example/redoubt/redoubt/flow/FlowNetwork" ksFN [(.int (3 : Int32)), (rf hB 1), (rf hB 2), (rf hB 3), (rf hB 4), (.int (6 : Int32)), (rf hB 6)], ints [2, 0, 1, 0, 2, 1, 0, 0, 0, 0, 0, 0, 0, 0, 0, 0], ints [c2, 0, c0, 0, c1, 0, 0, 0, 0, 0, 0, 0, 0, 0, 0, 0], ints [c2, p, (mnI c0 c1), q, (mnI c0 c1), r, 0, 0, 0, 0, 0, 0, 0, 0, 0, 0], longs [0, 0, 0, 0, 0, 0, 0, 0, 0, 0, 0, 0, 0, 0, 0, 0], ints [2, 2, 2], arr (.array .int) [(rf hB 7), (rf hB 8), (rf hB 9)], ints [0, 2], ints [3, 4], ints [1, 5]] ++ G1) 6 (rf hB 6) rfl [c2, p, (mnI c0 c1), q, (mnI c0 c1), r, 0, 0, 0, 0, 0, 0, 0, 0, 0, 0] (1 : Int32) (mnI c0 c1) rfl rfl (by decide) (by decide)) rfl (Nat.le_of_ble_eq_true rfl) (Nat.le_of_ble_eq_true rfl) (by simp only [List.length_append, List.length_cons, List.length_nil] <;> (try show _ ≤ 0 + 40) <;> omega) (Nat.le_of_ble_eq_true rfl) rfl rfl ?_
  rintro _ _ ⟨rfl, hH⟩; obtain rfl := hH.symm
  show WP l Z hB _ _ _ _ _ _ _ _ ([obj "com/example/redoubt/redoubt/flow/FlowNetwork" ksFN [(.int (3 : Int32)), (rf hB 1), (rf hB 2), (rf hB 3), (rf hB 4), (.int (6 : Int32)), (rf hB 6)], ints [2, 0, 1, 0, 2, 1, 0, 0, 0, 0, 0, 0, 0, 0, 0, 0], ints [c2, 0, c0, 0, c1, 0, 0, 0, 0, 0, 0, 0, 0, 0, 0, 0], ints [c2, p, (mnI c0 c1), q, (mnI c0 c1), r, 0, 0, 0, 0, 0, 0, 0, 0, 0, 0], longs [0, 0, 0, 0, 0, 0, 0, 0, 0, 0, 0, 0, 0, 0, 0, 0], ints [2, 2, 2], arr (.array .int) [(rf hB 7), (rf hB 8), (rf hB 9)], ints [0, 2], ints [3, 4], ints [1, 5]] ++ G1) _ _ [(.int (mnI c0 c1))]
  refine Wk.iload (pc' := 135) at_133 rfl rfl ?_
  refine Wk.icN (pc' := 138) at_135 (XT.ii_ne_f rfl) rfl ?_
  refine Wk.aload (pc' := 140) at_138 rfl rfl rfl ?_
  refine Wk.iload (pc' := 142) at_140 rfl rfl ?_
  refine Wk.callV (pc' := 145) (argsL := [(.int (2 : Int32))]) (st := []) at_142 (wd46 hw) (wd47 hw) (Wk.nfSel (wd49 hw)) (wd49 hw) (wd48 hw) (wd3 hw) (wd50 hw) (by decide) (lenOf pd_3 rfl) (fun _ P => P.exa rfl) (m_flow l Z a0 hw hB ([obj "com/example/redoubt/redoubt/flow/FlowNetwork" ksFN [(.int (3 : Int32)), (rf hB 1), (rf hB 2), (rf hB 3), (rf hB 4), (.int (6 : Int32)), (rf hB 6)], ints [2, 0, 1, 0, 2, 1, 0, 0, 0, 0, 0, 0, 0, 0, 0, 0], ints [c2, 0, c0, 0, c1, 0, 0, 0, 0, 0, 0, 0, 0, 0, 0, 0], ints [c2, p, (mnI c0 c1), q, (mnI c0 c1), r, 0, 0, 0, 0, 0, 0, 0, 0, 0, 0], longs [0, 0, 0, 0, 0, 0, 0, 0, 0, 0, 0, 0, 0, 0, 0, 0], ints [2, 2, 2], arr (.array .int) [(rf hB 7), (rf hB 8), (rf hB 9)], ints [0, 2], ints [3, 4], ints [1, 5]] ++ G1) 6 (rf hB 6) rfl [c2, p, (mnI c0 c1), q, (mnI c0 c1), r, 0, 0, 0, 0, 0, 0, 0, 0, 0, 0] (2 : Int32) (mnI c0 c1) rfl rfl (by decide) (by decide)) rfl (Nat.le_of_ble_eq_true rfl) (Nat.le_of_ble_eq_true rfl) (by simp only [List.length_append, List.length_cons, List.length_nil] <;> (try show _ ≤ 0 + 40) <;> omega) (Nat.le_of_ble_eq_true rfl) rfl rfl ?_
  rintro _ _ ⟨rfl, hH⟩; obtain rfl := hH.symm
  show WP l Z hB _ _ _ _ _ _ _ _ ([obj "com/example/redoubt/redoubt/flow/FlowNetwork" ksFN [(.int (3 : Int32)), (rf hB 1), (rf hB 2), (rf hB 3), (rf hB 4), (.int (6 : Int32)), (rf hB 6)], ints [2, 0, 1, 0, 2, 1, 0, 0, 0, 0, 0, 0, 0, 0, 0, 0], ints [c2, 0, c0, 0, c1, 0, 0, 0, 0, 0, 0, 0, 0, 0, 0, 0], ints [c2, p, (mnI c0 c1), q, (mnI c0 c1), r, 0, 0, 0, 0, 0, 0, 0, 0, 0, 0], longs [0, 0, 0, 0, 0, 0, 0, 0, 0, 0, 0, 0, 0, 0, 0, 0], ints [2, 2, 2], arr (.array .int) [(rf hB 7), (rf hB 8), (rf hB 9)], ints [0, 2], ints [3, 4], ints [1, 5]] ++ G1) _ _ [(.int (mnI c0 c1))]
  refine Wk.iload (pc' := 147) at_145 rfl rfl ?_
  refine Wk.icN (pc' := 150) at_147 (XT.ii_ne_f rfl) rfl ?_
  refine Wk.aload (pc' := 152) at_150 rfl rfl rfl ?_
  refine Wk.iload (pc' := 154) at_152 rfl rfl ?_
  refine Wk.callV (pc' := 157) (argsL := [(.int (0 : Int32))]) (st := []) at_154 (wd46 hw) (wd47 hw) (Wk.nfSel (wd49 hw)) (wd49 hw) (wd48 hw) (wd3 hw) (wd50 hw) (by decide) (lenOf pd_3 rfl) (fun _ P => P.exa rfl) (m_flow l Z a0 hw hB ([obj "com/example/redoubt/redoubt/flow/FlowNetwork" ksFN [(.int (3 : Int32)), (rf hB 1), (rf hB 2), (rf hB 3), (rf hB 4), (.int (6 : Int32)), (rf hB 6)], ints [2, 0, 1, 0, 2, 1, 0, 0, 0, 0, 0, 0, 0, 0, 0, 0], ints [c2, 0, c0, 0, c1, 0, 0, 0, 0, 0, 0, 0, 0, 0, 0, 0], ints [c2, p, (mnI c0 c1), q, (mnI c0 c1), r, 0, 0, 0, 0, 0, 0, 0, 0, 0, 0], longs [0, 0, 0, 0, 0, 0, 0, 0, 0, 0, 0, 0, 0, 0, 0, 0], ints [2, 2, 2], arr (.array .int) [(rf hB 7), (rf hB 8), (rf hB 9)], ints [0, 2], ints [3, 4], ints [1, 5]] ++ G1) 6 (rf hB 6) rfl [c2, p, (mnI c0 c1), q, (mnI c0 c1), r, 0, 0, 0, 0, 0, 0, 0, 0, 0, 0] (0 : Int32) c2 rfl rfl (by decide) (by decide)) rfl (Nat.le_of_ble_eq_true rfl) (Nat.le_of_ble_eq_true rfl) (by simp only [List.length_append, List.length_cons, List.length_nil] <;> (try show _ ≤ 0 + 40) <;> omega) (Nat.le_of_ble_eq_true rfl) rfl rfl ?_
  rintro _ _ ⟨rfl, hH⟩; obtain rfl := hH.symm
  show WP l Z hB _ _ _ _ _ _ _ _ ([obj "com/example/redoubt/redoubt/flow/FlowNetwork" ksFN [(.int (3 : Int32)), (rf hB 1), (rf hB 2), (rf hB 3), (rf hB 4), (.int (6 : Int32)), (rf hB 6)], ints [2, 0, 1, 0, 2, 1, 0, 0, 0, 0, 0, 0, 0, 0, 0, 0], ints [c2, 0, c0, 0, c1, 0, 0, 0, 0, 0, 0, 0, 0, 0, 0, 0], ints [c2, p, (mnI c0 c1), q, (mnI c0 c1), r, 0, 0, 0, 0, 0, 0, 0, 0, 0, 0], longs [0, 0, 0, 0, 0, 0, 0, 0, 0, 0, 0, 0, 0, 0, 0, 0], ints [2, 2, 2], arr (.array .int) [(rf hB 7), (rf hB 8), (rf hB 9)], ints [0, 2], ints [3, 4], ints [1, 5]] ++ G1) _ _ [(.int c2)]
  refine Wk.iload (pc' := 159) at_157 rfl rfl ?_
  refine Wk.icN (pc' := 162) at_159 (XT.ii_ne_f rfl) rfl ?_
  refine Wk.iconst (pc' := 163) (1 : Int32) at_162 (by decide) rfl ?_
  refine Wk.goTo (pc' := 167) at_163 (by decide) (by decide) ?_
  exact Wk.iret (t := .boolean) at_167 rfl (by simp) rfl (by simp only [List.length_append, List.length_cons, List.length_nil] <;> (try show _ ≤ 0 + 40) <;> omega) (Nat.le_of_ble_eq_true rfl) rfl
theorem msk_nn (x : Int32) : ¬ (x &&& 2147483647) < 0 := by
  have e := c_mask x 2147483647 31 (by decide) (by decide)
  rw [Int32.lt_iff_toInt_lt]; have : (0 : Int32).toInt = 0 := rfl; omega
set_option maxRecDepth 65536 in
set_option maxHeartbeats 40000000 in
theorem m_law (l : Launch) (Z : State) (a0 : Array Value) (hw : ∀ d ∈ tables_1, d.before a0 Z = true) (hB : Heap) (x0 x1 x2 x3 : Int32) : Ctr l Z hB x code maxLocals ret tables_1 room_1 #[(.int x0), (.int x1), (.int x2), (.int x3)] [] (fun v _ => v = some (.int 1)) := by
  refine Wk.ctr pn_18 (Ls := #[.val (.int x0), .val (.int x1), .val (.int x2), .val (.int x3), .unset, .unset, .unset, .unset, .unset, .unset, .unset, .unset, .unset]) (fun m => by first | rfl | (simp [entryFrame, mkF, argsToLocals, Value.category]; done)) ?_
  refine Wk.iloadN (pc' := 1) at_0 rfl rfl ?_
  refine Wk.ldcInt (pc' := 3) at_1 (wd0 hw) rfl ?_
  refine Wk.iand (pc' := 4) at_3 rfl ?_
  refine Wk.istore (pc' := 6) (Ls' := #[.val (.int x0), .val (.int x1), .val (.int x2), .val (.int x3), .val (.int (x0 &&& (2147483647 : Int32))), .unset, .unset, .unset, .unset, .unset, .unset, .unset, .unset]) at_4 rfl rfl ?_
  refine Wk.iloadN (pc' := 7) at_6 rfl rfl ?_
  refine Wk.ldcInt (pc' := 9) at_7 (wd0 hw) rfl ?_
  refine Wk.iand (pc' := 10) at_9 rfl ?_
  refine Wk.istore (pc' := 12) (Ls' := #[.val (.int x0), .val (.int x1), .val (.int x2), .val (.int x3), .val (.int (x0 &&& (2147483647 : Int32))), .val (.int (x1 &&& (2147483647 : Int32))), .unset, .unset, .unset, .unset, .unset, .unset, .unset]) at_10 rfl rfl ?_
  refine Wk.iloadN (pc' := 13) at_12 rfl rfl ?_
  refine Wk.ldcInt (pc' := 15) at_13 (wd0 hw) rfl ?_
  refine Wk.iand (pc' := 16) at_15 rfl ?_
  refine Wk.istore (pc' := 18) (Ls' := #[.val (.int x0), .val (.int x1), .val (.int x2), .val (.int x3), .val (.int (x0 &&& (2147483647 : Int32))), .val (.int (x1 &&& (2147483647 : Int32))), .val (.int (x2 &&& (2147483647 : Int32))), .unset, .unset, .unset, .unset, .unset, .unset]) at_16 rfl rfl ?_
  by_cases ho : (x3 &&& (1 : Int32)) = (0 : Int32)
  · obtain ⟨p, q, r, hM⟩ := ev_A (x0 &&& (2147483647 : Int32)) (x1 &&& (2147483647 : Int32)) (x2 &&& (2147483647 : Int32)) [0, 0, 0, 0, 0, 0, 0, 0, 0, 0, 0, 0, 0, 0, 0, 0] (msk_nn x0) (msk_nn x1) (msk_nn x2)
    exact m_18A l Z a0 hw hB x0 x1 x2 x3 (x0 &&& (2147483647 : Int32)) (x1 &&& (2147483647 : Int32)) (x2 &&& (2147483647 : Int32)) p q r (msk_nn x0) (msk_nn x1) (msk_nn x2) hM ho
  · obtain ⟨p, q, r, hM⟩ := ev_B (x0 &&& (2147483647 : Int32)) (x1 &&& (2147483647 : Int32)) (x2 &&& (2147483647 : Int32)) [0, 0, 0, 0, 0, 0, 0, 0, 0, 0, 0, 0, 0, 0, 0, 0] (msk_nn x0) (msk_nn x1) (msk_nn x2)
    exact m_18B l Z a0 hw hB x0 x1 x2 x3 (x0 &&& (2147483647 : Int32)) (x1 &&& (2147483647 : Int32)) (x2 &&& (2147483647 : Int32)) p q r (msk_nn x0) (msk_nn x1) (msk_nn x2) hM ho
set_option maxRecDepth 65536 in
set_option maxHeartbeats 40000000 in
theorem comes_1 {Post : Tables → Env → Array Value → State → Outcome → State → Prop} (hpost : ∀ tb e args s v u, (limb_1_1.after args s (.returned v) u = true ∧ limb_1_2.after args s (.returned v) u = true ∧ True) → FrameEnd s (.returned v) u (Jvm.fieldLocs frame_1_writes args s ++ Jvm.arrayLocs frame_1_arrays args s ++ Jvm.staticLocs frame_1_statics s) 40 320 → Post tb e args s (.returned v) u) :
    ArmFor flags0 classFile x code maxLocals ret World_1 tables_1 room_1 Calls_1 rest_1 Pre_1 Post := by
  intro l hfl _ _ p e ha hc hk s m args below hf hA hF happ hP
  obtain ⟨hcalls, hrest, hpre⟩ := hP
  obtain ⟨-, -, -, hnamed, -, -, -, hat⟩ := (Spec.applies_iff hf).mp happ
  obtain ⟨hg, hn⟩ := and_e (Cond.before_iff.mp (show (Jvm.Cond.and given_1 narrow_1).before args s = true from hpre))
  obtain ⟨h1, h2⟩ := and_e hg
  obtain ⟨w0, w1, w2, w3, rfl⟩ : ∃ w0 w1 w2 w3 : Value, args = #[w0, w1, w2, w3] := by
    have hs : args.size = 4 := by simpa [Cond.value, given_1] using h1
    obtain ⟨L⟩ := args
    match L, hs with
    | [w0, w1, w2, w3], _ => exact ⟨w0, w1, w2, w3, rfl⟩
  have hw := fun d (hd : d ∈ tables_1) => atoms_spec (ws := Jvm.Cond.code x code maxLocals ret :: tables_1) hat d (List.mem_cons_of_mem _ hd)
  have hfit : Fit s := fun {y c} hc i hi => by
    obtain ⟨ha, rfl⟩ := Array.getElem?_eq_some_iff.mp hc
    have q := List.all_eq_true.mp ((Array.all_eq_true_iff_forall_mem.mp hF) _ (Array.getElem_mem ha)) i (List.mem_range.mpr hi)
    simpa [Array.getElem?_eq_getElem hi] using q
  obtain ⟨g0, r0⟩ := and_e h2
  obtain ⟨i0, e0⟩ := is_v g0
  obtain rfl : w0 = (.int i0) := Option.some.inj e0
  obtain ⟨g1, r1⟩ := and_e r0
  obtain ⟨i1, e1⟩ := is_v g1
  obtain rfl : w1 = (.int i1) := Option.some.inj e1
  obtain ⟨g2, r2⟩ := and_e r1
  obtain ⟨i2, e2⟩ := is_v g2
  obtain rfl : w2 = (.int i2) := Option.some.inj e2
  obtain ⟨i3, e3⟩ := is_v r2
  obtain rfl : w3 = (.int i3) := Option.some.inj e3
  obtain ⟨n, o, h1, h2, h3, v, L, H', rfl, rfl, hp, N, hq⟩ := m_law l s _ hw s.heap i0 i1 i2 i3 p e ha hc hk s m _ below hf ((Spec.applies_iff_loose hf).mp happ).1 ⟨rfl, State.Warmed39.refl s, Wk.Hp.start s s.heap⟩ trivial
  refine ⟨n, _, h1, h2, h3, hpost _ _ _ _ _ _ ⟨Cond.after_iff.mpr rfl, Cond.after_iff.mpr (eq_i res_at (Term.int_eval (1)) rfl), trivial⟩ ⟨hq.1, hq.2.1, (hq.2.2.sift fun y hy => Or.inr (N y hy)).mono (by decide) (by decide)⟩⟩
theorem main_1_1 : Claimed_1_1 := comes_1 fun _ _ _ _ _ _ h hF => ⟨h.1, hF⟩
theorem main_1_2 : Claimed_1_2 := comes_1 fun _ _ _ _ _ _ h hF => ⟨h.2.1, hF⟩
end Jvm.Pilot.@@N@@
namespace Jvm.Pilot.@@N@@
open Jvm Jvm.ClassFile Sem Op Lib Jvm.Free Jvm.Stand Jvm.Pilot.@@N@@.Jvm.D
/-! MADE BY PROGRAM (witnessworld.py) out of the Statement's table words and the real class files: 14 classes; the members and pool entries that the words name. The judged class is class 1, her method 1. -/
namespace start1
open Jvm.ClassFile
def u (s : String) : CpInfo := .utf8 (stringToUtf16 s)
/-- a pool by its gaps: so many unusable entries, then the entry; so many at the end -/
def gap : Nat → List CpInfo → List CpInfo
  | 0, r => r
  | n + 1, r => .unusable :: gap n r
def poolList (es : List (Nat × CpInfo)) (last : Nat) : List CpInfo := es.foldr (fun e r => gap e.1 (e.2 :: r)) (gap last [])
def pool (es : List (Nat × CpInfo)) (last : Nat) : Array CpInfo := ⟨poolList es last⟩
def fileOf (pool : Array CpInfo) (this : Nat) (attrs : Array Attribute := #[]) (ms : Array MethodInfo := #[]) (fl : Nat := 33) (sup : Nat := 0) (ifs : Array Nat := #[]) (fds : Array FieldInfo := #[]) : ClassFile where
  minorVersion := 0
  majorVersion := 65
  constantPool := pool
  accessFlags := fl
  thisClass := this
  superClass := sup
  interfaces := ifs
  fields := fds
  methods := ms
  attributes := attrs
def plain (name : String) (sup : Option ClassId) : Class where
  name := name
  kind := .ordinary
  loader := none
  accessFlags := 33
  super := sup
  interfaces := #[]
  cf := none
  fields := #[]
  methods := #[]
  instanceTypes := #[]
  staticTypes := #[]
  resolved := #[]
  callSites := []
  init := .initialized
  statics := none
  mirror := none

def pool0 : Array CpInfo := pool [(5, u "<init>"), (0, u "()V"), (1, .class_ 10), (1, u "java/lang/Object")] 113

def k0c0 : Code := { maxStack := 0, maxLocals := 1, code := object_method_1_code, exceptionTable := #[], attributes := #[] }
def k0m0 : Method := { name := "<init>", desc := "()V", sig := { parameters := [], returnType := none }, accessFlags := 1, code := some k0c0 }
/-- java/lang/Object -/
def k0 : Class := { plain "java/lang/Object" none with
  accessFlags := 33
  interfaces := #[]
  cf := some (fileOf pool0 8 #[] #[{ accessFlags := 1, nameIndex := 5, descriptorIndex := 6, attributes := #[] }] 33 0 #[] #[])
  fields := #[]
  methods := #[k0m0]
  instanceTypes := #[]
  staticTypes := #[]
  resolved := Array.replicate 124 none
  statics := none }

def pool1 : Array CpInfo := pool [(2, .class_ 4), (1, u "java/lang/Object"), (0, u "<init>"), (0, u "()V"), (0, .integer 2147483647), (0, .class_ 9), (0, u "com/example/redoubt/redoubt/flow/FlowNetwork"), (0, .methodref 8 11), (0, .nameAndType 5 12), (0, u "(I)V"), (0, .methodref 8 14), (0, .nameAndType 15 16), (0, u "addArc"), (0, u "(III)I"), (0, .methodref 8 18), (0, .nameAndType 19 20), (0, u "flow"), (0, u "(I)I"), (0, .methodref 8 22), (0, .nameAndType 23 24), (0, u "maxFlow"), (0, u "(II)J"), (0, .methodref 26 27), (0, .class_ 28), (0, .nameAndType 29 30), (0, u "java/lang/Math"), (0, u "min"), (0, u "(II)I"), (0, .class_ 32), (0, u "com/example/redoubt/redoubt/flow/FlowNetworkFlowPinLaw"), (2, u "law"), (0, u "(IIII)Z")] 3

def k1m0 : Method := { name := "<init>", desc := "()V", sig := { parameters := [], returnType := none }, accessFlags := 1, code := none }
def k1c1 : Code := { maxStack := 4, maxLocals := 13, code := code, exceptionTable := #[], attributes := #[] }
def k1m1 : Method := { name := "law", desc := "(IIII)Z", sig := { parameters := [.int, .int, .int, .int], returnType := some .boolean }, accessFlags := 9, code := some k1c1 }
/-- com/example/redoubt/redoubt/flow/FlowNetworkFlowPinLaw -/
def k1 : Class := { plain "com/example/redoubt/redoubt/flow/FlowNetworkFlowPinLaw" (some 0) with
  accessFlags := 49
  interfaces := #[]
  cf := some (fileOf pool1 31 #[] #[{ accessFlags := 1, nameIndex := 5, descriptorIndex := 6, attributes := #[] }, { accessFlags := 9, nameIndex := 35, descriptorIndex := 36, attributes := #[] }] 49 2 #[] #[])
  fields := #[]
  methods := #[k1m0, k1m1]
  instanceTypes := #[]
  staticTypes := #[]
  resolved := Array.replicate 40 none
  statics := none }

def pool2 : Array CpInfo := pool [(1, .methodref 2 3), (0, .class_ 4), (0, .nameAndType 5 6), (0, u "java/lang/Object"), (0, u "<init>"), (0, u "()V"), (0, .fieldref 8 9), (0, .class_ 10), (0, .nameAndType 11 12), (0, u "com/example/redoubt/redoubt/flow/FlowNetwork"), (0, u "head"), (0, u "[I"), (0, .fieldref 8 14), (0, .nameAndType 15 12), (0, u "capacity"), (0, .fieldref 8 17), (0, .nameAndType 18 12), (0, u "flow"), (0, .fieldref 8 20), (0, .nameAndType 21 22), (0, u "cost"), (0, u "[J"), (9, .fieldref 8 33), (0, .nameAndType 34 35), (0, u "nodes"), (0, u "I"), (0, .methodref 8 37), (0, .nameAndType 38 39), (0, u "addArc"), (0, u "(IIIJ)I"), (0, .methodref 8 41), (0, .nameAndType 42 43), (0, u "checkNode"), (0, u "(I)V"), (0, .methodref 8 45), (0, .nameAndType 46 43), (0, u "checkCapacity"), (0, .methodref 8 48), (0, .nameAndType 49 50), (0, u "checkCost"), (0, u "(J)V"), (0, .fieldref 8 52), (0, .nameAndType 53 35), (0, u "halfArcs"), (1, .class_ 57), (1, u "java/util/Arrays"), (5, .fieldref 8 64), (0, .nameAndType 65 66), (0, u "outgoing"), (0, u "[[I"), (0, .methodref 8 68), (0, .nameAndType 69 43), (0, u "checkArc"), (5, u "fill"), (1, .methodref 8 78), (0, .nameAndType 79 80), (0, u "prepare"), (0, u "(II)V"), (0, .methodref 8 82), (0, .nameAndType 83 84), (0, u "levelFromSource"), (0, u "(II[I)Z"), (0, .methodref 55 86), (0, .nameAndType 75 87), (0, u "([II)V"), (0, .methodref 8 89), (0, .nameAndType 90 91), (0, u "blockingFlow"), (0, u "(II[I[I[I)V"), (0, .methodref 8 93), (0, .nameAndType 94 95), (0, u "outflow"), (0, u "(I)J"), (7, u "maxFlow"), (0, u "(II)J"), (3, .methodref 8 109), (0, .nameAndType 110 111), (0, u "residual"), (0, u "(I)I"), (2, .integer 2147483647), (0, .methodref 116 117), (0, .class_ 118), (0, .nameAndType 119 120), (0, u "java/lang/Math"), (0, u "min"), (0, u "(II)I"), (0, .methodref 8 122), (0, .nameAndType 123 124), (0, u "climbs"), (0, u "(I[I)Z"), (1, .methodref 8 127), (0, .nameAndType 128 129), (0, u "groupBySource"), (0, u "()[[I"), (0, .class_ 12), (14, u "(III)I")] 35

def k2c0 : Code := { maxStack := 3, maxLocals := 2, code := prog_4_method_1_code, exceptionTable := #[], attributes := #[] }
def k2m0 : Method := { name := "<init>", desc := "(I)V", sig := { parameters := [.int], returnType := none }, accessFlags := 1, code := some k2c0 }
def k2c1 : Code := { maxStack := 6, maxLocals := 4, code := prog_4_method_2_code, exceptionTable := #[], attributes := #[] }
def k2m1 : Method := { name := "addArc", desc := "(III)I", sig := { parameters := [.int, .int, .int], returnType := some .int }, accessFlags := 1, code := some k2c1 }
def k2c2 : Code := { maxStack := 4, maxLocals := 6, code := prog_4_method_3_code, exceptionTable := #[], attributes := #[] }
def k2m2 : Method := { name := "addArc", desc := "(IIIJ)I", sig := { parameters := [.int, .int, .int, .long], returnType := some .int }, accessFlags := 1, code := some k2c2 }
def k2c3 : Code := { maxStack := 3, maxLocals := 2, code := prog_4_method_6_code, exceptionTable := #[], attributes := #[] }
def k2m3 : Method := { name := "flow", desc := "(I)I", sig := { parameters := [.int], returnType := some .int }, accessFlags := 1, code := some k2c3 }
def k2c4 : Code := { maxStack := 6, maxLocals := 6, code := prog_4_method_8_code, exceptionTable := #[], attributes := #[] }
def k2m4 : Method := { name := "maxFlow", desc := "(II)J", sig := { parameters := [.int, .int], returnType := some .long }, accessFlags := 1, code := some k2c4 }
def k2c5 : Code := { maxStack := 4, maxLocals := 13, code := prog_4_method_10_code, exceptionTable := #[], attributes := #[] }
def k2m5 : Method := { name := "levelFromSource", desc := "(II[I)Z", sig := { parameters := [.int, .int, (.array .int)], returnType := some .boolean }, accessFlags := 2, code := some k2c5 }
def k2c6 : Code := { maxStack := 5, maxLocals := 10, code := prog_4_method_11_code, exceptionTable := #[], attributes := #[] }
def k2m6 : Method := { name := "blockingFlow", desc := "(II[I[I[I)V", sig := { parameters := [.int, .int, (.array .int), (.array .int), (.array .int)], returnType := none }, accessFlags := 2, code := some k2c6 }
def k2c7 : Code := { maxStack := 5, maxLocals := 3, code := prog_4_method_12_code, exceptionTable := #[], attributes := #[] }
def k2m7 : Method := { name := "climbs", desc := "(I[I)Z", sig := { parameters := [.int, (.array .int)], returnType := some .boolean }, accessFlags := 2, code := some k2c7 }
def k2c8 : Code := { maxStack := 3, maxLocals := 2, code := prog_4_method_13_code, exceptionTable := #[], attributes := #[] }
def k2m8 : Method := { name := "residual", desc := "(I)I", sig := { parameters := [.int], returnType := some .int }, accessFlags := 2, code := some k2c8 }
def k2c9 : Code := { maxStack := 3, maxLocals := 3, code := prog_4_method_14_code, exceptionTable := #[], attributes := #[] }
def k2m9 : Method := { name := "prepare", desc := "(II)V", sig := { parameters := [.int, .int], returnType := none }, accessFlags := 2, code := some k2c9 }
def k2c10 : Code := { maxStack := 4, maxLocals := 8, code := prog_4_method_15_code, exceptionTable := #[], attributes := #[] }
def k2m10 : Method := { name := "outflow", desc := "(I)J", sig := { parameters := [.int], returnType := some .long }, accessFlags := 2, code := some k2c10 }
def k2c11 : Code := { maxStack := 6, maxLocals := 5, code := prog_4_method_16_code, exceptionTable := #[], attributes := #[] }
def k2m11 : Method := { name := "groupBySource", desc := "()[[I", sig := { parameters := [], returnType := some (.array (.array .int)) }, accessFlags := 2, code := some k2c11 }
def k2c12 : Code := { maxStack := 4, maxLocals := 2, code := prog_4_method_17_code, exceptionTable := #[], attributes := #[] }
def k2m12 : Method := { name := "checkNode", desc := "(I)V", sig := { parameters := [.int], returnType := none }, accessFlags := 2, code := some k2c12 }
def k2c13 : Code := { maxStack := 5, maxLocals := 2, code := prog_4_method_18_code, exceptionTable := #[], attributes := #[] }
def k2m13 : Method := { name := "checkArc", desc := "(I)V", sig := { parameters := [.int], returnType := none }, accessFlags := 2, code := some k2c13 }
def k2c14 : Code := { maxStack := 3, maxLocals := 1, code := prog_4_method_19_code, exceptionTable := #[], attributes := #[] }
def k2m14 : Method := { name := "checkCapacity", desc := "(I)V", sig := { parameters := [.int], returnType := none }, accessFlags := 10, code := some k2c14 }
def k2c15 : Code := { maxStack := 4, maxLocals := 2, code := prog_4_method_20_code, exceptionTable := #[], attributes := #[] }
def k2m15 : Method := { name := "checkCost", desc := "(J)V", sig := { parameters := [.long], returnType := none }, accessFlags := 10, code := some k2c15 }
/-- com/example/redoubt/redoubt/flow/FlowNetwork -/
def k2 : Class := { plain "com/example/redoubt/redoubt/flow/FlowNetwork" (some 0) with
  accessFlags := 49
  interfaces := #[]
  cf := some (fileOf pool2 8 #[] #[{ accessFlags := 1, nameIndex := 5, descriptorIndex := 43, attributes := #[] }, { accessFlags := 1, nameIndex := 38, descriptorIndex := 145, attributes := #[] }, { accessFlags := 1, nameIndex := 38, descriptorIndex := 39, attributes := #[] }, { accessFlags := 1, nameIndex := 18, descriptorIndex := 111, attributes := #[] }, { accessFlags := 1, nameIndex := 103, descriptorIndex := 104, attributes := #[] }, { accessFlags := 2, nameIndex := 83, descriptorIndex := 84, attributes := #[] }, { accessFlags := 2, nameIndex := 90, descriptorIndex := 91, attributes := #[] }, { accessFlags := 2, nameIndex := 123, descriptorIndex := 124, attributes := #[] }, { accessFlags := 2, nameIndex := 110, descriptorIndex := 111, attributes := #[] }, { accessFlags := 2, nameIndex := 79, descriptorIndex := 80, attributes := #[] }, { accessFlags := 2, nameIndex := 94, descriptorIndex := 95, attributes := #[] }, { accessFlags := 2, nameIndex := 128, descriptorIndex := 129, attributes := #[] }, { accessFlags := 2, nameIndex := 42, descriptorIndex := 43, attributes := #[] }, { accessFlags := 2, nameIndex := 69, descriptorIndex := 43, attributes := #[] }, { accessFlags := 10, nameIndex := 46, descriptorIndex := 43, attributes := #[] }, { accessFlags := 10, nameIndex := 49, descriptorIndex := 50, attributes := #[] }] 49 2 #[] #[{ accessFlags := 18, nameIndex := 34, descriptorIndex := 35, attributes := #[] }, { accessFlags := 2, nameIndex := 11, descriptorIndex := 12, attributes := #[] }, { accessFlags := 2, nameIndex := 15, descriptorIndex := 12, attributes := #[] }, { accessFlags := 2, nameIndex := 18, descriptorIndex := 12, attributes := #[] }, { accessFlags := 2, nameIndex := 21, descriptorIndex := 22, attributes := #[] }, { accessFlags := 2, nameIndex := 53, descriptorIndex := 35, attributes := #[] }, { accessFlags := 2, nameIndex := 65, descriptorIndex := 66, attributes := #[] }])
  fields := #[{ name := "nodes", type := .int, accessFlags := 18, slot := 0, constantValue := 0 }, { name := "head", type := (.array .int), accessFlags := 2, slot := 1, constantValue := 0 }, { name := "capacity", type := (.array .int), accessFlags := 2, slot := 2, constantValue := 0 }, { name := "flow", type := (.array .int), accessFlags := 2, slot := 3, constantValue := 0 }, { name := "cost", type := (.array .long), accessFlags := 2, slot := 4, constantValue := 0 }, { name := "halfArcs", type := .int, accessFlags := 2, slot := 5, constantValue := 0 }, { name := "outgoing", type := (.array (.array .int)), accessFlags := 2, slot := 6, constantValue := 0 }]
  methods := #[k2m0, k2m1, k2m2, k2m3, k2m4, k2m5, k2m6, k2m7, k2m8, k2m9, k2m10, k2m11, k2m12, k2m13, k2m14, k2m15]
  instanceTypes := #[.int, (.array .int), (.array .int), (.array .int), (.array .long), .int, (.array (.array .int))]
  staticTypes := #[]
  resolved := Array.replicate 181 none
  statics := none }

def pool3 : Array CpInfo := pool [(2, .class_ 4), (1, u "java/lang/Object"), (0, u "<init>"), (0, u "()V"), (7, .class_ 16), (1, u "java/util/Arrays"), (57, .class_ 76), (1, u "java/util/Arrays$NaturalOrder"), (36, .class_ 115), (1, u "java/util/Arrays$LegacyMergeSort"), (1, u "Z"), (257, .class_ 376), (0, u "java/util/Arrays$ArrayList"), (68, u "$assertionsDisabled"), (269, u "MIN_ARRAY_SORT_GRAN"), (0, u "I"), (2, u "INSERTIONSORT_THRESHOLD"), (120, u "fill"), (4, u "([II)V"), (129, .class_ 976), (0, u "java/util/Arrays$ArrayItr")] 52

def k3m0 : Method := { name := "<init>", desc := "()V", sig := { parameters := [], returnType := none }, accessFlags := 2, code := none }
def k3c1 : Code := { maxStack := 3, maxLocals := 4, code := jdk_65_method_103_code, exceptionTable := #[], attributes := #[] }
def k3m1 : Method := { name := "fill", desc := "([II)V", sig := { parameters := [(.array .int), .int], returnType := none }, accessFlags := 9, code := some k3c1 }
/-- java/util/Arrays -/
def k3 : Class := { plain "java/util/Arrays" (some 0) with
  accessFlags := 49
  interfaces := #[]
  cf := some (fileOf pool3 14 #[.nestMembers #[975, 375, 113, 74]] #[{ accessFlags := 2, nameIndex := 5, descriptorIndex := 6, attributes := #[] }, { accessFlags := 9, nameIndex := 840, descriptorIndex := 845, attributes := #[] }] 49 2 #[] #[{ accessFlags := 26, nameIndex := 715, descriptorIndex := 716, attributes := #[] }, { accessFlags := 26, nameIndex := 719, descriptorIndex := 716, attributes := #[] }, { accessFlags := 4120, nameIndex := 445, descriptorIndex := 117, attributes := #[] }])
  fields := #[{ name := "MIN_ARRAY_SORT_GRAN", type := .int, accessFlags := 26, slot := 0, constantValue := 0 }, { name := "INSERTIONSORT_THRESHOLD", type := .int, accessFlags := 26, slot := 1, constantValue := 0 }, { name := "$assertionsDisabled", type := .boolean, accessFlags := 4120, slot := 2, constantValue := 0 }]
  methods := #[k3m0, k3m1]
  instanceTypes := #[]
  staticTypes := #[.int, .int, .boolean]
  resolved := Array.replicate 1029 none
  statics := none }

def pool4 : Array CpInfo := pool [(1, .class_ 2), (0, u "java/lang/Math"), (1, .class_ 6), (1, u "java/lang/Object"), (0, u "<init>"), (0, u "()V"), (89, .class_ 100), (1, u "java/lang/Math$RandomNumberGeneratorHolder"), (71, u "negativeZeroFloatBits"), (0, u "J"), (2, u "negativeZeroDoubleBits"), (24, u "min"), (43, u "$assertionsDisabled"), (0, u "Z"), (88, u "(II)I"), (2, u "twoToTheDoubleScaleDown"), (0, u "D"), (4, u "twoToTheDoubleScaleUp"), (9, u "E"), (3, u "PI"), (2, u "TAU"), (2, u "DEGREES_TO_RADIANS"), (0, u "RADIANS_TO_DEGREES")] 94

def k4m0 : Method := { name := "<init>", desc := "()V", sig := { parameters := [], returnType := none }, accessFlags := 2, code := none }
def k4c1 : Code := { maxStack := 2, maxLocals := 2, code := jdk_29_method_69_code, exceptionTable := #[], attributes := #[] }
def k4m1 : Method := { name := "min", desc := "(II)I", sig := { parameters := [.int, .int], returnType := some .int }, accessFlags := 9, code := some k4c1 }
/-- java/lang/Math -/
def k4 : Class := { plain "java/lang/Math" (some 0) with
  accessFlags := 49
  interfaces := #[]
  cf := some (fileOf pool4 1 #[.nestMembers #[98]] #[{ accessFlags := 2, nameIndex := 7, descriptorIndex := 8, attributes := #[] }, { accessFlags := 9, nameIndex := 201, descriptorIndex := 335, attributes := #[] }] 49 4 #[] #[{ accessFlags := 25, nameIndex := 354, descriptorIndex := 339, attributes := #[] }, { accessFlags := 25, nameIndex := 358, descriptorIndex := 339, attributes := #[] }, { accessFlags := 25, nameIndex := 361, descriptorIndex := 339, attributes := #[] }, { accessFlags := 26, nameIndex := 364, descriptorIndex := 339, attributes := #[] }, { accessFlags := 26, nameIndex := 365, descriptorIndex := 339, attributes := #[] }, { accessFlags := 26, nameIndex := 172, descriptorIndex := 173, attributes := #[] }, { accessFlags := 26, nameIndex := 176, descriptorIndex := 173, attributes := #[] }, { accessFlags := 8, nameIndex := 344, descriptorIndex := 339, attributes := #[] }, { accessFlags := 8, nameIndex := 338, descriptorIndex := 339, attributes := #[] }, { accessFlags := 4120, nameIndex := 245, descriptorIndex := 246, attributes := #[] }])
  fields := #[{ name := "E", type := .double, accessFlags := 25, slot := 0, constantValue := 0 }, { name := "PI", type := .double, accessFlags := 25, slot := 1, constantValue := 0 }, { name := "TAU", type := .double, accessFlags := 25, slot := 2, constantValue := 0 }, { name := "DEGREES_TO_RADIANS", type := .double, accessFlags := 26, slot := 3, constantValue := 0 }, { name := "RADIANS_TO_DEGREES", type := .double, accessFlags := 26, slot := 4, constantValue := 0 }, { name := "negativeZeroFloatBits", type := .long, accessFlags := 26, slot := 5, constantValue := 0 }, { name := "negativeZeroDoubleBits", type := .long, accessFlags := 26, slot := 6, constantValue := 0 }, { name := "twoToTheDoubleScaleUp", type := .double, accessFlags := 8, slot := 7, constantValue := 0 }, { name := "twoToTheDoubleScaleDown", type := .double, accessFlags := 8, slot := 8, constantValue := 0 }, { name := "$assertionsDisabled", type := .boolean, accessFlags := 4120, slot := 9, constantValue := 0 }]
  methods := #[k4m0, k4m1]
  instanceTypes := #[]
  staticTypes := #[.double, .double, .double, .double, .double, .long, .long, .double, .double, .boolean]
  resolved := Array.replicate 460 none
  statics := none }

def pool5 : Array CpInfo := pool [(1, u "java/lang/Cloneable"), (0, .class_ 1), (0, u "java/lang/Object"), (0, .class_ 3)] 3

/-- java/lang/Cloneable -/
def k5 : Class := { plain "java/lang/Cloneable" (some 0) with
  accessFlags := 1537
  interfaces := #[]
  cf := some (fileOf pool5 2 #[] #[] 1537 4 #[] #[])
  fields := #[]
  methods := #[]
  instanceTypes := #[]
  staticTypes := #[]
  resolved := Array.replicate 8 none
  statics := none }

def pool6 : Array CpInfo := pool [(1, u "java/io/Serializable"), (0, .class_ 1), (0, u "java/lang/Object"), (0, .class_ 3)] 3

/-- java/io/Serializable -/
def k6 : Class := { plain "java/io/Serializable" (some 0) with
  accessFlags := 1537
  interfaces := #[]
  cf := some (fileOf pool6 2 #[] #[] 1537 4 #[] #[])
  fields := #[]
  methods := #[]
  instanceTypes := #[]
  staticTypes := #[]
  resolved := Array.replicate 8 none
  statics := none }

/-- the primitive byte -/
def k7 : Class := { plain "byte" none with kind := .primitive 'B', accessFlags := 0x411 }
/-- [B -/
def k8 : Class := { plain "[B" (some 0) with kind := .array 7 .byte, interfaces := #[5, 6], accessFlags := 1041 }

/-- the primitive int -/
def k9 : Class := { plain "int" none with kind := .primitive 'I', accessFlags := 0x411 }
/-- [I -/
def k10 : Class := { plain "[I" (some 0) with kind := .array 9 .int, interfaces := #[5, 6], accessFlags := 1041 }

/-- the primitive long -/
def k11 : Class := { plain "long" none with kind := .primitive 'J', accessFlags := 0x411 }
/-- [J -/
def k12 : Class := { plain "[J" (some 0) with kind := .array 11 .long, interfaces := #[5, 6], accessFlags := 1041 }

/-- [L[I; -/
def k13 : Class := { plain "[[I" (some 0) with kind := .array 10 (.array .int), interfaces := #[5, 6], accessFlags := 1041 }

def heap : Heap := #[{ cls := 13, slots := #[], vm := .none }]
def classes : Array Class := #[k0, k1, k2, k3, k4, k5, k6, k7, k8, k9, k10, k11, k12, k13]
def interned : List (Array UInt16 × Addr) := []
def slotsUsed : Nat := 0
def theMethod : MethodId := ⟨1, 1⟩
def args0 : Array Value := #[.int 5, .int 3, .int 2, .int 1]
def aboutOver (below : List Frame) : State where
  vm := { classes := classes, interned := interned.toArray }
  heap := heap
  slotsUsed := slotsUsed
  threads := #[{ frames := .invoking theMethod args0 :: below }]
def below0 : List Frame := [.native { method := ⟨0, 0⟩, args := #[] }]
def about1 : State := aboutOver below0
def p0 : Program := .bare "" "" ""
def e0 : Env := launch0.env 0 0 0
theorem w_frames : about1.frames = Frame.invoking theMethod args0 :: below0 := rfl
set_option maxRecDepth 65536 in
theorem w_args : argsFit about1.vm theMethod args0 = true := by decide +kernel
set_option maxRecDepth 65536 in
theorem w_heap : heapFits about1 = true := by decide +kernel
set_option maxRecDepth 65536 in
theorem w_runnable : about1.curStatus? = some .runnable := by decide +kernel
set_option maxRecDepth 65536 in
theorem w_alone : about1.alone = true := by decide +kernel
set_option maxRecDepth 65536 in
theorem w_named : about1.methodNamed? x = some theMethod := by decide +kernel
set_option maxRecDepth 65536 in
theorem w_hears : about1.hears theMethod below0 = true := by decide +kernel
set_option maxRecDepth 65536 in
theorem w_ripe : about1.ripe theMethod args0 below0 = true := by decide +kernel
theorem w_running : about1.status = .running := rfl
set_option maxRecDepth 65536 in
theorem w_room : about1.hasRoom e0.platform room_1 = true :=
  launch0.hasRoom_least _ room_1 (by decide +kernel) (by decide +kernel) (by decide +kernel) (by decide +kernel) (by decide +kernel) (by decide +kernel)
theorem allAtoms_all (ts : List Jvm.Cond) (a : Array Jvm.Value) (st : Jvm.State) : (allAtoms ts).before a st = ts.all (fun c => c.before a st) := by
  induction ts with
  | nil => rfl
  | cons c t ih =>
    show (Jvm.Cond.and c (allAtoms t)).before a st = _
    rw [Jvm.Cond.before_and, ih, List.all_cons]
def words1 : List Jvm.Cond := Jvm.Cond.code x code maxLocals ret :: tables_1
/-- a 'code' word, met by the world's own term for the bytes: nothing is compared byte by byte -/
theorem code_word {y : MethodName} {bytes : ByteArray} {mx : Nat} {rt : Option FieldType} {a : Array Value} {s : State} {m : MethodId} {meth : Method} {c : Code} (h1 : s.methodNamed? y = some m) (h2 : s.vm.method? m = some meth) (h3 : meth.code = some c) (h4 : c.code = bytes)
    (h5 : (c.maxLocals == mx && c.exceptionTable.isEmpty && decide (c.maxStack ≤ mostOperands) && decide (meth.sig.returnType = rt) && !meth.locks && decide (parseMethodDescriptor y.desc = some meth.sig)) = true) : (Jvm.Cond.code y bytes mx rt).before a s = true := by
  simp only [Bool.and_eq_true, beq_iff_eq, Bool.not_eq_true', decide_eq_true_eq] at h5
  obtain ⟨⟨⟨⟨⟨g1, g2⟩, g3⟩, g4⟩, g5⟩, g6⟩ := h5
  simp [Cond.before, Cond.holds, Cond.value, h1, h2, h3, h4, g1, g2, g3, g4, g5, g6]
def isCode : Jvm.Cond → Bool
  | .code _ _ _ _ => true
  | _ => false
theorem all_split {L : List Jvm.Cond} {P : Jvm.Cond → Bool} (h1 : L.all (fun c => isCode c || P c) = true) (h2 : ∀ c ∈ L.filter isCode, P c = true) : L.all P = true := by
  refine List.all_eq_true.mpr fun c hc => ?_
  have h := List.all_eq_true.mp h1 c hc
  rcases Bool.eq_false_or_eq_true (isCode c) with hi | hi
  · exact h2 c (List.mem_filter.mpr ⟨hc, hi⟩)
  · simpa [hi] using h
set_option maxRecDepth 65536 in
theorem w_c0 : (Jvm.Cond.code x code maxLocals ret).before args0 about1 = true := code_word (m := ⟨1, 1⟩) (meth := k1m1) (c := k1c1) (by decide +kernel) rfl rfl rfl (by decide +kernel)
set_option maxRecDepth 65536 in
theorem w_c1 : (Jvm.Cond.code ({ cls := "com/example/redoubt/redoubt/flow/FlowNetwork", name := "<init>", desc := "(I)V" } : Jvm.MethodName) prog_4_method_1_code (2 : Nat) (Option.none : Option Jvm.ClassFile.FieldType)).before args0 about1 = true := code_word (m := ⟨2, 0⟩) (meth := k2m0) (c := k2c0) (by decide +kernel) rfl rfl rfl (by decide +kernel)
set_option maxRecDepth 65536 in
theorem w_c2 : (Jvm.Cond.code ({ cls := "java/lang/Object", name := "<init>", desc := "()V" } : Jvm.MethodName) object_method_1_code (1 : Nat) (Option.none : Option Jvm.ClassFile.FieldType)).before args0 about1 = true := code_word (m := ⟨0, 0⟩) (meth := k0m0) (c := k0c0) (by decide +kernel) rfl rfl rfl (by decide +kernel)
set_option maxRecDepth 65536 in
theorem w_c3 : (Jvm.Cond.code ({ cls := "com/example/redoubt/redoubt/flow/FlowNetwork", name := "addArc", desc := "(III)I" } : Jvm.MethodName) prog_4_method_2_code (4 : Nat) (Option.some Jvm.ClassFile.FieldType.int)).before args0 about1 = true := code_word (m := ⟨2, 1⟩) (meth := k2m1) (c := k2c1) (by decide +kernel) rfl rfl rfl (by decide +kernel)
set_option maxRecDepth 65536 in
theorem w_c4 : (Jvm.Cond.code ({ cls := "com/example/redoubt/redoubt/flow/FlowNetwork", name := "addArc", desc := "(IIIJ)I" } : Jvm.MethodName) prog_4_method_3_code (6 : Nat) (Option.some Jvm.ClassFile.FieldType.int)).before args0 about1 = true := code_word (m := ⟨2, 2⟩) (meth := k2m2) (c := k2c2) (by decide +kernel) rfl rfl rfl (by decide +kernel)
set_option maxRecDepth 65536 in
theorem w_c5 : (Jvm.Cond.code ({ cls := "com/example/redoubt/redoubt/flow/FlowNetwork", name := "checkNode", desc := "(I)V" } : Jvm.MethodName) prog_4_method_17_code (2 : Nat) (Option.none : Option Jvm.ClassFile.FieldType)).before args0 about1 = true := code_word (m := ⟨2, 12⟩) (meth := k2m12) (c := k2c12) (by decide +kernel) rfl rfl rfl (by decide +kernel)
set_option maxRecDepth 65536 in
theorem w_c6 : (Jvm.Cond.code ({ cls := "com/example/redoubt/redoubt/flow/FlowNetwork", name := "checkCapacity", desc := "(I)V" } : Jvm.MethodName) prog_4_method_19_code (1 : Nat) (Option.none : Option Jvm.ClassFile.FieldType)).before args0 about1 = true := code_word (m := ⟨2, 14⟩) (meth := k2m14) (c := k2c14) (by decide +kernel) rfl rfl rfl (by decide +kernel)
set_option maxRecDepth 65536 in
theorem w_c7 : (Jvm.Cond.code ({ cls := "com/example/redoubt/redoubt/flow/FlowNetwork", name := "checkCost", desc := "(J)V" } : Jvm.MethodName) prog_4_method_20_code (2 : Nat) (Option.none : Option Jvm.ClassFile.FieldType)).before args0 about1 = true := code_word (m := ⟨2, 15⟩) (meth := k2m15) (c := k2c15) (by decide +kernel) rfl rfl rfl (by decide +kernel)
set_option maxRecDepth 65536 in
theorem w_c8 : (Jvm.Cond.code ({ cls := "com/example/redoubt/redoubt/flow/FlowNetwork", name := "flow", desc := "(I)I" } : Jvm.MethodName) prog_4_method_6_code (2 : Nat) (Option.some Jvm.ClassFile.FieldType.int)).before args0 about1 = true := code_word (m := ⟨2, 3⟩) (meth := k2m3) (c := k2c3) (by decide +kernel) rfl rfl rfl (by decide +kernel)
set_option maxRecDepth 65536 in
theorem w_c9 : (Jvm.Cond.code ({ cls := "com/example/redoubt/redoubt/flow/FlowNetwork", name := "checkArc", desc := "(I)V" } : Jvm.MethodName) prog_4_method_18_code (2 : Nat) (Option.none : Option Jvm.ClassFile.FieldType)).before args0 about1 = true := code_word (m := ⟨2, 13⟩) (meth := k2m13) (c := k2c13) (by decide +kernel) rfl rfl rfl (by decide +kernel)
set_option maxRecDepth 65536 in
theorem w_c10 : (Jvm.Cond.code ({ cls := "com/example/redoubt/redoubt/flow/FlowNetwork", name := "maxFlow", desc := "(II)J" } : Jvm.MethodName) prog_4_method_8_code (6 : Nat) (Option.some Jvm.ClassFile.FieldType.long)).before args0 about1 = true := code_word (m := ⟨2, 4⟩) (meth := k2m4) (c := k2c4) (by decide +kernel) rfl rfl rfl (by decide +kernel)
set_option maxRecDepth 65536 in
theorem w_c11 : (Jvm.Cond.code ({ cls := "com/example/redoubt/redoubt/flow/FlowNetwork", name := "prepare", desc := "(II)V" } : Jvm.MethodName) prog_4_method_14_code (3 : Nat) (Option.none : Option Jvm.ClassFile.FieldType)).before args0 about1 = true := code_word (m := ⟨2, 9⟩) (meth := k2m9) (c := k2c9) (by decide +kernel) rfl rfl rfl (by decide +kernel)
set_option maxRecDepth 65536 in
theorem w_c12 : (Jvm.Cond.code ({ cls := "com/example/redoubt/redoubt/flow/FlowNetwork", name := "groupBySource", desc := "()[[I" } : Jvm.MethodName) prog_4_method_16_code (5 : Nat) (Option.some (Jvm.ClassFile.FieldType.array (Jvm.ClassFile.FieldType.array Jvm.ClassFile.FieldType.int)))).before args0 about1 = true := code_word (m := ⟨2, 11⟩) (meth := k2m11) (c := k2c11) (by decide +kernel) rfl rfl rfl (by decide +kernel)
set_option maxRecDepth 65536 in
theorem w_c13 : (Jvm.Cond.code ({ cls := "com/example/redoubt/redoubt/flow/FlowNetwork", name := "levelFromSource", desc := "(II[I)Z" } : Jvm.MethodName) prog_4_method_10_code (13 : Nat) (Option.some Jvm.ClassFile.FieldType.boolean)).before args0 about1 = true := code_word (m := ⟨2, 5⟩) (meth := k2m5) (c := k2c5) (by decide +kernel) rfl rfl rfl (by decide +kernel)
set_option maxRecDepth 65536 in
theorem w_c14 : (Jvm.Cond.code ({ cls := "java/util/Arrays", name := "fill", desc := "([II)V" } : Jvm.MethodName) jdk_65_method_103_code (4 : Nat) (Option.none : Option Jvm.ClassFile.FieldType)).before args0 about1 = true := code_word (m := ⟨3, 1⟩) (meth := k3m1) (c := k3c1) (by decide +kernel) rfl rfl rfl (by decide +kernel)
set_option maxRecDepth 65536 in
theorem w_c15 : (Jvm.Cond.code ({ cls := "com/example/redoubt/redoubt/flow/FlowNetwork", name := "residual", desc := "(I)I" } : Jvm.MethodName) prog_4_method_13_code (2 : Nat) (Option.some Jvm.ClassFile.FieldType.int)).before args0 about1 = true := code_word (m := ⟨2, 8⟩) (meth := k2m8) (c := k2c8) (by decide +kernel) rfl rfl rfl (by decide +kernel)
set_option maxRecDepth 65536 in
theorem w_c16 : (Jvm.Cond.code ({ cls := "com/example/redoubt/redoubt/flow/FlowNetwork", name := "blockingFlow", desc := "(II[I[I[I)V" } : Jvm.MethodName) prog_4_method_11_code (10 : Nat) (Option.none : Option Jvm.ClassFile.FieldType)).before args0 about1 = true := code_word (m := ⟨2, 6⟩) (meth := k2m6) (c := k2c6) (by decide +kernel) rfl rfl rfl (by decide +kernel)
set_option maxRecDepth 65536 in
theorem w_c17 : (Jvm.Cond.code ({ cls := "com/example/redoubt/redoubt/flow/FlowNetwork", name := "climbs", desc := "(I[I)Z" } : Jvm.MethodName) prog_4_method_12_code (3 : Nat) (Option.some Jvm.ClassFile.FieldType.boolean)).before args0 about1 = true := code_word (m := ⟨2, 7⟩) (meth := k2m7) (c := k2c7) (by decide +kernel) rfl rfl rfl (by decide +kernel)
set_option maxRecDepth 65536 in
theorem w_c18 : (Jvm.Cond.code ({ cls := "java/lang/Math", name := "min", desc := "(II)I" } : Jvm.MethodName) jdk_29_method_69_code (2 : Nat) (Option.some Jvm.ClassFile.FieldType.int)).before args0 about1 = true := code_word (m := ⟨4, 1⟩) (meth := k4m1) (c := k4c1) (by decide +kernel) rfl rfl rfl (by decide +kernel)
set_option maxRecDepth 65536 in
theorem w_c19 : (Jvm.Cond.code ({ cls := "com/example/redoubt/redoubt/flow/FlowNetwork", name := "outflow", desc := "(I)J" } : Jvm.MethodName) prog_4_method_15_code (8 : Nat) (Option.some Jvm.ClassFile.FieldType.long)).before args0 about1 = true := code_word (m := ⟨2, 10⟩) (meth := k2m10) (c := k2c10) (by decide +kernel) rfl rfl rfl (by decide +kernel)
def codes1 : List Jvm.Cond := [Jvm.Cond.code x code maxLocals ret, Jvm.Cond.code ({ cls := "com/example/redoubt/redoubt/flow/FlowNetwork", name := "<init>", desc := "(I)V" } : Jvm.MethodName) prog_4_method_1_code (2 : Nat) (Option.none : Option Jvm.ClassFile.FieldType), Jvm.Cond.code ({ cls := "java/lang/Object", name := "<init>", desc := "()V" } : Jvm.MethodName) object_method_1_code (1 : Nat) (Option.none : Option Jvm.ClassFile.FieldType), Jvm.Cond.code ({ cls := "com/example/redoubt/redoubt/flow/FlowNetwork", name := "addArc", desc := "(III)I" } : Jvm.MethodName) prog_4_method_2_code (4 : Nat) (Option.some Jvm.ClassFile.FieldType.int), Jvm.Cond.code ({ cls := "com/example/redoubt/redoubt/flow/FlowNetwork", name := "addArc", desc := "(IIIJ)I" } : Jvm.MethodName) prog_4_method_3_code (6 : Nat) (Option.some Jvm.ClassFile.FieldType.int), Jvm.Cond.code ({ cls := "com/example/redoubt/redoubt/flow/FlowNetwork", name := "checkNode", desc := "(I)V" } : Jvm.MethodName) prog_4_method_17_code (2 : Nat) (Option.none : Option Jvm.ClassFile.FieldType), Jvm.Cond.code ({ cls := "com/example/redoubt/redoubt/flow/FlowNetwork", name := "checkCapacity", desc := "(I)V" } : Jvm.MethodName) prog_4_method_19_code (1 : Nat) (Option.none : Option Jvm.ClassFile.FieldType), Jvm.Cond.code ({ cls := "com/example/redoubt/redoubt/flow/FlowNetwork", name := "checkCost", desc := "(J)V" } : Jvm.MethodName) prog_4_method_20_code (2 : Nat) (Option.none : Option Jvm.ClassFile.FieldType), Jvm.Cond.code ({ cls := "com/example/redoubt/redoubt/flow/FlowNetwork", name := "flow", desc := "(I)I" } : Jvm.MethodName) prog_4_method_6_code (2 : Nat) (Option.some Jvm.ClassFile.FieldType.int), Jvm.Cond.code ({ cls := "com/example/redoubt/redoubt/flow/FlowNetwork", name := "checkArc", desc := "(I)V" } : Jvm.MethodName) prog_4_method_18_code (2 : Nat) (Option.none : Option Jvm.ClassFile.FieldType), Jvm.Cond.code ({ cls := "com/example/redoubt/redoubt/flow/FlowNetwork", name := "maxFlow", desc := "(II)J" } : Jvm.MethodName) prog_4_method_8_code (6 : Nat) (Option.some Jvm.ClassFile.FieldType.long), Jvm.Cond.code ({ cls := "com/example/redoubt/redoubt/flow/FlowNetwork", name := "prepare", desc := "(II)V" } : Jvm.MethodName) prog_4_method_14_code (3 : Nat) (Option.none : Option Jvm.ClassFile.FieldType), Jvm.Cond.code ({ cls := "com/example/redoubt/redoubt/flow/FlowNetwork", name := "groupBySource", desc := "()[[I" } : Jvm.MethodName) prog_4_method_16_code (5 : Nat) (Option.some (Jvm.ClassFile.FieldType.array (Jvm.ClassFile.FieldType.array Jvm.ClassFile.FieldType.int))), Jvm.Cond.code ({ cls := "com/example/redoubt/redoubt/flow/FlowNetwork", name := "levelFromSource", desc := "(II[I)Z" } : Jvm.MethodName) prog_4_method_10_code (13 : Nat) (Option.some Jvm.ClassFile.FieldType.boolean), Jvm.Cond.code ({ cls := "java/util/Arrays", name := "fill", desc := "([II)V" } : Jvm.MethodName) jdk_65_method_103_code (4 : Nat) (Option.none : Option Jvm.ClassFile.FieldType), Jvm.Cond.code ({ cls := "com/example/redoubt/redoubt/flow/FlowNetwork", name := "residual", desc := "(I)I" } : Jvm.MethodName) prog_4_method_13_code (2 : Nat) (Option.some Jvm.ClassFile.FieldType.int), Jvm.Cond.code ({ cls := "com/example/redoubt/redoubt/flow/FlowNetwork", name := "blockingFlow", desc := "(II[I[I[I)V" } : Jvm.MethodName) prog_4_method_11_code (10 : Nat) (Option.none : Option Jvm.ClassFile.FieldType), Jvm.Cond.code ({ cls := "com/example/redoubt/redoubt/flow/FlowNetwork", name := "climbs", desc := "(I[I)Z" } : Jvm.MethodName) prog_4_method_12_code (3 : Nat) (Option.some Jvm.ClassFile.FieldType.boolean), Jvm.Cond.code ({ cls := "java/lang/Math", name := "min", desc := "(II)I" } : Jvm.MethodName) jdk_29_method_69_code (2 : Nat) (Option.some Jvm.ClassFile.FieldType.int), Jvm.Cond.code ({ cls := "com/example/redoubt/redoubt/flow/FlowNetwork", name := "outflow", desc := "(I)J" } : Jvm.MethodName) prog_4_method_15_code (8 : Nat) (Option.some Jvm.ClassFile.FieldType.long)]
set_option maxRecDepth 65536 in
theorem codes_eq : words1.filter isCode = codes1 := rfl
theorem w_codes : ∀ c ∈ words1.filter isCode, c.before args0 about1 = true := by
  rw [codes_eq]
  intro c hc
  simp only [codes1, List.mem_cons, List.not_mem_nil, or_false] at hc
  rcases hc with rfl | rfl | rfl | rfl | rfl | rfl | rfl | rfl | rfl | rfl | rfl | rfl | rfl | rfl | rfl | rfl | rfl | rfl | rfl | rfl
  · exact w_c0
  · exact w_c1
  · exact w_c2
  · exact w_c3
  · exact w_c4
  · exact w_c5
  · exact w_c6
  · exact w_c7
  · exact w_c8
  · exact w_c9
  · exact w_c10
  · exact w_c11
  · exact w_c12
  · exact w_c13
  · exact w_c14
  · exact w_c15
  · exact w_c16
  · exact w_c17
  · exact w_c18
  · exact w_c19
set_option maxRecDepth 65536 in
theorem w_t1 : (words1.take 24).all (fun c => isCode c || c.before args0 about1) = true := by decide +kernel
set_option maxRecDepth 65536 in
theorem w_t2 : ((words1.drop 24).take 24).all (fun c => isCode c || c.before args0 about1) = true := by decide +kernel
set_option maxRecDepth 65536 in
theorem w_t3 : (((words1.drop 24).drop 24).take 24).all (fun c => isCode c || c.before args0 about1) = true := by decide +kernel
set_option maxRecDepth 65536 in
theorem w_t4 : ((((words1.drop 24).drop 24).drop 24).take 24).all (fun c => isCode c || c.before args0 about1) = true := by decide +kernel
set_option maxRecDepth 65536 in
theorem w_t5 : ((((words1.drop 24).drop 24).drop 24).drop 24).all (fun c => isCode c || c.before args0 about1) = true := by decide +kernel
theorem w_tables : (allAtoms (Jvm.Cond.code x code maxLocals ret :: tables_1)).before args0 about1 = true := by
  rw [allAtoms_all]
  show words1.all (fun c => c.before args0 about1) = true
  refine all_split ?_ w_codes
  rw [← List.take_append_drop 24 words1, List.all_append, w_t1, ← List.take_append_drop 24 (words1.drop 24), List.all_append, w_t2, ← List.take_append_drop 24 ((words1.drop 24).drop 24), List.all_append, w_t3, ← List.take_append_drop 24 (((words1.drop 24).drop 24).drop 24), List.all_append, w_t4, w_t5]
  rfl
set_option maxRecDepth 65536 in
theorem w_case : (Jvm.Cond.and given_1 narrow_1).before args0 about1 = true := by decide +kernel
theorem w_applies : (headSpec (Jvm.Cond.code x code maxLocals ret :: tables_1) room_1).applies x e0.platform about1 = true :=
  (Spec.applies_iff w_frames).mpr ⟨w_running, w_runnable, w_alone, w_named, w_hears, w_ripe, w_room, w_tables⟩
theorem atStart : AtStart classFile x code maxLocals ret World_1 tables_1 room_1 Calls_1 rest_1 Pre_1 launch0 p0 e0 about1 theMethod args0 below0 :=
  ⟨lists_1, trivial, launch0.admits_env _ _ _, launch0.least_env, fairChoices_fair.cas, fairChoices_fair.clock, w_frames, w_args, w_heap, w_applies, trivial, trivial, w_case⟩
end start1
theorem witness_1 : WitnessClaimed_1 := ⟨start1.p0, start1.e0, start1.about1, start1.theMethod, start1.args0, start1.below0, start1.atStart⟩
end Jvm.Pilot.@@N@@
