import JvmDerived
import JvmDerived.Pilot.@@N@@Statement
import JvmDerived.Pilot.@@N@@Code
set_option linter.unusedVariables false
set_option linter.unusedSimpArgs false
namespace Jvm.Wk
open Sem ClassFile Op Lib Jvm.Stand Jvm.Free Jvm.LawKit Jvm.RoadKit
/-! A small logic of walks: the heap above the law's start is a list of records, a walk is a predicate over (records, pc, locals, stack). -/
abbrev Key := String × String × String
abbrev Rec := (String × List Key × List Value) ⊕ (FieldType × List Value)
abbrev obj (C : String) (ks : List Key) (vs : List Value) : Rec := Sum.inl (C, ks, vs)
abbrev arr (t : FieldType) (vs : List Value) : Rec := Sum.inr (t, vs)
abbrev ints (xs : List Int32) : Rec := arr .int (xs.map Value.int)
abbrev longs (xs : List Int64) : Rec := arr .long (xs.map Value.long)
abbrev rf (hB : Heap) (i : Nat) : Value := .ref (hB.size + i)
def kslot (Z : State) (k : Key) : Nat := Jvm.RoadKit.slotOf Z k.1 k.2.1 k.2.2
def OvrT (Z : State) (cA : ClassId) (t : FieldType) : Prop := (∀ C, t = .object C → Ovr Z cA C) ∧ (∀ ty, t = .array ty → OvrA Z cA ty (FieldType.array ty).toString)
def RecAt (Z : State) (h : Heap) (a : Addr) : Rec → Prop
  | .inl (C, ks, vs) => Exa Z h a C ∧ Unt h a ∧ (∀ (i : Nat) (k : Key) (v : Value), ks[i]? = some k → vs[i]? = some v → Fld Z h a k.1 k.2.1 k.2.2 v) ∧ (∀ (i j : Nat) (k k' : Key), ks[i]? = some k → ks[j]? = some k' → i ≠ j → kslot Z k ≠ kslot Z k')
  | .inr (t, vs) => ∃ c : Cell, Arr Z h a c t ∧ c.slots = vs.toArray ∧ c.vm = .none ∧ Exa Z h a ("[" ++ t.toString) ∧ OvrT Z c.cls t ∧ ∀ v ∈ vs, fits t v = true
def Hp (Z : State) (hB h : Heap) (H : List Rec) : Prop := h.size = hB.size + H.length ∧ (∀ (a : Addr) (c : Cell), hB[a]? = some c → h[a]? = some c) ∧ ∀ (i : Nat) (r : Rec), H[i]? = some r → RecAt Z h (hB.size + i) r
section Heaps
variable {Z : State} {hB h h' : Heap} {H : List Rec} {a b : Addr} {r : Rec} {sl : Nat} {v : Value}
theorem RecAt.ext (E : Ext h h') : ∀ {r : Rec}, RecAt Z h a r → RecAt Z h' a r
  | .inl _, F => ⟨F.1.ext E, F.2.1.ext E, fun i k v h1 h2 => (F.2.2.1 i k v h1 h2).ext E, F.2.2.2⟩
  | .inr _, F => by
    obtain ⟨c, h1, h2, h3, h5, h6⟩ := F
    exact ⟨c, h1.ext E, h2, h3, h5.ext E, h6⟩
theorem RecAt.other (W : Wr h h' b sl v) (hne : a ≠ b) : ∀ {r : Rec}, RecAt Z h a r → RecAt Z h' a r
  | .inl _, F => ⟨F.1.wr W, F.2.1.wr W, fun i k v h1 h2 => (F.2.2.1 i k v h1 h2).other W (Or.inl hne), F.2.2.2⟩
  | .inr _, F => by
    obtain ⟨c, h1, h2, h3, h5, h6⟩ := F
    exact ⟨c, h1.other W hne, h2, h3, h5.wr W, h6⟩
theorem RecAt.lt : ∀ {r : Rec}, RecAt Z h a r → a < h.size
  | .inl _, F => F.1.lt
  | .inr _, F => by obtain ⟨c, h1, -⟩ := F; exact h1.lt
theorem Hp.toExt (P : Hp Z hB h H) : Ext hB h := ⟨by rw [P.1]; exact Nat.le_add_right _ _, P.2.1⟩
theorem Hp.start (Z : State) (hB : Heap) : Hp Z hB hB [] := ⟨rfl, fun _ _ q => q, fun i r q => by cases q⟩
theorem Hp.at (P : Hp Z hB h H) {i : Nat} (q : H[i]? = some r) : RecAt Z h (hB.size + i) r := P.2.2 i r q
theorem Hp.setR (P : Hp Z hB h H) {i : Nat} {r r' : Rec} (q : H[i]? = some r) (W : Wr h h' (hB.size + i) sl v) (F : RecAt Z h' (hB.size + i) r') : Hp Z hB h' (H.set i r') := by
  refine ⟨by rw [W.size, P.1, List.length_set], fun a c ha => ?_, fun j r2 hj => ?_⟩
  · obtain ⟨c', e1, -, -, -, e5, -⟩ := wr_at W (P.2.1 a c ha)
    have : a < hB.size := (Array.getElem?_eq_some_iff.mp ha).1
    rw [e1, e5 fun q => absurd this (by rw [q]; exact Nat.not_lt.mpr (Nat.le_add_right _ _))]
  · rw [List.getElem?_set] at hj
    split at hj
    · rename_i e
      subst e
      split at hj
      · cases hj; exact F
      · cases hj
    · rename_i e
      exact (P.2.2 j r2 hj).other W fun q => e (Nat.add_left_cancel q).symm
theorem Hp.wrO (P : Hp Z hB h H) {i j : Nat} {C : String} {ks : List Key} {vs : List Value} {k : Key} (q : H[i]? = some (obj C ks vs)) (hk : ks[j]? = some k) (hj : j < vs.length) (W : Wr h h' (hB.size + i) (kslot Z k) v) : Hp Z hB h' (H.set i (obj C ks (vs.set j v))) := by
  obtain ⟨f1, f2, f3, f4⟩ := P.at q
  refine P.setR q W ⟨f1.wr W, f2.wr W, fun i' k' v' h1 h2 => ?_, f4⟩
  by_cases e : j = i'
  · subst e
    rw [List.getElem?_set_self hj] at h2
    cases h2
    cases hk.symm.trans h1
    exact (f3 j k vs[j] hk (List.getElem?_eq_getElem hj)).same W
  · rw [List.getElem?_set_ne e] at h2
    exact (f3 i' k' v' h1 h2).other W (Or.inr (f4 i' j k' k h1 hk (Ne.symm e)))
theorem Hp.wrA (P : Hp Z hB h H) {i j : Nat} {t : FieldType} {vs : List Value} (q : H[i]? = some (arr t vs)) (hf : fits t v = true) (W : Wr h h' (hB.size + i) j v) : Hp Z hB h' (H.set i (arr t (vs.set j v))) := by
  obtain ⟨c, h1, h2, h3, h5, h6, h7⟩ := P.at q
  refine P.setR q W ⟨c.setSlot j v, h1.same W, ?_, h3, h5.wr W, h6, fun w hw => ?_⟩
  · show c.slots.setIfInBounds j v = _
    rw [h2]; simp
  · rcases List.mem_or_eq_of_mem_set hw with z | z
    · exact h7 w z
    · rw [z]; exact hf
theorem Hp.push (P : Hp Z hB h H) (E : Ext h h') (hs : h'.size ≤ h.size + 1) (F : RecAt Z h' h.size r) : Hp Z hB h' (H ++ [r]) := by
  have hlt : Array.size h < Array.size h' := F.lt
  refine ⟨by rw [List.length_append, List.length_singleton]; have := P.1; omega, fun a c ha => E.2 _ _ (P.2.1 a c ha), fun i r2 hi => ?_⟩
  rw [List.getElem?_append] at hi
  split at hi
  · exact (P.2.2 i r2 hi).ext E
  · rename_i e
    have hl := P.1
    obtain ⟨h1, h2⟩ := List.getElem?_eq_some_iff.mp hi
    simp only [List.length_singleton] at h1
    have e2 : i = H.length := by omega
    subst e2
    simp only [Nat.sub_self, List.getElem_cons_zero] at h2
    subst h2
    rw [← hl]; exact F
theorem Hp.fld (P : Hp Z hB h H) {i j : Nat} {C O n d : String} {ks : List Key} {vs : List Value} (q : H[i]? = some (obj C ks vs)) (hk : ks[j]? = some (O, n, d)) (hv : vs[j]? = some v) : Fld Z h (hB.size + i) O n d v := (P.at q).2.2.1 j _ v hk hv
theorem Hp.exa (P : Hp Z hB h H) {i : Nat} {C : String} {ks : List Key} {vs : List Value} (q : H[i]? = some (obj C ks vs)) : Exa Z h (hB.size + i) C := (P.at q).1
theorem Hp.exaA (P : Hp Z hB h H) {i : Nat} {t : FieldType} {vs : List Value} {C : String} (q : H[i]? = some (arr t vs)) (hC : "[" ++ t.toString = C) : Exa Z h (hB.size + i) C := by
  obtain ⟨c, -, -, -, h5, -⟩ := P.at q
  exact hC ▸ h5
theorem RecAt.congr (e : h'[a]? = h[a]?) : ∀ {r : Rec}, RecAt Z h a r → RecAt Z h' a r
  | .inl _, F => by
    obtain ⟨⟨c1, k1, f1, f2⟩, ⟨c2, g1, g2⟩, F3, F4⟩ := F
    refine ⟨⟨c1, k1, e.trans f1, f2⟩, ⟨c2, e.trans g1, g2⟩, fun i k v h1 h2 => ?_, F4⟩
    obtain ⟨c, cf, kk, i', f, q, r⟩ := F3 i k v h1 h2
    exact ⟨c, cf, kk, i', f, e.trans q, r⟩
  | .inr _, F => by
    obtain ⟨c, ⟨h1, h1'⟩, h2, h3, ⟨c5, k5, h5, h5'⟩, h6⟩ := F
    exact ⟨c, ⟨e.trans h1, h1'⟩, h2, h3, ⟨c5, k5, e.trans h5, h5'⟩, h6⟩
theorem toNat_len {n : Nat} (h : n < 2 ^ 31) : n.toInt32.toNatClampNeg = n ∧ ¬ n.toInt32 < 0 := by
  refine ⟨by simp only [Int32.toNatClampNeg, len_toInt h]; omega, ?_⟩
  rw [Int32.lt_iff_toInt_lt, len_toInt h]; have : (0 : Int32).toInt = 0 := rfl; omega
theorem Hp.arv (P : Hp Z hB h H) {i : Nat} {t : FieldType} {vs : List Value} (q : H[i]? = some (arr t vs)) (hl : vs.length < 2 ^ 31) (d : Value) : ∃ k, Arv Z h (hB.size + i) k t vs.length.toInt32 vs d := by
  obtain ⟨c, h1, h2, h3, h5, h6, h7⟩ := P.at q
  have hs : c.slots.size = vs.length := by rw [h2, List.size_toArray]
  refine ⟨c.cls, c, h1, rfl, by rw [hs, (toNat_len hl).1], (toNat_len hl).2, fun k hk => ?_, fun k hk => ?_⟩
  · rw [hs] at hk
    rw [h2, List.getElem?_toArray, List.getElem?_eq_getElem hk, List.getD_eq_getElem?_getD, List.getElem?_eq_getElem hk]; rfl
  · rw [hs] at hk
    rw [List.getD_eq_getElem?_getD, List.getElem?_eq_getElem hk]; exact h7 _ (List.getElem_mem hk)
theorem Hp.copied (P : Hp Z hB h H) {i : Nat} {t : FieldType} {vs vs' : List Value} {k : ClassId} {d : Value} (q : H[i]? = some (arr t vs)) (hz : h'.size ≤ h.size) (K : Keep h h' [hB.size + i]) (hl : vs.length < 2 ^ 31) (hlen : vs'.length = vs.length) (A : Arv Z h' (hB.size + i) k t vs.length.toInt32 vs' d) : Hp Z hB h' (H.set i (arr t vs')) := by
  refine ⟨by rw [List.length_set, ← P.1]; exact Nat.le_antisymm hz K.1, fun a c ha => ?_, fun j r2 hj => ?_⟩
  · have : a < hB.size := (Array.getElem?_eq_some_iff.mp ha).1
    exact K.2.1 a c (P.2.1 a c ha) (by simp only [List.mem_singleton]; intro e; rw [e] at this; exact absurd this (Nat.not_lt.mpr (Nat.le_add_right _ _)))
  · by_cases e : i = j
    · subst e
      have hi := (List.getElem?_eq_some_iff.mp q).1
      rw [List.getElem?_set_self hi] at hj
      cases hj
      obtain ⟨c, h1, h2, h3, h5, h6, h7⟩ := P.at q
      obtain ⟨c', a1, a2, a3, a4, a5, a6⟩ := A
      obtain ⟨c2, b1, b2, b3, b4⟩ := K.2.2 _ c h1.1
      cases a1.1.symm.trans b1
      have hs : c'.slots.size = vs'.length := by rw [a3, (toNat_len hl).1, hlen]
      refine ⟨c', a1, ?_, b3.trans h3, h5.keep K, b2 ▸ h6, fun v hv => ?_⟩
      · apply Array.ext_getElem?
        intro n
        by_cases hn : n < c'.slots.size
        · rw [a5 n hn, List.getElem?_toArray, List.getD_eq_getElem?_getD, List.getElem?_eq_getElem (hs ▸ hn)]; rfl
        · rw [Array.getElem?_eq_none (Nat.le_of_not_lt hn), List.getElem?_toArray, List.getElem?_eq_none (by omega)]
      · obtain ⟨n, hn, rfl⟩ := List.getElem_of_mem hv
        have := a6 n (by omega)
        rw [List.getD_eq_getElem?_getD, List.getElem?_eq_getElem hn] at this; exact this
    · rw [List.getElem?_set_ne e] at hj
      have R := P.2.2 j r2 hj
      refine R.congr ?_
      obtain ⟨cj, hcj⟩ : ∃ c, h[hB.size + j]? = some c := ⟨_, Array.getElem?_eq_getElem R.lt⟩
      rw [hcj]; exact K.2.1 _ _ hcj (by simp only [List.mem_singleton]; intro q; exact e (Nat.add_left_cancel q).symm)
end Heaps
/-- what an array's place holds; an array with one place set -/
def gI (l : List Int32) (i : Int32) : Option Int32 := if i < 0 then none else l[i.toNatClampNeg]?
def sI (l : List Int32) (i x : Int32) : Option (List Int32) := if i < 0 then none else if i.toNatClampNeg < l.length then some (l.set i.toNatClampNeg x) else none
theorem gI_at {l : List Int32} {i x : Int32} (h : gI l i = some x) : ¬ i < 0 ∧ l[i.toNatClampNeg]? = some x := by
  unfold gI at h; split at h
  · cases h
  · rename_i q; exact ⟨q, h⟩
theorem sI_at {l l' : List Int32} {i x : Int32} (h : sI l i x = some l') : ¬ i < 0 ∧ i.toNatClampNeg < l.length ∧ l' = l.set i.toNatClampNeg x := by
  unfold sI at h; split at h
  · cases h
  · rename_i q; split at h
    · rename_i r; cases h; exact ⟨q, r, rfl⟩
    · cases h
def sJ (l : List Int64) (i : Int32) (x : Int64) : Option (List Int64) := if i < 0 then none else if i.toNatClampNeg < l.length then some (l.set i.toNatClampNeg x) else none
theorem sJ_at {l l' : List Int64} {i : Int32} {x : Int64} (h : sJ l i x = some l') : ¬ i < 0 ∧ i.toNatClampNeg < l.length ∧ l' = l.set i.toNatClampNeg x := by
  unfold sJ at h; split at h
  · cases h
  · rename_i q; split at h
    · rename_i r; cases h; exact ⟨q, r, rfl⟩
    · cases h
/-- one of several rows -/
def gR (l : List (List Int32)) (i : Int32) : Option (List Int32) := if i < 0 then none else l[i.toNatClampNeg]?
theorem gR_at {l : List (List Int32)} {i : Int32} {x : List Int32} (h : gR l i = some x) : ¬ i < 0 ∧ l[i.toNatClampNeg]? = some x := by
  unfold gR at h; split at h
  · cases h
  · rename_i q; exact ⟨q, h⟩
/-! lists of records in parts: F, G, then M -/
theorem getT {F G M : List Rec} {k : Nat} {r : Rec} (h : M[k]? = some r) : (F ++ (G ++ M))[F.length + G.length + k]? = some r := by
  rw [List.getElem?_append_right (by omega), List.getElem?_append_right (by omega)]
  rw [show F.length + G.length + k - F.length - G.length = k from by omega]; exact h
theorem setT {F G M : List Rec} {k : Nat} {r : Rec} : (F ++ (G ++ M)).set (F.length + G.length + k) r = F ++ (G ++ M.set k r) := by
  rw [List.set_append_right _ _ (by omega), List.set_append_right _ _ (by omega)]
  rw [show F.length + G.length + k - F.length - G.length = k from by omega]
theorem pushT {F G M : List Rec} {r : Rec} : F ++ (G ++ M) ++ [r] = F ++ (G ++ (M ++ [r])) := by simp [List.append_assoc]
theorem lenT {F G M : List Rec} : (F ++ (G ++ M)).length = F.length + G.length + M.length := by simp [Nat.add_assoc]
theorem getE {M K : List Rec} {e : Rec} {n : Nat} (h : M.length = n) : (M ++ (K ++ [e]))[K.length + n]? = some e := by
  subst h; rw [List.getElem?_append_right (by omega), show K.length + M.length - M.length = K.length from by omega]; simp
theorem setTE {F G M K : List Rec} {e r : Rec} {n : Nat} (h : M.length = n) : (F ++ (G ++ (M ++ (K ++ [e])))).set (F.length + G.length + (K.length + n)) r = F ++ (G ++ (M ++ (K ++ [r]))) := by
  subst h
  rw [setT, List.set_append_right _ _ (by omega), show K.length + M.length - M.length = K.length from by omega]; simp
theorem pushTK {F G M K : List Rec} {r : Rec} : F ++ (G ++ (M ++ K)) ++ [r] = F ++ (G ++ (M ++ (K ++ [r]))) := by simp [List.append_assoc]
theorem setSelf {H : List Rec} {i : Nat} {r : Rec} (h : H[i]? = some r) : H.set i r = H := by
  obtain ⟨h1, h2⟩ := List.getElem?_eq_some_iff.mp h
  rw [← h2]; exact List.set_getElem_self h1
section Walk
/-- the walk comes to its return -/
def Done (Z : State) (hB : Heap) (R : Room) (Q : Option Value → List Rec → Prop) (p : Program) (e : Env) (s : State) (below : List Frame) (S0 : State) : Prop :=
  ∃ U o, Steps p.tables e below S0 U ∧ U.status = .running ∧ Ended U below o ∧ ∃ v L H', o = .returned v ∧ Q v H' ∧ Hp Z hB U.heap H' ∧ Fr hB.size L ∧ FrameEnd s o U L R.cells R.slots
def Cx (Z : State) (hB : Heap) (y : MethodName) (bytes : ByteArray) (ml : Nat) (ret : Option FieldType) (n1 : Nat) (p : Program) (s : State) (m : MethodId) (meth : Method) (c : Code) : Prop :=
  p.tables.exec = Jvm.exec ∧ Z.Warmed39 s.vm ∧ c.code = bytes ∧ c.maxLocals = ml ∧ s.vm.findClass y.cls = some m.cls ∧ meth.name = y.name ∧ meth.sig.returnType = ret ∧ meth.locks = false ∧ s.heap.size = hB.size + n1
def WP (l : Launch) (Z : State) (hB : Heap) (y : MethodName) (bytes : ByteArray) (ml : Nat) (ret : Option FieldType) (R : Room) (n1 : Nat) (Q : Option Value → List Rec → Prop) (sl : Nat) (H : List Rec) (pc : Nat) (Ls : Array Slot) (st : List Value) : Prop :=
  ∀ p e s m args below meth c, Cx Z hB y bytes ml ret n1 p s m meth c → ∀ T locs cells slots, Stand p l e R s m args below meth c T locs cells slots → Fr hB.size locs → Hp Z hB T.heap H → slots ≤ sl →
    Done Z hB R Q p e s below (T.setTop (mkF m pc Ls st))
/-- a method's contract at given arguments and records -/
def Ctr (l : Launch) (Z : State) (hB : Heap) (y : MethodName) (bytes : ByteArray) (ml : Nat) (ret : Option FieldType) (ws : List Jvm.Cond) (rm : Room) (as' : Array Value) (H : List Rec) (Q : Option Value → List Rec → Prop) : Prop :=
  MetFree l y (head1 (Jvm.Cond.code y bytes ml ret :: ws) rm) (fun a U => a = as' ∧ Z.Warmed39 U.vm ∧ Hp Z hB U.heap H) (fun _ _ _ _ _ => True)
    (fun _ U o U' => ∃ v L H', o = .returned v ∧ Q v H' ∧ Hp Z hB U'.heap H' ∧ Fr hB.size L ∧ FrameEnd U o U' L rm.cells rm.slots)
variable {l : Launch} {Z : State} {hB : Heap} {y : MethodName} {bytes : ByteArray} {ml : Nat} {ret : Option FieldType} {R : Room} {n1 : Nat} {Q : Option Value → List Rec → Prop} {sl : Nat} {H H' : List Rec} {pc pc' : Nat} {Ls Ls' : Array Slot} {st st' rest : List Value} {a0 : Array Value}
theorem exact' {p : Program} {l : Launch} {e : Env} {R : Room} {s : State} {m : MethodId} {args : Array Value} {below : List Frame} {meth : Method} {c : Code} {T : State} {locs : List Loc} {cells slots : Nat} (X : Stand p l e R s m args below meth c T locs cells slots) {k : Nat} (hk : T.heap.size ≤ s.heap.size + k) : Stand p l e R s m args below meth c T locs k slots :=
  { X with same := ⟨X.same.1, X.same.2.1, hk, X.same.2.2.2⟩ }
theorem ctr {ws : List Jvm.Cond} {as' : Array Value} (hpn : plainFor y = true) (ef : ∀ m, entryFrame m as' ml = mkF m 0 Ls []) (h : WP l Z hB y bytes ml ret R H.length Q 0 H 0 Ls []) : Ctr l Z hB y bytes ml ret ws R as' H Q := by
  refine MetFree.of_bodySF hpn hisR ?_
  intro p e s m args below meth c s₁ Bd hml0 hP hK
  obtain ⟨rfl, hZ, hh⟩ := hP
  have X0 := Stand.of_body Bd
  have e0 : s₁.heap = s.heap := by rw [Bd.state]; rfl
  obtain ⟨U, o, st, h1, h2, v, L, H', ho, hq, hp, hf, hfe⟩ := h p e s m _ below meth c ⟨Bd.exec, hZ, Bd.bytes, hml0, findClass_of_methodNamed Bd.named, (name_of_methodNamed Bd.named Bd.method).1, Bd.returns, Bd.notSynchronized, hh.1⟩ s₁ [] 0 0 X0 (Fr.nil _) (by rw [e0]; exact hh) (Nat.zero_le _)
  exact ⟨U, o, castTop (ef m) st, h1, h2, v, L, H', ho, hq, hp, hf, hfe⟩
/-- a step that leaves the state as it is, but for the frame -/
theorem WP.step (k : ∀ (p : Program) (e : Env) (s : State) (m : MethodId) (args : Array Value) (below : List Frame) (meth : Method) (c : Code) (T : State) (locs : List Loc) (cells slots : Nat), Cx Z hB y bytes ml ret n1 p s m meth c → Stand p l e R s m args below meth c T locs cells slots → Hp Z hB T.heap H → ∀ target, Steps p.tables e below (T.setTop (mkF m pc' Ls' st')) target → Steps p.tables e below (T.setTop (mkF m pc Ls st)) target)
    (hr : WP l Z hB y bytes ml ret R n1 Q sl H pc' Ls' st') : WP l Z hB y bytes ml ret R n1 Q sl H pc Ls st := by
  intro p e s m args below meth c C T locs cells slots X N P hs
  obtain ⟨U, o, h1, h2⟩ := hr p e s m args below meth c C T locs cells slots X N P hs
  exact ⟨U, o, k p e s m args below meth c T locs cells slots C X P U h1, h2⟩
/-- a step that warms the tables -/
theorem WP.stepT (k : ∀ (p : Program) (e : Env) (s : State) (m : MethodId) (args : Array Value) (below : List Frame) (meth : Method) (c : Code) (T : State) (locs : List Loc) (cells slots : Nat), Cx Z hB y bytes ml ret n1 p s m meth c → Stand p l e R s m args below meth c T locs cells slots → Hp Z hB T.heap H → ∃ T', Stand p l e R s m args below meth c T' locs cells slots ∧ T'.heap = T.heap ∧ ∀ target, Steps p.tables e below (T'.setTop (mkF m pc' Ls' st')) target → Steps p.tables e below (T.setTop (mkF m pc Ls st)) target)
    (hr : WP l Z hB y bytes ml ret R n1 Q sl H pc' Ls' st') : WP l Z hB y bytes ml ret R n1 Q sl H pc Ls st := by
  intro p e s m args below meth c C T locs cells slots X N P hs
  obtain ⟨T', X', e', k'⟩ := k p e s m args below meth c T locs cells slots C X P
  obtain ⟨U, o, h1, h2⟩ := hr p e s m args below meth c C T' locs cells slots X' N (by rw [e']; exact P) hs
  exact ⟨U, o, k' U h1, h2⟩
/-- a step that moves the heap -/
theorem WP.stepH {sl' : Nat} (k : ∀ (p : Program) (e : Env) (s : State) (m : MethodId) (args : Array Value) (below : List Frame) (meth : Method) (c : Code) (T : State) (locs : List Loc) (cells slots : Nat), Cx Z hB y bytes ml ret n1 p s m meth c → Stand p l e R s m args below meth c T locs cells slots → T.heap.size = s.heap.size + cells → Fr hB.size locs → Hp Z hB T.heap H → slots ≤ sl →
      ∃ T' locs' cells' slots', Stand p l e R s m args below meth c T' locs' cells' slots' ∧ Fr hB.size locs' ∧ Hp Z hB T'.heap H' ∧ slots' ≤ sl' ∧ ∀ target, Steps p.tables e below (T'.setTop (mkF m pc' Ls' st')) target → Steps p.tables e below (T.setTop (mkF m pc Ls st)) target)
    (hr : WP l Z hB y bytes ml ret R n1 Q sl' H' pc' Ls' st') : WP l Z hB y bytes ml ret R n1 Q sl H pc Ls st := by
  intro p e s m args below meth c C T locs cells slots X N P hs
  have hz : T.heap.size = s.heap.size + (T.heap.size - s.heap.size) := by have := X.same.2.1; have : s.heap.size ≤ T.heap.size := this; omega
  obtain ⟨T', locs', cells', slots', X', N', P', hs', k'⟩ := k p e s m args below meth c T locs _ slots C (exact' X (Nat.le_of_eq hz)) hz N P hs
  obtain ⟨U, o, h1, h2⟩ := hr p e s m args below meth c C T' locs' cells' slots' X' N' P' hs'
  exact ⟨U, o, k' U h1, h2⟩
theorem WP.heap (e : H = H') (h : WP l Z hB y bytes ml ret R n1 Q sl H' pc Ls st) : WP l Z hB y bytes ml ret R n1 Q sl H pc Ls st := e ▸ h
theorem WP.monoQ {Q' : Option Value → List Rec → Prop} (hq : ∀ v H, Q v H → Q' v H) (h : WP l Z hB y bytes ml ret R n1 Q sl H pc Ls st) : WP l Z hB y bytes ml ret R n1 Q' sl H pc Ls st := by
  intro p e s m args below meth c C T locs cells slots X N P hs
  obtain ⟨U, o, h1, h2, h3, v, L, H', h4, h5, h6⟩ := h p e s m args below meth c C T locs cells slots X N P hs
  exact ⟨U, o, h1, h2, h3, v, L, H', h4, hq _ _ h5, h6⟩
theorem WP.mono {sl' : Nat} (hs : sl ≤ sl') (h : WP l Z hB y bytes ml ret R n1 Q sl' H pc Ls st) : WP l Z hB y bytes ml ret R n1 Q sl H pc Ls st := by
  intro p e s m args below meth c C T locs cells slots X N P hs'
  exact h p e s m args below meth c C T locs cells slots X N P (Nat.le_trans hs' hs)
theorem aloadN {k : Fin 4} {v : Value} (hd : decode bytes pc = .ok (.aload_n k, 1)) (hl : Ls[k.val]? = some (.val v)) (hv : v.isRef = true) (hp : pc + 1 = pc') (hr : WP l Z hB y bytes ml ret R n1 Q sl H pc' Ls (v :: st)) : WP l Z hB y bytes ml ret R n1 Q sl H pc Ls (st) := by
  subst hp
  exact WP.step (fun p e s m args below meth c T locs cells slots C X _ tgt h => XS.aloadN X.here C.1 rfl (hb C.2.2.1 hd) hl hv h) hr
theorem aload {k : Nat} {v : Value} (hd : decode bytes pc = .ok (.aload k, 2)) (hl : Ls[k]? = some (.val v)) (hv : v.isRef = true) (hp : pc + 2 = pc') (hr : WP l Z hB y bytes ml ret R n1 Q sl H pc' Ls (v :: st)) : WP l Z hB y bytes ml ret R n1 Q sl H pc Ls (st) := by
  subst hp
  exact WP.step (fun p e s m args below meth c T locs cells slots C X _ tgt h => XS.aload X.here C.1 rfl (hb C.2.2.1 hd) hl hv h) hr
theorem iloadN {k : Fin 4} {x : Int32} (hd : decode bytes pc = .ok (.iload_n k, 1)) (hl : Ls[k.val]? = some (.val (.int x))) (hp : pc + 1 = pc') (hr : WP l Z hB y bytes ml ret R n1 Q sl H pc' Ls (.int x :: st)) : WP l Z hB y bytes ml ret R n1 Q sl H pc Ls (st) := by
  subst hp
  exact WP.step (fun p e s m args below meth c T locs cells slots C X _ tgt h => XS.iloadN X.here C.1 rfl (hb C.2.2.1 hd) hl h) hr
theorem iload {k : Nat} {x : Int32} (hd : decode bytes pc = .ok (.iload k, 2)) (hl : Ls[k]? = some (.val (.int x))) (hp : pc + 2 = pc') (hr : WP l Z hB y bytes ml ret R n1 Q sl H pc' Ls (.int x :: st)) : WP l Z hB y bytes ml ret R n1 Q sl H pc Ls (st) := by
  subst hp
  exact WP.step (fun p e s m args below meth c T locs cells slots C X _ tgt h => XS.iload X.here C.1 rfl (hb C.2.2.1 hd) hl h) hr
theorem lloadN {k : Fin 4} {x : Int64} (hd : decode bytes pc = .ok (.lload_n k, 1)) (hl : Ls[k.val]? = some (.val (.long x))) (hp : pc + 1 = pc') (hr : WP l Z hB y bytes ml ret R n1 Q sl H pc' Ls (.long x :: st)) : WP l Z hB y bytes ml ret R n1 Q sl H pc Ls (st) := by
  subst hp
  exact WP.step (fun p e s m args below meth c T locs cells slots C X _ tgt h => XT.lloadN X.here C.1 rfl (hb C.2.2.1 hd) hl h) hr
theorem lload {k : Nat} {x : Int64} (hd : decode bytes pc = .ok (.lload k, 2)) (hl : Ls[k]? = some (.val (.long x))) (hp : pc + 2 = pc') (hr : WP l Z hB y bytes ml ret R n1 Q sl H pc' Ls (.long x :: st)) : WP l Z hB y bytes ml ret R n1 Q sl H pc Ls (st) := by
  subst hp
  exact WP.step (fun p e s m args below meth c T locs cells slots C X _ tgt h => XT.lload X.here C.1 rfl (hb C.2.2.1 hd) hl h) hr
theorem iconst {i : Int} (x : Int32) (hd : decode bytes pc = .ok (.iconst i, 1)) (hv : Int32.ofInt i = x) (hp : pc + 1 = pc') (hr : WP l Z hB y bytes ml ret R n1 Q sl H pc' Ls (.int x :: st)) : WP l Z hB y bytes ml ret R n1 Q sl H pc Ls (st) := by
  subst hp
  exact WP.step (fun p e s m args below meth c T locs cells slots C X _ tgt h => XS.iconst X.here C.1 rfl (hb C.2.2.1 hd) (hv ▸ h)) hr
theorem bipush {i : Int} (x : Int32) (hd : decode bytes pc = .ok (.bipush i, 2)) (hv : (Int8.ofInt i).toInt32 = x) (hp : pc + 2 = pc') (hr : WP l Z hB y bytes ml ret R n1 Q sl H pc' Ls (.int x :: st)) : WP l Z hB y bytes ml ret R n1 Q sl H pc Ls (st) := by
  subst hp
  exact WP.step (fun p e s m args below meth c T locs cells slots C X _ tgt h => XS.bipush X.here C.1 rfl (hb C.2.2.1 hd) (hv ▸ h)) hr
theorem sipush {i : Int} (x : Int32) (hd : decode bytes pc = .ok (.sipush i, 3)) (hv : (Int16.ofInt i).toInt32 = x) (hp : pc + 3 = pc') (hr : WP l Z hB y bytes ml ret R n1 Q sl H pc' Ls (.int x :: st)) : WP l Z hB y bytes ml ret R n1 Q sl H pc Ls (st) := by
  subst hp
  exact WP.step (fun p e s m args below meth c T locs cells slots C X _ tgt h => XT.sipushV X.here C.1 rfl x (hb C.2.2.1 hd) hv h) hr
theorem lconst {k : Fin 2} (x : Int64) (hd : decode bytes pc = .ok (.lconst k, 1)) (hv : Int64.ofNat k = x) (hp : pc + 1 = pc') (hr : WP l Z hB y bytes ml ret R n1 Q sl H pc' Ls (.long x :: st)) : WP l Z hB y bytes ml ret R n1 Q sl H pc Ls (st) := by
  subst hp
  exact WP.step (fun p e s m args below meth c T locs cells slots C X _ tgt h => XT.lconst X.here C.1 rfl (hb C.2.2.1 hd) (hv ▸ h)) hr
theorem aconstNull  (hd : decode bytes pc = .ok (.aconst_null, 1)) (hp : pc + 1 = pc') (hr : WP l Z hB y bytes ml ret R n1 Q sl H pc' Ls (.null :: st)) : WP l Z hB y bytes ml ret R n1 Q sl H pc Ls (st) := by
  subst hp
  exact WP.step (fun p e s m args below meth c T locs cells slots C X _ tgt h => XS.aconstNull X.here C.1 rfl (hb C.2.2.1 hd) h) hr
theorem iadd {x z : Int32} (hd : decode bytes pc = .ok (.iadd, 1)) (hp : pc + 1 = pc') (hr : WP l Z hB y bytes ml ret R n1 Q sl H pc' Ls (.int (x + z) :: st)) : WP l Z hB y bytes ml ret R n1 Q sl H pc Ls (.int z :: .int x :: st) := by
  subst hp
  exact WP.step (fun p e s m args below meth c T locs cells slots C X _ tgt h => XS.iadd X.here C.1 rfl (hb C.2.2.1 hd) rfl h) hr
theorem isub {x z : Int32} (hd : decode bytes pc = .ok (.isub, 1)) (hp : pc + 1 = pc') (hr : WP l Z hB y bytes ml ret R n1 Q sl H pc' Ls (.int (x - z) :: st)) : WP l Z hB y bytes ml ret R n1 Q sl H pc Ls (.int z :: .int x :: st) := by
  subst hp
  exact WP.step (fun p e s m args below meth c T locs cells slots C X _ tgt h => XS.isub X.here C.1 rfl (hb C.2.2.1 hd) rfl h) hr
theorem iand {x z : Int32} (hd : decode bytes pc = .ok (.iand, 1)) (hp : pc + 1 = pc') (hr : WP l Z hB y bytes ml ret R n1 Q sl H pc' Ls (.int (x &&& z) :: st)) : WP l Z hB y bytes ml ret R n1 Q sl H pc Ls (.int z :: .int x :: st) := by
  subst hp
  exact WP.step (fun p e s m args below meth c T locs cells slots C X _ tgt h => XS.iand X.here C.1 rfl (hb C.2.2.1 hd) rfl h) hr
theorem imul {x z : Int32} (hd : decode bytes pc = .ok (.imul, 1)) (hp : pc + 1 = pc') (hr : WP l Z hB y bytes ml ret R n1 Q sl H pc' Ls (.int (x * z) :: st)) : WP l Z hB y bytes ml ret R n1 Q sl H pc Ls (.int z :: .int x :: st) := by
  subst hp
  exact WP.step (fun p e s m args below meth c T locs cells slots C X _ tgt h => XS.imul X.here C.1 rfl (hb C.2.2.1 hd) rfl h) hr
theorem ixor {x z : Int32} (hd : decode bytes pc = .ok (.ixor, 1)) (hp : pc + 1 = pc') (hr : WP l Z hB y bytes ml ret R n1 Q sl H pc' Ls (.int (x ^^^ z) :: st)) : WP l Z hB y bytes ml ret R n1 Q sl H pc Ls (.int z :: .int x :: st) := by
  subst hp
  exact WP.step (fun p e s m args below meth c T locs cells slots C X _ tgt h => XT.ixor X.here C.1 rfl (hb C.2.2.1 hd) rfl h) hr
theorem ior {x z : Int32} (hd : decode bytes pc = .ok (.ior, 1)) (hp : pc + 1 = pc') (hr : WP l Z hB y bytes ml ret R n1 Q sl H pc' Ls (.int (x ||| z) :: st)) : WP l Z hB y bytes ml ret R n1 Q sl H pc Ls (.int z :: .int x :: st) := by
  subst hp
  exact WP.step (fun p e s m args below meth c T locs cells slots C X _ tgt h => XT.ior X.here C.1 rfl (hb C.2.2.1 hd) rfl h) hr
theorem ishl {x z : Int32} (hd : decode bytes pc = .ok (.ishl, 1)) (hp : pc + 1 = pc') (hr : WP l Z hB y bytes ml ret R n1 Q sl H pc' Ls (.int (x <<< (z &&& 31)) :: st)) : WP l Z hB y bytes ml ret R n1 Q sl H pc Ls (.int z :: .int x :: st) := by
  subst hp
  exact WP.step (fun p e s m args below meth c T locs cells slots C X _ tgt h => XT.ishl X.here C.1 rfl (hb C.2.2.1 hd) rfl h) hr
theorem ishr {x z : Int32} (hd : decode bytes pc = .ok (.ishr, 1)) (hp : pc + 1 = pc') (hr : WP l Z hB y bytes ml ret R n1 Q sl H pc' Ls (.int (x >>> (z &&& 31)) :: st)) : WP l Z hB y bytes ml ret R n1 Q sl H pc Ls (.int z :: .int x :: st) := by
  subst hp
  exact WP.step (fun p e s m args below meth c T locs cells slots C X _ tgt h => XT.ishr X.here C.1 rfl (hb C.2.2.1 hd) rfl h) hr
theorem iushr {x z : Int32} (hd : decode bytes pc = .ok (.iushr, 1)) (hp : pc + 1 = pc') (hr : WP l Z hB y bytes ml ret R n1 Q sl H pc' Ls (.int (XT.ushr x z) :: st)) : WP l Z hB y bytes ml ret R n1 Q sl H pc Ls (.int z :: .int x :: st) := by
  subst hp
  exact WP.step (fun p e s m args below meth c T locs cells slots C X _ tgt h => XT.iushr X.here C.1 rfl (hb C.2.2.1 hd) rfl h) hr
theorem ladd {x z : Int64} (hd : decode bytes pc = .ok (.ladd, 1)) (hp : pc + 1 = pc') (hr : WP l Z hB y bytes ml ret R n1 Q sl H pc' Ls (.long (x + z) :: st)) : WP l Z hB y bytes ml ret R n1 Q sl H pc Ls (.long z :: .long x :: st) := by
  subst hp
  exact WP.step (fun p e s m args below meth c T locs cells slots C X _ tgt h => XT.ladd X.here C.1 rfl (hb C.2.2.1 hd) rfl h) hr
theorem lsub {x z : Int64} (hd : decode bytes pc = .ok (.lsub, 1)) (hp : pc + 1 = pc') (hr : WP l Z hB y bytes ml ret R n1 Q sl H pc' Ls (.long (x - z) :: st)) : WP l Z hB y bytes ml ret R n1 Q sl H pc Ls (.long z :: .long x :: st) := by
  subst hp
  exact WP.step (fun p e s m args below meth c T locs cells slots C X _ tgt h => XT.lsub X.here C.1 rfl (hb C.2.2.1 hd) rfl h) hr
theorem land {x z : Int64} (hd : decode bytes pc = .ok (.land, 1)) (hp : pc + 1 = pc') (hr : WP l Z hB y bytes ml ret R n1 Q sl H pc' Ls (.long (x &&& z) :: st)) : WP l Z hB y bytes ml ret R n1 Q sl H pc Ls (.long z :: .long x :: st) := by
  subst hp
  exact WP.step (fun p e s m args below meth c T locs cells slots C X _ tgt h => XT.land X.here C.1 rfl (hb C.2.2.1 hd) rfl h) hr
theorem lmul {x z : Int64} (hd : decode bytes pc = .ok (.lmul, 1)) (hp : pc + 1 = pc') (hr : WP l Z hB y bytes ml ret R n1 Q sl H pc' Ls (.long (x * z) :: st)) : WP l Z hB y bytes ml ret R n1 Q sl H pc Ls (.long z :: .long x :: st) := by
  subst hp
  exact WP.step (fun p e s m args below meth c T locs cells slots C X _ tgt h => XT.lmul X.here C.1 rfl (hb C.2.2.1 hd) rfl h) hr
theorem lushr {x : Int64} {z : Int32} (hd : decode bytes pc = .ok (.lushr, 1)) (hp : pc + 1 = pc') (hr : WP l Z hB y bytes ml ret R n1 Q sl H pc' Ls (.long (XT.ushrL x z) :: st)) : WP l Z hB y bytes ml ret R n1 Q sl H pc Ls (.int z :: .long x :: st) := by
  subst hp
  exact WP.step (fun p e s m args below meth c T locs cells slots C X _ tgt h => XT.lushr X.here C.1 rfl (hb C.2.2.1 hd) rfl h) hr
theorem lcmp {x z : Int64} (hd : decode bytes pc = .ok (.lcmp, 1)) (hp : pc + 1 = pc') (hr : WP l Z hB y bytes ml ret R n1 Q sl H pc' Ls (.int (XT.cmpL x z) :: st)) : WP l Z hB y bytes ml ret R n1 Q sl H pc Ls (.long z :: .long x :: st) := by
  subst hp
  exact WP.step (fun p e s m args below meth c T locs cells slots C X _ tgt h => XT.lcmp X.here C.1 rfl (hb C.2.2.1 hd) rfl h) hr
theorem idiv {x z : Int32} (hd : decode bytes pc = .ok (.idiv, 1)) (hz : z ≠ 0) (hp : pc + 1 = pc') (hr : WP l Z hB y bytes ml ret R n1 Q sl H pc' Ls (.int (x / z) :: st)) : WP l Z hB y bytes ml ret R n1 Q sl H pc Ls (.int z :: .int x :: st) := by
  subst hp
  exact WP.step (fun p e s m args below meth c T locs cells slots C X _ tgt h => XS.idiv X.here C.1 rfl (hb C.2.2.1 hd) rfl hz h) hr
theorem irem {x z : Int32} (hd : decode bytes pc = .ok (.irem, 1)) (hz : z ≠ 0) (hp : pc + 1 = pc') (hr : WP l Z hB y bytes ml ret R n1 Q sl H pc' Ls (.int (x % z) :: st)) : WP l Z hB y bytes ml ret R n1 Q sl H pc Ls (.int z :: .int x :: st) := by
  subst hp
  exact WP.step (fun p e s m args below meth c T locs cells slots C X _ tgt h => iremM X C.1 rfl (hb C.2.2.1 hd) rfl hz h) hr
theorem ineg {x : Int32} (hd : decode bytes pc = .ok (.ineg, 1)) (hp : pc + 1 = pc') (hr : WP l Z hB y bytes ml ret R n1 Q sl H pc' Ls (.int (-x) :: st)) : WP l Z hB y bytes ml ret R n1 Q sl H pc Ls (.int x :: st) := by
  subst hp
  exact WP.step (fun p e s m args below meth c T locs cells slots C X _ tgt h => XS.ineg X.here C.1 rfl (hb C.2.2.1 hd) rfl h) hr
theorem lneg {x : Int64} (hd : decode bytes pc = .ok (.lneg, 1)) (hp : pc + 1 = pc') (hr : WP l Z hB y bytes ml ret R n1 Q sl H pc' Ls (.long (-x) :: st)) : WP l Z hB y bytes ml ret R n1 Q sl H pc Ls (.long x :: st) := by
  subst hp
  exact WP.step (fun p e s m args below meth c T locs cells slots C X _ tgt h => XT.lneg X.here C.1 rfl (hb C.2.2.1 hd) rfl h) hr
theorem i2l {x : Int32} (hd : decode bytes pc = .ok (.i2l, 1)) (hp : pc + 1 = pc') (hr : WP l Z hB y bytes ml ret R n1 Q sl H pc' Ls (.long x.toInt64 :: st)) : WP l Z hB y bytes ml ret R n1 Q sl H pc Ls (.int x :: st) := by
  subst hp
  exact WP.step (fun p e s m args below meth c T locs cells slots C X _ tgt h => XT.i2l X.here C.1 rfl (hb C.2.2.1 hd) rfl h) hr
theorem l2i {x : Int64} (hd : decode bytes pc = .ok (.l2i, 1)) (hp : pc + 1 = pc') (hr : WP l Z hB y bytes ml ret R n1 Q sl H pc' Ls (.int x.toInt32 :: st)) : WP l Z hB y bytes ml ret R n1 Q sl H pc Ls (.long x :: st) := by
  subst hp
  exact WP.step (fun p e s m args below meth c T locs cells slots C X _ tgt h => XT.l2i X.here C.1 rfl (hb C.2.2.1 hd) rfl h) hr
theorem i2c {x : Int32} (hd : decode bytes pc = .ok (.i2c, 1)) (hp : pc + 1 = pc') (hr : WP l Z hB y bytes ml ret R n1 Q sl H pc' Ls (.int x.toUInt32.toUInt16.toUInt32.toInt32 :: st)) : WP l Z hB y bytes ml ret R n1 Q sl H pc Ls (.int x :: st) := by
  subst hp
  exact WP.step (fun p e s m args below meth c T locs cells slots C X _ tgt h => XT.i2c X.here C.1 rfl (hb C.2.2.1 hd) rfl h) hr
theorem i2b {x : Int32} (hd : decode bytes pc = .ok (.i2b, 1)) (hp : pc + 1 = pc') (hr : WP l Z hB y bytes ml ret R n1 Q sl H pc' Ls (.int x.toInt8.toInt32 :: st)) : WP l Z hB y bytes ml ret R n1 Q sl H pc Ls (.int x :: st) := by
  subst hp
  exact WP.step (fun p e s m args below meth c T locs cells slots C X _ tgt h => XT.i2b X.here C.1 rfl (hb C.2.2.1 hd) rfl h) hr
theorem dup {v : Value} (hd : decode bytes pc = .ok (.dup, 1)) (hc : v.category = 1) (hp : pc + 1 = pc') (hr : WP l Z hB y bytes ml ret R n1 Q sl H pc' Ls (v :: v :: st)) : WP l Z hB y bytes ml ret R n1 Q sl H pc Ls (v :: st) := by
  subst hp
  exact WP.step (fun p e s m args below meth c T locs cells slots C X _ tgt h => XS.dup X.here C.1 rfl (hb C.2.2.1 hd) rfl hc h) hr
theorem dupX1 {v w : Value} (hd : decode bytes pc = .ok (.dup_x1, 1)) (hc : v.category = 1) (hc2 : w.category = 1) (hp : pc + 1 = pc') (hr : WP l Z hB y bytes ml ret R n1 Q sl H pc' Ls (v :: w :: v :: st)) : WP l Z hB y bytes ml ret R n1 Q sl H pc Ls (v :: w :: st) := by
  subst hp
  exact WP.step (fun p e s m args below meth c T locs cells slots C X _ tgt h => XT.dupX1 X.here C.1 rfl (hb C.2.2.1 hd) rfl hc hc2 h) hr
theorem dup2 {v w : Value} (hd : decode bytes pc = .ok (.dup2, 1)) (hc : v.category = 1) (hc2 : w.category = 1) (hp : pc + 1 = pc') (hr : WP l Z hB y bytes ml ret R n1 Q sl H pc' Ls (v :: w :: v :: w :: st)) : WP l Z hB y bytes ml ret R n1 Q sl H pc Ls (v :: w :: st) := by
  subst hp
  exact WP.step (fun p e s m args below meth c T locs cells slots C X _ tgt h => XT.dup2 X.here C.1 rfl (hb C.2.2.1 hd) rfl hc hc2 h) hr
theorem popV {v : Value} (hd : decode bytes pc = .ok (.pop, 1)) (hc : v.category = 1) (hp : pc + 1 = pc') (hr : WP l Z hB y bytes ml ret R n1 Q sl H pc' Ls (st)) : WP l Z hB y bytes ml ret R n1 Q sl H pc Ls (v :: st) := by
  subst hp
  exact WP.step (fun p e s m args below meth c T locs cells slots C X _ tgt h => XT.pop X.here C.1 rfl (hb C.2.2.1 hd) rfl hc h) hr
theorem istoreN {k : Fin 4} {x : Int32} (hd : decode bytes pc = .ok (.istore_n k, 1)) (hl : storeLocals Ls k.val (.int x) = some Ls') (hp : pc + 1 = pc') (hr : WP l Z hB y bytes ml ret R n1 Q sl H pc' Ls' (st)) : WP l Z hB y bytes ml ret R n1 Q sl H pc Ls (.int x :: st) := by
  subst hp
  exact WP.step (fun p e s m args below meth c T locs cells slots C X _ tgt h => XS.istoreN X.here C.1 rfl (hb C.2.2.1 hd) rfl hl h) hr
theorem istore {k : Nat} {x : Int32} (hd : decode bytes pc = .ok (.istore k, 2)) (hl : storeLocals Ls k (.int x) = some Ls') (hp : pc + 2 = pc') (hr : WP l Z hB y bytes ml ret R n1 Q sl H pc' Ls' (st)) : WP l Z hB y bytes ml ret R n1 Q sl H pc Ls (.int x :: st) := by
  subst hp
  exact WP.step (fun p e s m args below meth c T locs cells slots C X _ tgt h => XS.istore X.here C.1 rfl (hb C.2.2.1 hd) rfl hl h) hr
theorem lstoreN {k : Fin 4} {x : Int64} (hd : decode bytes pc = .ok (.lstore_n k, 1)) (hl : storeLocals Ls k.val (.long x) = some Ls') (hp : pc + 1 = pc') (hr : WP l Z hB y bytes ml ret R n1 Q sl H pc' Ls' (st)) : WP l Z hB y bytes ml ret R n1 Q sl H pc Ls (.long x :: st) := by
  subst hp
  exact WP.step (fun p e s m args below meth c T locs cells slots C X _ tgt h => XT.lstoreN X.here C.1 rfl (hb C.2.2.1 hd) rfl hl h) hr
theorem lstore {k : Nat} {x : Int64} (hd : decode bytes pc = .ok (.lstore k, 2)) (hl : storeLocals Ls k (.long x) = some Ls') (hp : pc + 2 = pc') (hr : WP l Z hB y bytes ml ret R n1 Q sl H pc' Ls' (st)) : WP l Z hB y bytes ml ret R n1 Q sl H pc Ls (.long x :: st) := by
  subst hp
  exact WP.step (fun p e s m args below meth c T locs cells slots C X _ tgt h => XT.lstore X.here C.1 rfl (hb C.2.2.1 hd) rfl hl h) hr
theorem astoreN {k : Fin 4} {v : Value} (hd : decode bytes pc = .ok (.astore_n k, 1)) (hv : v.isRef = true) (hl : storeLocals Ls k.val v = some Ls') (hp : pc + 1 = pc') (hr : WP l Z hB y bytes ml ret R n1 Q sl H pc' Ls' (st)) : WP l Z hB y bytes ml ret R n1 Q sl H pc Ls (v :: st) := by
  subst hp
  exact WP.step (fun p e s m args below meth c T locs cells slots C X _ tgt h => XS.astoreN X.here C.1 rfl (hb C.2.2.1 hd) rfl hv hl h) hr
theorem astore {k : Nat} {v : Value} (hd : decode bytes pc = .ok (.astore k, 2)) (hv : v.isRef = true) (hl : storeLocals Ls k v = some Ls') (hp : pc + 2 = pc') (hr : WP l Z hB y bytes ml ret R n1 Q sl H pc' Ls' (st)) : WP l Z hB y bytes ml ret R n1 Q sl H pc Ls (v :: st) := by
  subst hp
  exact WP.step (fun p e s m args below meth c T locs cells slots C X _ tgt h => XS.astore X.here C.1 rfl (hb C.2.2.1 hd) rfl hv hl h) hr
theorem iinc {k : Nat} {cst : Int} {x : Int32} (z : Int32) (hd : decode bytes pc = .ok (.iinc k cst, 3)) (hl : Ls[k]? = some (.val (.int x))) (hz : x + Int32.ofInt cst = z) (hl' : storeLocals Ls k (.int z) = some Ls') (hp : pc + 3 = pc') (hr : WP l Z hB y bytes ml ret R n1 Q sl H pc' Ls' (st)) : WP l Z hB y bytes ml ret R n1 Q sl H pc Ls (st) := by
  subst hp
  exact WP.step (fun p e s m args below meth c T locs cells slots C X _ tgt h => XS.iinc X.here C.1 rfl (hb C.2.2.1 hd) hl (hz ▸ hl') h) hr
theorem goTo  {o : Int} (hd : decode bytes pc = .ok (.goto o, 3)) (ho : 0 ≤ (pc : Int) + o) (hp : ((pc : Int) + o).toNat = pc') (hr : WP l Z hB y bytes ml ret R n1 Q sl H pc' Ls st) : WP l Z hB y bytes ml ret R n1 Q sl H pc Ls (st) :=
  WP.step (fun p e s m args below meth c T locs cells slots C X _ tgt h => XS.goto X.here C.1 rfl rfl (hb C.2.2.1 hd) ho hp h) hr
theorem ifY {cd : ClassFile.Cond} {x : Int32} {o : Int} (hd : decode bytes pc = .ok (.ifCond cd o, 3)) (hc : ifCond.holds cd x = true) (ho : 0 ≤ (pc : Int) + o) (hp : ((pc : Int) + o).toNat = pc') (hr : WP l Z hB y bytes ml ret R n1 Q sl H pc' Ls st) : WP l Z hB y bytes ml ret R n1 Q sl H pc Ls (.int x :: st) :=
  WP.step (fun p e s m args below meth c T locs cells slots C X _ tgt h => XS.ifYes X.here C.1 rfl rfl (hb C.2.2.1 hd) rfl hc ho hp h) hr
theorem ifN {cd : ClassFile.Cond} {x : Int32} {o : Int} (hd : decode bytes pc = .ok (.ifCond cd o, 3)) (hc : ifCond.holds cd x = false) (hp : pc + 3 = pc') (hr : WP l Z hB y bytes ml ret R n1 Q sl H pc' Ls st) : WP l Z hB y bytes ml ret R n1 Q sl H pc Ls (.int x :: st) := by
  subst hp
  exact WP.step (fun p e s m args below meth c T locs cells slots C X _ tgt h => XS.ifNo X.here C.1 rfl (hb C.2.2.1 hd) rfl hc h) hr
theorem icY {cd : ClassFile.Cond} {x z : Int32} {o : Int} (hd : decode bytes pc = .ok (.if_icmp cd o, 3)) (hc : if_icmp.holds cd x z = true) (ho : 0 ≤ (pc : Int) + o) (hp : ((pc : Int) + o).toNat = pc') (hr : WP l Z hB y bytes ml ret R n1 Q sl H pc' Ls st) : WP l Z hB y bytes ml ret R n1 Q sl H pc Ls (.int z :: .int x :: st) :=
  WP.step (fun p e s m args below meth c T locs cells slots C X _ tgt h => XS.icmpYes X.here C.1 rfl rfl (hb C.2.2.1 hd) rfl hc ho hp h) hr
theorem icN {cd : ClassFile.Cond} {x z : Int32} {o : Int} (hd : decode bytes pc = .ok (.if_icmp cd o, 3)) (hc : if_icmp.holds cd x z = false) (hp : pc + 3 = pc') (hr : WP l Z hB y bytes ml ret R n1 Q sl H pc' Ls st) : WP l Z hB y bytes ml ret R n1 Q sl H pc Ls (.int z :: .int x :: st) := by
  subst hp
  exact WP.step (fun p e s m args below meth c T locs cells slots C X _ tgt h => XS.icmpNo X.here C.1 rfl (hb C.2.2.1 hd) rfl hc h) hr
theorem nullY  {o : Int} (hd : decode bytes pc = .ok (.ifnull o, 3)) (ho : 0 ≤ (pc : Int) + o) (hp : ((pc : Int) + o).toNat = pc') (hr : WP l Z hB y bytes ml ret R n1 Q sl H pc' Ls st) : WP l Z hB y bytes ml ret R n1 Q sl H pc Ls (.null :: st) :=
  WP.step (fun p e s m args below meth c T locs cells slots C X _ tgt h => XS.ifnullYes X.here C.1 rfl rfl (hb C.2.2.1 hd) rfl ho hp h) hr
theorem nullN {b : Addr} {o : Int} (hd : decode bytes pc = .ok (.ifnull o, 3)) (hp : pc + 3 = pc') (hr : WP l Z hB y bytes ml ret R n1 Q sl H pc' Ls st) : WP l Z hB y bytes ml ret R n1 Q sl H pc Ls (.ref b :: st) := by
  subst hp
  exact WP.step (fun p e s m args below meth c T locs cells slots C X _ tgt h => XS.ifnullNo X.here C.1 rfl (hb C.2.2.1 hd) rfl h) hr
theorem nonnullY {b : Addr} {o : Int} (hd : decode bytes pc = .ok (.ifnonnull o, 3)) (ho : 0 ≤ (pc : Int) + o) (hp : ((pc : Int) + o).toNat = pc') (hr : WP l Z hB y bytes ml ret R n1 Q sl H pc' Ls st) : WP l Z hB y bytes ml ret R n1 Q sl H pc Ls (.ref b :: st) :=
  WP.step (fun p e s m args below meth c T locs cells slots C X _ tgt h => XT.ifnonnullYes X.here C.1 rfl rfl (hb C.2.2.1 hd) rfl ho hp h) hr
theorem nonnullN  {o : Int} (hd : decode bytes pc = .ok (.ifnonnull o, 3)) (hp : pc + 3 = pc') (hr : WP l Z hB y bytes ml ret R n1 Q sl H pc' Ls st) : WP l Z hB y bytes ml ret R n1 Q sl H pc Ls (.null :: st) := by
  subst hp
  exact WP.step (fun p e s m args below meth c T locs cells slots C X _ tgt h => XT.ifnonnullNo X.here C.1 rfl (hb C.2.2.1 hd) rfl h) hr
theorem acY {cd : ClassFile.ACond} {v w : Value} {o : Int} (hd : decode bytes pc = .ok (.if_acmp cd o, 3)) (hv : v.isRef = true) (hw : w.isRef = true) (hc : XT.acmp cd v w = true) (ho : 0 ≤ (pc : Int) + o) (hp : ((pc : Int) + o).toNat = pc') (hr : WP l Z hB y bytes ml ret R n1 Q sl H pc' Ls st) : WP l Z hB y bytes ml ret R n1 Q sl H pc Ls (w :: v :: st) :=
  WP.step (fun p e s m args below meth c T locs cells slots C X _ tgt h => XT.acmpYes X.here C.1 rfl rfl (hb C.2.2.1 hd) rfl hv hw hc ho hp h) hr
theorem acN {cd : ClassFile.ACond} {v w : Value} {o : Int} (hd : decode bytes pc = .ok (.if_acmp cd o, 3)) (hv : v.isRef = true) (hw : w.isRef = true) (hc : XT.acmp cd v w = false) (hp : pc + 3 = pc') (hr : WP l Z hB y bytes ml ret R n1 Q sl H pc' Ls st) : WP l Z hB y bytes ml ret R n1 Q sl H pc Ls (w :: v :: st) := by
  subst hp
  exact WP.step (fun p e s m args below meth c T locs cells slots C X _ tgt h => XT.acmpNo X.here C.1 rfl (hb C.2.2.1 hd) rfl hv hw hc h) hr
theorem tswIn {dflt low high : Int} {offs : Array Int} {len : Nat} {o : Int} {i : Int32} (hd : decode bytes pc = .ok (.tableswitch dflt low high offs, len)) (hin : ¬ (i.toInt < low ∨ i.toInt > high)) (hoff : offs[(i.toInt - low).toNat]? = some o) (ho : 0 ≤ (pc : Int) + o) (hp : ((pc : Int) + o).toNat = pc') (hr : WP l Z hB y bytes ml ret R n1 Q sl H pc' Ls st) : WP l Z hB y bytes ml ret R n1 Q sl H pc Ls (.int i :: st) :=
  WP.step (fun p e s m args below meth c T locs cells slots C X _ tgt h => XS.tswIn X.here C.1 rfl rfl (hb C.2.2.1 hd) rfl hin hoff ho hp h) hr
theorem dupX2 {u v w : Value} (hd : decode bytes pc = .ok (.dup_x2, 1)) (h1 : u.category = 1) (h2 : v.category = 1) (h3 : w.category = 1) (hp : pc + 1 = pc') (hr : WP l Z hB y bytes ml ret R n1 Q sl H pc' Ls (u :: v :: w :: u :: st)) : WP l Z hB y bytes ml ret R n1 Q sl H pc Ls (u :: v :: w :: st) := by
  subst hp
  refine WP.step (fun p e s m args below meth c T locs cells slots C X _ tgt h => ?_) hr
  have hx := C.1
  have hd' := (hb C.2.2.1 hd)
  jvm_step X.here [X.here.top, hx, hd', h1, h2, h3]
  exact h
theorem pop2L {x : Int64} (hd : decode bytes pc = .ok (.pop2, 1)) (hp : pc + 1 = pc') (hr : WP l Z hB y bytes ml ret R n1 Q sl H pc' Ls st) : WP l Z hB y bytes ml ret R n1 Q sl H pc Ls (.long x :: st) := by
  subst hp
  refine WP.step (fun p e s m args below meth c T locs cells slots C X _ tgt h => ?_) hr
  have hx := C.1
  have hd' := (hb C.2.2.1 hd)
  jvm_step X.here [X.here.top, hx, hd', Value.category]
  exact h
theorem getFl {a : Addr} {R0 O n d host : String} {v : Value} {index : Nat} (hd : decode bytes pc = .ok (.getfield index, 3)) (w : (Jvm.Cond.fieldLink y.cls index R0 n d).before a0 Z = true ∨ (Jvm.Cond.fieldLinkNest y.cls index R0 n d host).before a0 Z = true) (via : Via Z R0 O n d) (F : ∀ h, Hp Z hB h H → Fld Z h a O n d v) (hp : pc + 3 = pc') (hr : WP l Z hB y bytes ml ret R n1 Q sl H pc' Ls (v :: st)) : WP l Z hB y bytes ml ret R n1 Q sl H pc Ls (.ref a :: st) := by
  subst hp
  exact WP.stepT (fun p e s m args below meth c T locs cells slots C X P => getF X C.1 C.2.1 C.2.2.2.2.1 w via rfl (F _ P) (g := mkF m pc Ls (.ref a :: st)) rfl rfl (hb C.2.2.1 hd)) hr
theorem getF0 {O n d : String} {v : Value} {index i j : Nat} {C : String} {ks : List Key} {vs : List Value} (hd : decode bytes pc = .ok (.getfield index, 3)) (w : (Jvm.Cond.fieldLink y.cls index O n d).before a0 Z = true) (hi : H[i]? = some (obj C ks vs)) (hk : ks[j]? = some (O, n, d)) (hv : vs[j]? = some v) (hp : pc + 3 = pc') (hr : WP l Z hB y bytes ml ret R n1 Q sl H pc' Ls (v :: st)) : WP l Z hB y bytes ml ret R n1 Q sl H pc Ls (rf hB i :: st) :=
  getFl (host := "") hd (Or.inl w) Via.refl (fun _ P => P.fld hi hk hv) hp hr
theorem getFold {a : Addr} {O n d : String} {v : Value} {index : Nat} (hd : decode bytes pc = .ok (.getfield index, 3)) (w : (Jvm.Cond.fieldLink y.cls index O n d).before a0 Z = true) (F : Fld Z hB a O n d v) (hp : pc + 3 = pc') (hr : WP l Z hB y bytes ml ret R n1 Q sl H pc' Ls (v :: st)) : WP l Z hB y bytes ml ret R n1 Q sl H pc Ls (.ref a :: st) :=
  getFl (host := "") hd (Or.inl w) Via.refl (fun _ P => F.ext P.toExt) hp hr
theorem getSt {O n d : String} {v : Value} {index : Nat} (hd : decode bytes pc = .ok (.getstatic index, 3)) (w : (Jvm.Cond.fieldLink y.cls index O n d).before a0 Z = true) (F : Sta Z hB O n d v) (hp : pc + 3 = pc') (hr : WP l Z hB y bytes ml ret R n1 Q sl H pc' Ls (v :: st)) : WP l Z hB y bytes ml ret R n1 Q sl H pc Ls st := by
  subst hp
  exact WP.stepT (fun p e s m args below meth c T locs cells slots C X P => getS2 X C.1 C.2.1 C.2.2.2.2.1 (host := "") (Or.inl w) Via.refl rfl (F.ext P.toExt) (g := mkF m pc Ls st) rfl (hb C.2.2.1 hd)) hr
theorem putF0 {O n d : String} {v : Value} {ty : FieldType} {index i j kk : Nat} {C : String} {ks : List Key} {vs : List Value} (hd : decode bytes pc = .ok (.putfield index, 3)) (w : (Jvm.Cond.fieldLink y.cls index O n d).before a0 Z = true) (hi : H[i]? = some (obj C ks vs)) (hk : ks[j]? = some (O, n, d)) (hj : j < vs.length)
    (L : (Jvm.Cond.lays C O n d).before a0 Z = true ∨ ((Jvm.Cond.laysFinal C O n d).before a0 Z = true ∧ y.cls = O ∧ y.name = "<init>")) (wi : (Jvm.Cond.instantiable C kk).before a0 Z = true) (hty : parseFieldDescriptor d = some ty) (hn : narrow ty v = v) (hf : fits ty v = true) (hH : H.set i (obj C ks (vs.set j v)) = H') (hp : pc + 3 = pc') (hr : WP l Z hB y bytes ml ret R n1 Q sl H' pc' Ls st) : WP l Z hB y bytes ml ret R n1 Q sl H pc Ls (v :: rf hB i :: st) := by
  subst hp; subst hH
  refine WP.stepH (fun p e s m args below meth c T locs cells slots C X hz N P hs => ?_) hr
  obtain ⟨T', h', X', e', W, k⟩ := putF X C.1 C.2.1 C.2.2.2.2.1 (host := "") (Or.inl w) Via.refl rfl (P.fld hi hk (List.getElem?_eq_getElem hj)) (P.exa hi) (L.imp id fun q => ⟨q.1, q.2.1, C.2.2.2.2.2.1.trans q.2.2⟩) wi hty hn hf (g := mkF m pc Ls (v :: rf hB i :: st)) rfl rfl (hb C.2.2.1 hd)
  exact ⟨T', _, _, _, X', Fr.snoc X' N (Nat.le_add_right _ _), by rw [e']; exact P.wrO hi hk hj W, hs, k⟩
theorem getF1 {R0 O n d : String} {v : Value} {index i j : Nat} {C : String} {ks : List Key} {vs : List Value} (hd : decode bytes pc = .ok (.getfield index, 3)) (w : (Jvm.Cond.fieldLink y.cls index R0 n d).before a0 Z = true) (ws : (Jvm.Cond.sameField R0 O n d).before a0 Z = true) (hi : H[i]? = some (obj C ks vs)) (hk : ks[j]? = some (O, n, d)) (hv : vs[j]? = some v) (hp : pc + 3 = pc') (hr : WP l Z hB y bytes ml ret R n1 Q sl H pc' Ls (v :: st)) : WP l Z hB y bytes ml ret R n1 Q sl H pc Ls (rf hB i :: st) :=
  getFl (host := "") hd (Or.inl w) (Via.of ws) (fun _ P => P.fld hi hk hv) hp hr
theorem putF1 {R0 O n d : String} {v : Value} {ty : FieldType} {index i j kk : Nat} {C : String} {ks : List Key} {vs : List Value} (hd : decode bytes pc = .ok (.putfield index, 3)) (w : (Jvm.Cond.fieldLink y.cls index R0 n d).before a0 Z = true) (ws : (Jvm.Cond.sameField R0 O n d).before a0 Z = true) (hi : H[i]? = some (obj C ks vs)) (hk : ks[j]? = some (O, n, d)) (hj : j < vs.length)
    (L : (Jvm.Cond.lays C O n d).before a0 Z = true ∨ ((Jvm.Cond.laysFinal C O n d).before a0 Z = true ∧ y.cls = O ∧ y.name = "<init>")) (wi : (Jvm.Cond.instantiable C kk).before a0 Z = true) (hty : parseFieldDescriptor d = some ty) (hn : narrow ty v = v) (hf : fits ty v = true) (hH : H.set i (obj C ks (vs.set j v)) = H') (hp : pc + 3 = pc') (hr : WP l Z hB y bytes ml ret R n1 Q sl H' pc' Ls st) : WP l Z hB y bytes ml ret R n1 Q sl H pc Ls (v :: rf hB i :: st) := by
  subst hp; subst hH
  refine WP.stepH (fun p e s m args below meth c T locs cells slots C X hz N P hs => ?_) hr
  obtain ⟨T', h', X', e', W, k⟩ := putF X C.1 C.2.1 C.2.2.2.2.1 (host := "") (Or.inl w) (Via.of ws) rfl (P.fld hi hk (List.getElem?_eq_getElem hj)) (P.exa hi) (L.imp id fun q => ⟨q.1, q.2.1, C.2.2.2.2.2.1.trans q.2.2⟩) wi hty hn hf (g := mkF m pc Ls (v :: rf hB i :: st)) rfl rfl (hb C.2.2.1 hd)
  exact ⟨T', _, _, _, X', Fr.snoc X' N (Nat.le_add_right _ _), by rw [e']; exact P.wrO hi hk hj W, hs, k⟩
theorem initObj {i' : Addr} {index : Nat} (hd : decode bytes pc = .ok (.invokespecial index, 3)) (w1 : (Jvm.Cond.methodLink y.cls index Lib.objectInit).before a0 Z = true) (w2 : (Jvm.Cond.instanceMethod Lib.objectInit).before a0 Z = true) (w3 : (Jvm.Cond.code Lib.objectInit ⟨#[0xb1]⟩ 1 none).before a0 Z = true) (hml : Ls.size = ml) (hf : 1 ≤ R.frames) (hl : (st.map fun v => v.category).sum + 12 ≤ R.locals) (hp : pc + 3 = pc') (hr : WP l Z hB y bytes ml ret R n1 Q sl H pc' Ls st) : WP l Z hB y bytes ml ret R n1 Q sl H pc Ls (.ref i' :: st) := by
  subst hp
  exact WP.stepT (fun p e s m args below meth c T locs cells slots C X P => initO X C.1 C.2.1 C.2.2.2.2.1 w1 w2 w3 rfl (g := mkF m pc Ls (.ref i' :: st)) rfl (hml.trans C.2.2.2.1.symm) rfl (hb C.2.2.1 hd) hf (W := (st.map fun v => v.category).sum) (by show 2 * 0 + _ ≤ _; omega) hl) hr
theorem newObj {C : String} {index n : Nat} {ks : List Key} {vs : List Value} (hd : decode bytes pc = .ok (.new index, 3)) (w : (Jvm.Cond.classLink y.cls index C).before a0 Z = true) (wi : (Jvm.Cond.instantiable C n).before a0 Z = true) (wz : (Jvm.Cond.initialized C).before a0 Z = true)
    (hlaid : ∀ (i : Nat) (k : Key) (v : Value), ks[i]? = some k → vs[i]? = some v → Laid Z a0 C k.1 k.2.1 k.2.2 ∧ ∃ ty, parseFieldDescriptor k.2.2 = some ty ∧ v = defaultValue ty) (hdist : ∀ (i j : Nat) (k k' : Key), ks[i]? = some k → ks[j]? = some k' → i ≠ j → kslot Z k ≠ kslot Z k')
    (hc : H.length + 1 ≤ n1 + R.cells) (hsl : sl + n ≤ R.slots) (hH : H ++ [obj C ks vs] = H') (hlen : H.length = i) (hp : pc + 3 = pc') (hr : WP l Z hB y bytes ml ret R n1 Q (sl + n) H' pc' Ls (rf hB i :: st)) : WP l Z hB y bytes ml ret R n1 Q sl H pc Ls st := by
  subst hp; subst hH; subst hlen
  refine WP.stepH (fun p e s m args below meth c T locs cells slots Cx X hz N P hs => ?_) hr
  have hsz := Cx.2.2.2.2.2.2.2.2
  have hp1 := P.1
  obtain ⟨T', h', X', e', E, A, D, U, k⟩ := newO X Cx.1 Cx.2.1 Cx.2.2.2.2.1 w wi wz rfl (g := mkF m pc Ls st) rfl (hb Cx.2.2.1 hd) (by omega) (by omega)
  subst e'
  have hle := X'.heapSize
  refine ⟨T', _, _, _, X', N, P.push E (by omega) ⟨A, U, fun i k v h1 h2 => ?_, hdist⟩, by omega, by rw [show rf hB H.length = .ref T.heap.size from by show Value.ref _ = _; rw [hp1]]; exact k⟩
  obtain ⟨q1, ty, q2, rfl⟩ := hlaid i k v h1 h2
  exact D q1 q2
theorem newArr {aty : ArrayType} {i : Nat} {n : Int32} {nn : Nat} (hd : decode bytes pc = .ok (.newarray aty, 2)) (w : (Jvm.Cond.arrayClass (newarray.typeOf aty)).before a0 Z = true) (hn : ¬ n < 0) (hnn : n.toNatClampNeg = nn) (hb8 : nn * 8 ≤ 536870912) (hdf : fits (newarray.typeOf aty) (defaultValue (newarray.typeOf aty)) = true) (hnr : (∀ C, newarray.typeOf aty ≠ .object C) ∧ ∀ t, newarray.typeOf aty ≠ .array t)
    (hc : H.length + 1 ≤ n1 + R.cells) (hsl : sl + nn ≤ R.slots) (hH : H ++ [arr (newarray.typeOf aty) (List.replicate nn (defaultValue (newarray.typeOf aty)))] = H') (hlen : H.length = i) (hp : pc + 2 = pc') (hr : WP l Z hB y bytes ml ret R n1 Q (sl + nn) H' pc' Ls (rf hB i :: st)) : WP l Z hB y bytes ml ret R n1 Q sl H pc Ls (.int n :: st) := by
  subst hp; subst hH; subst hlen; subst hnn
  refine WP.stepH (fun p e s m args below meth c T locs cells slots Cx X hz N P hs => ?_) hr
  have hsz := Cx.2.2.2.2.2.2.2.2
  have hp1 := P.1
  obtain ⟨T', h', cA, X', e', E, A, Ex, k⟩ := newPE X Cx.1 Cx.2.1 w rfl (g := mkF m pc Ls (.int n :: st)) rfl (hb Cx.2.2.1 hd) rfl hn (cap := n.toNatClampNeg) (Nat.le_refl _) hb8 (by omega) (by omega) rfl
  subst e'
  have hle := X'.heapSize
  refine ⟨T', _, _, _, X', N, P.push E (by omega) ⟨_, A, by simp [newA], rfl, Ex, ⟨fun C q => absurd q (hnr.1 C), fun t q => absurd q (hnr.2 t)⟩, fun v hv => by rw [List.eq_of_mem_replicate hv]; exact hdf⟩, by omega, by rw [show rf hB H.length = .ref T.heap.size from by show Value.ref _ = _; rw [hp1]]; exact k⟩
theorem newRef {C : String} {index i : Nat} {n : Int32} {nn : Nat} (hd : decode bytes pc = .ok (.anewarray index, 3)) (w1 : (Jvm.Cond.classLink y.cls index C).before a0 Z = true) (w2 : (Jvm.Cond.arrayOver (.object C)).before a0 Z = true) (hn : ¬ n < 0) (hnn : n.toNatClampNeg = nn) (hb8 : nn * 8 ≤ 536870912)
    (hc : H.length + 1 ≤ n1 + R.cells) (hsl : sl + nn ≤ R.slots) (hH : H ++ [arr (.object C) (List.replicate nn .null)] = H') (hlen : H.length = i) (hp : pc + 3 = pc') (hr : WP l Z hB y bytes ml ret R n1 Q (sl + nn) H' pc' Ls (rf hB i :: st)) : WP l Z hB y bytes ml ret R n1 Q sl H pc Ls (.int n :: st) := by
  subst hp; subst hH; subst hlen; subst hnn
  refine WP.stepH (fun p e s m args below meth c T locs cells slots Cx X hz N P hs => ?_) hr
  have hsz := Cx.2.2.2.2.2.2.2.2
  have hp1 := P.1
  obtain ⟨T', h', cA, X', e', E, A, Ex, O, k⟩ := newRE X Cx.1 Cx.2.1 Cx.2.2.2.2.1 w1 w2 rfl (g := mkF m pc Ls (.int n :: st)) rfl (hb Cx.2.2.1 hd) rfl hn (cap := n.toNatClampNeg) (Nat.le_refl _) hb8 (by omega) (by omega) rfl
  subst e'
  have hle := X'.heapSize
  refine ⟨T', _, _, _, X', N, P.push E (by omega) ⟨_, A, by simp [newA, defaultValue], rfl, Ex, ⟨fun C' q => (by cases q; exact O), fun t q => (by cases q)⟩, fun v hv => by rw [List.eq_of_mem_replicate hv]; rfl⟩, by omega, by rw [show rf hB H.length = .ref T.heap.size from by show Value.ref _ = _; rw [hp1]]; exact k⟩
theorem newRefA {ty : FieldType} {C : String} {index i : Nat} {n : Int32} {nn : Nat} (hd : decode bytes pc = .ok (.anewarray index, 3)) (hC : (FieldType.array ty).toString = C) (w1 : (Jvm.Cond.classLink y.cls index C).before a0 Z = true) (w2 : (Jvm.Cond.arrayOver (.array ty)).before a0 Z = true) (hn : ¬ n < 0) (hnn : n.toNatClampNeg = nn) (hb8 : nn * 8 ≤ 536870912)
    (hc : H.length + 1 ≤ n1 + R.cells) (hsl : sl + nn ≤ R.slots) (hH : H ++ [arr (.array ty) (List.replicate nn .null)] = H') (hlen : H.length = i) (hp : pc + 3 = pc') (hr : WP l Z hB y bytes ml ret R n1 Q (sl + nn) H' pc' Ls (rf hB i :: st)) : WP l Z hB y bytes ml ret R n1 Q sl H pc Ls (.int n :: st) := by
  subst hp; subst hH; subst hlen; subst hnn; subst hC
  refine WP.stepH (fun p e s m args below meth c T locs cells slots Cx X hz N P hs => ?_) hr
  have hsz := Cx.2.2.2.2.2.2.2.2
  have hp1 := P.1
  obtain ⟨T', h', cA, X', e', E, A, Ex, O, k⟩ := newRA X Cx.1 Cx.2.1 Cx.2.2.2.2.1 rfl w1 w2 rfl (g := mkF m pc Ls (.int n :: st)) rfl (hb Cx.2.2.1 hd) rfl hn (cap := n.toNatClampNeg) (Nat.le_refl _) hb8 (by omega) (by omega) rfl
  subst e'
  have hle := X'.heapSize
  refine ⟨T', _, _, _, X', N, P.push E (by omega) ⟨_, A, by simp [newA, defaultValue], rfl, Ex, ⟨fun C' q => (by cases q), fun t q => (by cases q; exact O)⟩, fun v hv => by rw [List.eq_of_mem_replicate hv]; rfl⟩, by omega, by rw [show rf hB H.length = .ref T.heap.size from by show Value.ref _ = _; rw [hp1]]; exact k⟩
theorem inb {c : Cell} {vs : List Value} {j : Int32} {v : Value} (hc : c.slots = vs.toArray) (h0 : ¬ j < 0) (hv : vs[j.toNatClampNeg]? = some v) : ¬ (j < 0 ∨ c.slots.size ≤ j.toNatClampNeg) ∧ c.slots[j.toNatClampNeg]? = some v := by
  have := (List.getElem?_eq_some_iff.mp hv).1
  refine ⟨fun q => q.elim h0 fun z => ?_, by rw [hc]; simpa using hv⟩
  rw [hc, List.size_toArray] at z; omega
theorem arrLen {i : Nat} {t : FieldType} {vs : List Value} {z : Int32} (hd : decode bytes pc = .ok (.arraylength, 1)) (hi : H[i]? = some (arr t vs)) (hz : vs.length.toInt32 = z) (hp : pc + 1 = pc') (hr : WP l Z hB y bytes ml ret R n1 Q sl H pc' Ls (.int z :: st)) : WP l Z hB y bytes ml ret R n1 Q sl H pc Ls (rf hB i :: st) := by
  subst hp
  refine WP.step (fun p e s m args below meth c T locs cells slots C X P tgt h => ?_) hr
  obtain ⟨cl, h1, h2, -⟩ := P.at hi
  exact X.arraylength C.1 h1.1 (State.isArrayOf_alike C.2.1.alike h1.2.1) (g := mkF m pc Ls (rf hB i :: st)) rfl rfl (hb C.2.2.1 hd) _ (by rw [h2, List.size_toArray, hz]; exact h)
theorem arrLenOld {a : Addr} {t : FieldType} {cl : Cell} {z : Int32} (hd : decode bytes pc = .ok (.arraylength, 1)) (A : Arr Z hB a cl t) (hz : cl.slots.size.toInt32 = z) (hp : pc + 1 = pc') (hr : WP l Z hB y bytes ml ret R n1 Q sl H pc' Ls (.int z :: st)) : WP l Z hB y bytes ml ret R n1 Q sl H pc Ls (.ref a :: st) := by
  subst hp
  refine WP.step (fun p e s m args below meth c T locs cells slots C X P tgt h => ?_) hr
  have h1 := A.ext P.toExt
  exact X.arraylength C.1 h1.1 (State.isArrayOf_alike C.2.1.alike h1.2.1) (g := mkF m pc Ls (.ref a :: st)) rfl rfl (hb C.2.2.1 hd) _ (by rw [hz]; exact h)
theorem iaload {i : Nat} {vs : List Value} {j : Int32} {v : Value} {jn : Nat} (hd : decode bytes pc = .ok (.iaload, 1)) (hi : H[i]? = some (arr .int vs)) (h0 : ¬ j < 0) (hjn : j.toNatClampNeg = jn) (hv : vs[jn]? = some v) (hp : pc + 1 = pc') (hr : WP l Z hB y bytes ml ret R n1 Q sl H pc' Ls (v :: st)) : WP l Z hB y bytes ml ret R n1 Q sl H pc Ls (.int j :: rf hB i :: st) := by
  subst hp; subst hjn
  refine WP.step (fun p e s m args below meth c T locs cells slots C X P tgt h => ?_) hr
  obtain ⟨cl, h1, h2, -⟩ := P.at hi
  exact X.iaload C.1 h1.1 (State.isArrayOf_alike C.2.1.alike h1.2.1) h1.2.2 (inb h2 h0 hv).1 (inb h2 h0 hv).2 (g := mkF m pc Ls (.int j :: rf hB i :: st)) rfl rfl (hb C.2.2.1 hd) _ h
theorem laload {i : Nat} {vs : List Value} {j : Int32} {v : Value} {jn : Nat} (hd : decode bytes pc = .ok (.laload, 1)) (hi : H[i]? = some (arr .long vs)) (h0 : ¬ j < 0) (hjn : j.toNatClampNeg = jn) (hv : vs[jn]? = some v) (hp : pc + 1 = pc') (hr : WP l Z hB y bytes ml ret R n1 Q sl H pc' Ls (v :: st)) : WP l Z hB y bytes ml ret R n1 Q sl H pc Ls (.int j :: rf hB i :: st) := by
  subst hp; subst hjn
  refine WP.step (fun p e s m args below meth c T locs cells slots C X P tgt h => ?_) hr
  obtain ⟨cl, h1, h2, -⟩ := P.at hi
  exact X.laload C.1 h1.1 (State.isArrayOf_alike C.2.1.alike h1.2.1) h1.2.2 (inb h2 h0 hv).1 (inb h2 h0 hv).2 (g := mkF m pc Ls (.int j :: rf hB i :: st)) rfl rfl (hb C.2.2.1 hd) _ h
theorem caload {i : Nat} {vs : List Value} {j : Int32} {v : Value} {jn : Nat} (hd : decode bytes pc = .ok (.caload, 1)) (hi : H[i]? = some (arr .char vs)) (h0 : ¬ j < 0) (hjn : j.toNatClampNeg = jn) (hv : vs[jn]? = some v) (hp : pc + 1 = pc') (hr : WP l Z hB y bytes ml ret R n1 Q sl H pc' Ls (v :: st)) : WP l Z hB y bytes ml ret R n1 Q sl H pc Ls (.int j :: rf hB i :: st) := by
  subst hp; subst hjn
  refine WP.step (fun p e s m args below meth c T locs cells slots C X P tgt h => ?_) hr
  obtain ⟨cl, h1, h2, -⟩ := P.at hi
  exact X.caload C.1 h1.1 (State.isArrayOf_alike C.2.1.alike h1.2.1) h1.2.2 (inb h2 h0 hv).1 (inb h2 h0 hv).2 (g := mkF m pc Ls (.int j :: rf hB i :: st)) rfl rfl (hb C.2.2.1 hd) _ h
theorem baload {i : Nat} {vs : List Value} {j : Int32} {v : Value} {jn : Nat} (hd : decode bytes pc = .ok (.baload, 1)) (hi : H[i]? = some (arr .byte vs)) (h0 : ¬ j < 0) (hjn : j.toNatClampNeg = jn) (hv : vs[jn]? = some v) (hp : pc + 1 = pc') (hr : WP l Z hB y bytes ml ret R n1 Q sl H pc' Ls (v :: st)) : WP l Z hB y bytes ml ret R n1 Q sl H pc Ls (.int j :: rf hB i :: st) := by
  subst hp; subst hjn
  refine WP.step (fun p e s m args below meth c T locs cells slots C X P tgt h => ?_) hr
  obtain ⟨cl, h1, h2, -⟩ := P.at hi
  exact X.baloadBytes C.1 h1.1 (State.isArrayOf_alike C.2.1.alike h1.2.1) h1.2.2 (inb h2 h0 hv).1 (inb h2 h0 hv).2 (g := mkF m pc Ls (.int j :: rf hB i :: st)) rfl rfl (hb C.2.2.1 hd) _ h
theorem zaload {i : Nat} {vs : List Value} {j : Int32} {v : Value} {jn : Nat} (hd : decode bytes pc = .ok (.baload, 1)) (hi : H[i]? = some (arr .boolean vs)) (h0 : ¬ j < 0) (hjn : j.toNatClampNeg = jn) (hv : vs[jn]? = some v) (hp : pc + 1 = pc') (hr : WP l Z hB y bytes ml ret R n1 Q sl H pc' Ls (v :: st)) : WP l Z hB y bytes ml ret R n1 Q sl H pc Ls (.int j :: rf hB i :: st) := by
  subst hp; subst hjn
  refine WP.step (fun p e s m args below meth c T locs cells slots C X P tgt h => ?_) hr
  obtain ⟨cl, h1, h2, -⟩ := P.at hi
  exact X.baloadBooleans C.1 h1.1 (State.isArrayOf_alike C.2.1.alike h1.2.1) h1.2.2 (inb h2 h0 hv).1 (inb h2 h0 hv).2 (g := mkF m pc Ls (.int j :: rf hB i :: st)) rfl rfl (hb C.2.2.1 hd) _ h
theorem aaload {i : Nat} {t : FieldType} {vs : List Value} {j : Int32} {v : Value} {jn : Nat} (hd : decode bytes pc = .ok (.aaload, 1)) (hi : H[i]? = some (arr t vs)) (ht : t.isReference = true) (h0 : ¬ j < 0) (hjn : j.toNatClampNeg = jn) (hv : vs[jn]? = some v) (hp : pc + 1 = pc') (hr : WP l Z hB y bytes ml ret R n1 Q sl H pc' Ls (v :: st)) : WP l Z hB y bytes ml ret R n1 Q sl H pc Ls (.int j :: rf hB i :: st) := by
  subst hp; subst hjn
  refine WP.step (fun p e s m args below meth c T locs cells slots C X P tgt h => ?_) hr
  obtain ⟨cl, h1, h2, -⟩ := P.at hi
  exact X.aaload C.1 h1.1 (State.isArrayOf_alike C.2.1.alike h1.2.1) ht h1.2.2 (inb h2 h0 hv).1 (inb h2 h0 hv).2 (g := mkF m pc Ls (.int j :: rf hB i :: st)) rfl rfl (hb C.2.2.1 hd) _ h
theorem baloadOld {a : Addr} {cl : Cell} {j : Int32} {v : Value} (hd : decode bytes pc = .ok (.baload, 1)) (A : Arr Z hB a cl .byte) (h0 : ¬ (j < 0 ∨ cl.slots.size ≤ j.toNatClampNeg)) (hv : cl.slots[j.toNatClampNeg]? = some v) (hp : pc + 1 = pc') (hr : WP l Z hB y bytes ml ret R n1 Q sl H pc' Ls (v :: st)) : WP l Z hB y bytes ml ret R n1 Q sl H pc Ls (.int j :: .ref a :: st) := by
  subst hp
  refine WP.step (fun p e s m args below meth c T locs cells slots C X P tgt h => ?_) hr
  have h1 := A.ext P.toExt
  exact X.baloadBytes C.1 h1.1 (State.isArrayOf_alike C.2.1.alike h1.2.1) h1.2.2 h0 hv (g := mkF m pc Ls (.int j :: .ref a :: st)) rfl rfl (hb C.2.2.1 hd) _ h
theorem ialoadOld {a : Addr} {cl : Cell} {j : Int32} {v : Value} (hd : decode bytes pc = .ok (.iaload, 1)) (A : Arr Z hB a cl .int) (h0 : ¬ (j < 0 ∨ cl.slots.size ≤ j.toNatClampNeg)) (hv : cl.slots[j.toNatClampNeg]? = some v) (hp : pc + 1 = pc') (hr : WP l Z hB y bytes ml ret R n1 Q sl H pc' Ls (v :: st)) : WP l Z hB y bytes ml ret R n1 Q sl H pc Ls (.int j :: .ref a :: st) := by
  subst hp
  refine WP.step (fun p e s m args below meth c T locs cells slots C X P tgt h => ?_) hr
  have h1 := A.ext P.toExt
  exact X.iaload C.1 h1.1 (State.isArrayOf_alike C.2.1.alike h1.2.1) h1.2.2 h0 hv (g := mkF m pc Ls (.int j :: .ref a :: st)) rfl rfl (hb C.2.2.1 hd) _ h
theorem aaloadOld {a : Addr} {t : FieldType} {cl : Cell} {j : Int32} {v : Value} (hd : decode bytes pc = .ok (.aaload, 1)) (A : Arr Z hB a cl t) (ht : t.isReference = true) (h0 : ¬ (j < 0 ∨ cl.slots.size ≤ j.toNatClampNeg)) (hv : cl.slots[j.toNatClampNeg]? = some v) (hp : pc + 1 = pc') (hr : WP l Z hB y bytes ml ret R n1 Q sl H pc' Ls (v :: st)) : WP l Z hB y bytes ml ret R n1 Q sl H pc Ls (.int j :: .ref a :: st) := by
  subst hp
  refine WP.step (fun p e s m args below meth c T locs cells slots C X P tgt h => ?_) hr
  have h1 := A.ext P.toExt
  exact X.aaload C.1 h1.1 (State.isArrayOf_alike C.2.1.alike h1.2.1) ht h1.2.2 h0 hv (g := mkF m pc Ls (.int j :: .ref a :: st)) rfl rfl (hb C.2.2.1 hd) _ h
theorem iastore {i : Nat} {vs : List Value} {j : Int32} {x : Int32} {jn : Nat} (hd : decode bytes pc = .ok (.iastore, 1)) (hi : H[i]? = some (arr .int vs)) (h0 : ¬ j < 0) (hjn : j.toNatClampNeg = jn) (hlt : jn < vs.length) (hH : H.set i (arr .int (vs.set jn (.int x))) = H') (hp : pc + 1 = pc') (hr : WP l Z hB y bytes ml ret R n1 Q sl H' pc' Ls st) : WP l Z hB y bytes ml ret R n1 Q sl H pc Ls (.int x :: .int j :: rf hB i :: st) := by
  subst hp; subst hH; subst hjn
  refine WP.stepH (fun p e s m args below meth c T locs cells slots C X hz N P hs => ?_) hr
  obtain ⟨cl, h1, h2, -⟩ := P.at hi
  obtain ⟨T', h', X', e', W, k⟩ := stI X C.1 C.2.1 rfl h1 (inb h2 h0 (List.getElem?_eq_getElem hlt)).1 (g := mkF m pc Ls (.int x :: .int j :: rf hB i :: st)) rfl rfl (hb C.2.2.1 hd)
  exact ⟨T', _, _, _, X', Fr.snoc X' N (Nat.le_add_right _ _), by rw [e']; exact P.wrA hi (rfl) W, hs, k⟩
theorem lastore {i : Nat} {vs : List Value} {j : Int32} {x : Int64} {jn : Nat} (hd : decode bytes pc = .ok (.lastore, 1)) (hi : H[i]? = some (arr .long vs)) (h0 : ¬ j < 0) (hjn : j.toNatClampNeg = jn) (hlt : jn < vs.length) (hH : H.set i (arr .long (vs.set jn (.long x))) = H') (hp : pc + 1 = pc') (hr : WP l Z hB y bytes ml ret R n1 Q sl H' pc' Ls st) : WP l Z hB y bytes ml ret R n1 Q sl H pc Ls (.long x :: .int j :: rf hB i :: st) := by
  subst hp; subst hH; subst hjn
  refine WP.stepH (fun p e s m args below meth c T locs cells slots C X hz N P hs => ?_) hr
  obtain ⟨cl, h1, h2, -⟩ := P.at hi
  obtain ⟨T', h', X', e', W, k⟩ := stJ X C.1 C.2.1 rfl h1 (inb h2 h0 (List.getElem?_eq_getElem hlt)).1 (g := mkF m pc Ls (.long x :: .int j :: rf hB i :: st)) rfl rfl (hb C.2.2.1 hd)
  exact ⟨T', _, _, _, X', Fr.snoc X' N (Nat.le_add_right _ _), by rw [e']; exact P.wrA hi (rfl) W, hs, k⟩
theorem castore {i : Nat} {vs : List Value} {j : Int32} {x : Int32} {jn : Nat} (hd : decode bytes pc = .ok (.castore, 1)) (hi : H[i]? = some (arr .char vs)) (h0 : ¬ j < 0) (hjn : j.toNatClampNeg = jn) (hlt : jn < vs.length) (hH : H.set i (arr .char (vs.set jn (.int (nar .char x)))) = H') (hp : pc + 1 = pc') (hr : WP l Z hB y bytes ml ret R n1 Q sl H' pc' Ls st) : WP l Z hB y bytes ml ret R n1 Q sl H pc Ls (.int x :: .int j :: rf hB i :: st) := by
  subst hp; subst hH; subst hjn
  refine WP.stepH (fun p e s m args below meth c T locs cells slots C X hz N P hs => ?_) hr
  obtain ⟨cl, h1, h2, -⟩ := P.at hi
  obtain ⟨T', h', X', e', W, k⟩ := stC X C.1 C.2.1 rfl h1 (inb h2 h0 (List.getElem?_eq_getElem hlt)).1 (g := mkF m pc Ls (.int x :: .int j :: rf hB i :: st)) rfl rfl (hb C.2.2.1 hd)
  exact ⟨T', _, _, _, X', Fr.snoc X' N (Nat.le_add_right _ _), by rw [e']; exact P.wrA hi (fits_nar_char x) W, hs, k⟩
theorem bastore {i : Nat} {vs : List Value} {j : Int32} {x : Int32} {jn : Nat} (hd : decode bytes pc = .ok (.bastore, 1)) (hi : H[i]? = some (arr .byte vs)) (h0 : ¬ j < 0) (hjn : j.toNatClampNeg = jn) (hlt : jn < vs.length) (hH : H.set i (arr .byte (vs.set jn (.int (nar .byte x)))) = H') (hp : pc + 1 = pc') (hr : WP l Z hB y bytes ml ret R n1 Q sl H' pc' Ls st) : WP l Z hB y bytes ml ret R n1 Q sl H pc Ls (.int x :: .int j :: rf hB i :: st) := by
  subst hp; subst hH; subst hjn
  refine WP.stepH (fun p e s m args below meth c T locs cells slots C X hz N P hs => ?_) hr
  obtain ⟨cl, h1, h2, -⟩ := P.at hi
  obtain ⟨T', h', X', e', W, k⟩ := stB X C.1 C.2.1 rfl h1 (inb h2 h0 (List.getElem?_eq_getElem hlt)).1 (g := mkF m pc Ls (.int x :: .int j :: rf hB i :: st)) rfl rfl (hb C.2.2.1 hd)
  exact ⟨T', _, _, _, X', Fr.snoc X' N (Nat.le_add_right _ _), by rw [e']; exact P.wrA hi (fits_nar_byte x) W, hs, k⟩
theorem zastore {i : Nat} {vs : List Value} {j : Int32} {x : Int32} {jn : Nat} (hd : decode bytes pc = .ok (.bastore, 1)) (hi : H[i]? = some (arr .boolean vs)) (h0 : ¬ j < 0) (hjn : j.toNatClampNeg = jn) (hlt : jn < vs.length) (hH : H.set i (arr .boolean (vs.set jn (.int (nar .boolean x)))) = H') (hp : pc + 1 = pc') (hr : WP l Z hB y bytes ml ret R n1 Q sl H' pc' Ls st) : WP l Z hB y bytes ml ret R n1 Q sl H pc Ls (.int x :: .int j :: rf hB i :: st) := by
  subst hp; subst hH; subst hjn
  refine WP.stepH (fun p e s m args below meth c T locs cells slots C X hz N P hs => ?_) hr
  obtain ⟨cl, h1, h2, -⟩ := P.at hi
  obtain ⟨T', h', X', e', W, k⟩ := stZ X C.1 C.2.1 rfl h1 (inb h2 h0 (List.getElem?_eq_getElem hlt)).1 (g := mkF m pc Ls (.int x :: .int j :: rf hB i :: st)) rfl rfl (hb C.2.2.1 hd)
  exact ⟨T', _, _, _, X', Fr.snoc X' N (Nat.le_add_right _ _), by rw [e']; exact P.wrA hi (fits_nar_bool x) W, hs, k⟩
theorem aastore {i : Nat} {t : FieldType} {vs : List Value} {j : Int32} {v : Value} {jn : Nat} (hd : decode bytes pc = .ok (.aastore, 1)) (hi : H[i]? = some (arr t vs)) (ht : t.isReference = true) (F : ∀ h, Hp Z hB h H → Sto Z h (hB.size + i) v) (hf : fits t v = true) (h0 : ¬ j < 0) (hjn : j.toNatClampNeg = jn) (hlt : jn < vs.length) (hH : H.set i (arr t (vs.set jn v)) = H') (hp : pc + 1 = pc') (hr : WP l Z hB y bytes ml ret R n1 Q sl H' pc' Ls st) : WP l Z hB y bytes ml ret R n1 Q sl H pc Ls (v :: .int j :: rf hB i :: st) := by
  subst hp; subst hH; subst hjn
  refine WP.stepH (fun p e s m args below meth c T locs cells slots C X hz N P hs => ?_) hr
  obtain ⟨cl, h1, h2, -⟩ := P.at hi
  obtain ⟨T', h', X', e', W, k⟩ := stR X C.1 C.2.1 rfl h1 (inb h2 h0 (List.getElem?_eq_getElem hlt)).1 ht (F _ P) (g := mkF m pc Ls (v :: .int j :: rf hB i :: st)) rfl rfl (hb C.2.2.1 hd)
  exact ⟨T', _, _, _, X', Fr.snoc X' N (Nat.le_add_right _ _), by rw [e']; exact P.wrA hi hf W, hs, k⟩
theorem ialoadI {i : Nat} {xs : List Int32} {j x : Int32} {jn : Nat} (hd : decode bytes pc = .ok (.iaload, 1)) (hi : H[i]? = some (ints xs)) (h0 : ¬ j < 0) (hjn : j.toNatClampNeg = jn) (hv : xs[jn]? = some x) (hp : pc + 1 = pc') (hr : WP l Z hB y bytes ml ret R n1 Q sl H pc' Ls (.int x :: st)) : WP l Z hB y bytes ml ret R n1 Q sl H pc Ls (.int j :: rf hB i :: st) :=
  iaload hd hi h0 hjn (by rw [List.getElem?_map, hv]; rfl) hp hr
theorem iastoreI {i : Nat} {xs : List Int32} {j x : Int32} {jn : Nat} (hd : decode bytes pc = .ok (.iastore, 1)) (hi : H[i]? = some (ints xs)) (h0 : ¬ j < 0) (hjn : j.toNatClampNeg = jn) (hlt : jn < xs.length) (hH : H.set i (ints (xs.set jn x)) = H') (hp : pc + 1 = pc') (hr : WP l Z hB y bytes ml ret R n1 Q sl H' pc' Ls st) : WP l Z hB y bytes ml ret R n1 Q sl H pc Ls (.int x :: .int j :: rf hB i :: st) :=
  iastore hd hi h0 hjn (by rw [List.length_map]; exact hlt) (by rw [← hH]; show H.set i (arr .int ((xs.map Value.int).set jn (Value.int x))) = H.set i (arr .int ((xs.set jn x).map Value.int)); rw [List.map_set]) hp hr
theorem ialoadG {i : Nat} {xs : List Int32} {j x : Int32} (hd : decode bytes pc = .ok (.iaload, 1)) (hi : H[i]? = some (ints xs)) (hg : gI xs j = some x) (hp : pc + 1 = pc') (hr : WP l Z hB y bytes ml ret R n1 Q sl H pc' Ls (.int x :: st)) : WP l Z hB y bytes ml ret R n1 Q sl H pc Ls (.int j :: rf hB i :: st) :=
  ialoadI hd hi (gI_at hg).1 rfl (gI_at hg).2 hp hr
theorem iastoreG {i : Nat} {xs xs' : List Int32} {j x : Int32} (hd : decode bytes pc = .ok (.iastore, 1)) (hi : H[i]? = some (ints xs)) (hg : sI xs j x = some xs') (hH : H.set i (ints xs') = H') (hp : pc + 1 = pc') (hr : WP l Z hB y bytes ml ret R n1 Q sl H' pc' Ls st) : WP l Z hB y bytes ml ret R n1 Q sl H pc Ls (.int x :: .int j :: rf hB i :: st) :=
  iastoreI hd hi (sI_at hg).1 rfl (sI_at hg).2.1 (by rw [← hH, (sI_at hg).2.2]) hp hr
theorem lastoreG {i : Nat} {xs xs' : List Int64} {j : Int32} {x : Int64} (hd : decode bytes pc = .ok (.lastore, 1)) (hi : H[i]? = some (longs xs)) (hg : sJ xs j x = some xs') (hH : H.set i (longs xs') = H') (hp : pc + 1 = pc') (hr : WP l Z hB y bytes ml ret R n1 Q sl H' pc' Ls st) : WP l Z hB y bytes ml ret R n1 Q sl H pc Ls (.long x :: .int j :: rf hB i :: st) :=
  lastore hd hi (sJ_at hg).1 rfl (by rw [List.length_map]; exact (sJ_at hg).2.1) (by rw [← hH, (sJ_at hg).2.2]; show H.set i (arr .long ((xs.map Value.long).set j.toNatClampNeg (Value.long x))) = H.set i (arr .long ((xs.set j.toNatClampNeg x).map Value.long)); rw [List.map_set]) hp hr
theorem stoO {h : Heap} (P : Hp Z hB h H) {i : Nat} {C : String} {vs : List Value} {b : Addr} (hi : H[i]? = some (arr (.object C) vs)) (I : Ins Z h b C true) : Sto Z h (hB.size + i) (.ref b) := by
  obtain ⟨cl, h1, -, -, -, h6, -⟩ := P.at hi
  exact Sto.of h1 (h6.1 _ rfl) I
theorem stoA {h : Heap} (P : Hp Z hB h H) {i : Nat} {ty : FieldType} {C : String} {vs : List Value} {b : Addr} (hi : H[i]? = some (arr (.array ty) vs)) (hC : (FieldType.array ty).toString = C) (I : Ins Z h b C true) : Sto Z h (hB.size + i) (.ref b) := by
  subst hC
  obtain ⟨cl, h1, -, -, -, h6, -⟩ := P.at hi
  obtain ⟨k, comp, o1, o2, o3⟩ := h6.2 _ rfl
  obtain ⟨cv, cT, i1, i2, i3⟩ := I
  cases o3.symm.trans i2
  simp only [Bool.and_eq_true, Bool.not_eq_true'] at i3
  obtain ⟨kc, q⟩ := Vm.classAt_of_findClass o3
  obtain ⟨kv, q2⟩ := Vm.classAt_of_assignable i3.2 ⟨kc, q⟩
  exact Or.inr ⟨cl, cv, k, kv, kc, _, _, b, h1.1, o1, o2, q, rfl, i1, i3.1, q2, i3.2⟩
/-- System.arraycopy into an array made since -/
theorem arraycopy {a : Addr} {i index : Nat} {t t' : FieldType} {vs vd us : List Value} {z sp dp nn : Int32} {spn dpn n : Nat} {dv : Value} (hd : decode bytes pc = .ok (.invokestatic index, 3)) (w1 : (Jvm.Cond.methodLink y.cls index Jvm.Stand.acN).before a0 Z = true) (w2 : (Jvm.Cond.native Jvm.Stand.acN).before a0 Z = true) (w3 : (Jvm.Cond.static Jvm.Stand.acN).before a0 Z = true) (w4 : (Jvm.Cond.initialized "java/lang/System").before a0 Z = true)
    (A : ∀ h, Hp Z hB h H → ∃ k, Arv Z h a k t z vs dv) (hi : H[i]? = some (arr t' vd)) (hty : (t = t' ∧ refKind t = false) ∨ (refKind t = true ∧ refKind t' = true ∧ ∀ h, Hp Z hB h H → StoL Z h (hB.size + i) us)) (h1 : ¬ sp < 0) (h2 : ¬ dp < 0) (h3 : ¬ nn < 0) (e1 : sp.toNatClampNeg = spn) (e2 : dp.toNatClampNeg = dpn) (e3 : nn.toNatClampNeg = n) (h4 : spn + n ≤ z.toNatClampNeg) (h5 : dpn + n ≤ vd.length) (hl : vd.length < 2 ^ 31)
    (hus : us = (List.range n).map fun j => vs.getD (spn + j) dv) (hml : Ls.size = ml) (hf : 1 ≤ R.frames) (hlo : (st.map fun v => v.category).sum + (nativeFrameWords "java/lang/System" "arraycopy" 5 + 11) ≤ R.locals) (hH : H.set i (arr t' (vd.take dpn ++ us ++ vd.drop (dpn + n))) = H') (hp : pc + 3 = pc') (hr : WP l Z hB y bytes ml ret R n1 Q sl H' pc' Ls st) : WP l Z hB y bytes ml ret R n1 Q sl H pc Ls (.int nn :: .int dp :: rf hB i :: .int sp :: .ref a :: st) := by
  subst hp; subst hH; subst e1; subst e2; subst e3
  refine WP.stepH (fun p e s m args below meth c T locs cells slots C X hz N P hs => ?_) hr
  obtain ⟨k, A⟩ := A _ P
  obtain ⟨k', B⟩ := P.arv hi hl .null
  obtain ⟨T', h', L, X', e', N', K, B', stp⟩ := cpA X C.1 C.2.1 C.2.2.2.2.1 w1 w2 w3 w4 rfl A B (hty.imp id fun q => ⟨q.1, q.2.1, q.2.2 _ P⟩) h1 h2 h3 h4 (by rw [(toNat_len hl).1]; exact h5) hus h5 N (Nat.le_add_right _ _) (g := mkF m pc Ls (.int nn :: .int dp :: rf hB i :: .int sp :: .ref a :: st)) rfl (hml.trans C.2.2.2.1.symm) rfl (hb C.2.2.1 hd) hf (W := (st.map fun v => v.category).sum) (by show 2 * 0 + _ ≤ _; omega) hlo
  subst e'
  have hle := X'.heapSize
  have ul : us.length = nn.toNatClampNeg := by rw [hus]; simp
  exact ⟨T', L, cells, slots, X', N', P.copied hi (by omega) K hl (by simp only [List.length_append, List.length_take, List.length_drop, ul]; omega) B', hs, stp⟩
theorem ldcInt {index : Nat} {x : Int32} (hd : decode bytes pc = .ok (.ldc index, 2)) (w : (Jvm.Cond.constant y.cls index x).before a0 Z = true) (hp : pc + 2 = pc') (hr : WP l Z hB y bytes ml ret R n1 Q sl H pc' Ls (.int x :: st)) : WP l Z hB y bytes ml ret R n1 Q sl H pc Ls st := by
  subst hp
  exact WP.step (fun p e s m args below meth c T locs cells slots C X P tgt h => X.ldcInt C.1 C.2.2.2.2.1 (mvT C.2.1 w) (g := mkF m pc Ls st) rfl (hb C.2.2.1 hd) _ h) hr
theorem ldc2Long {index : Nat} {x : Int64} (hd : decode bytes pc = .ok (.ldc2_w index, 3)) (w : (Jvm.Cond.constantLong y.cls index x).before a0 Z = true) (hp : pc + 3 = pc') (hr : WP l Z hB y bytes ml ret R n1 Q sl H pc' Ls (.long x :: st)) : WP l Z hB y bytes ml ret R n1 Q sl H pc Ls st := by
  subst hp
  exact WP.step (fun p e s m args below meth c T locs cells slots C X P tgt h => X.ldc2Long C.1 C.2.2.2.2.1 (mvT C.2.1 w) (g := mkF m pc Ls st) rfl (hb C.2.2.1 hd) _ h) hr
theorem getCls {a mr : Addr} {C : String} {index : Nat} (hd : decode bytes pc = .ok (.invokevirtual index, 3)) (w1 : (Jvm.Cond.methodLink y.cls index Jvm.Stand.gcN).before a0 Z = true) (w2 : (Jvm.Cond.declares Jvm.Stand.gcN).before a0 Z = true) (hnf : ∀ s : State, Z.Warmed39 s.vm → NotFace s Jvm.Stand.gcN) (w4 : (Jvm.Cond.selects C Jvm.Stand.gcN Jvm.Stand.gcN).before a0 Z = true) (w5 : (Jvm.Cond.instanceMethod Jvm.Stand.gcN).before a0 Z = true) (w6 : (Jvm.Cond.native Jvm.Stand.gcN).before a0 Z = true) (E : ∀ h, Hp Z hB h H → Exa Z h a C) (M : Mir Z C mr) (hml : Ls.size = ml) (hf : 1 ≤ R.frames) (hlo : (st.map fun v => v.category).sum + (nativeFrameWords "java/lang/Object" "getClass" 1 + 11) ≤ R.locals) (hp : pc + 3 = pc') (hr : WP l Z hB y bytes ml ret R n1 Q sl H pc' Ls (.ref mr :: st)) : WP l Z hB y bytes ml ret R n1 Q sl H pc Ls (.ref a :: st) := by
  subst hp
  refine WP.stepT (fun p e s m args below meth c T locs cells slots C' X P => ?_) hr
  obtain ⟨cB, kB, i1, i2, i3⟩ := isOf (s := s) (T := T) C'.2.1 rfl (E _ P)
  obtain ⟨cc, kc, m1, m2, m3, -⟩ := M
  rw [C'.2.1.alike.findClass] at i1
  cases i1.symm.trans m1
  obtain ⟨k', q, ek⟩ := C'.2.1.alike.2.2 _ _ m2
  obtain ⟨vm', X', st⟩ := X.getClassOf C'.1 C'.2.2.2.2.1 (mvT C'.2.1 w1) (mvT C'.2.1 w2) (hnf s C'.2.1) (mvT C'.2.1 w4) (mvT C'.2.1 w5) (mvT C'.2.1 w6) (by rw [C'.2.1.alike.findClass]; exact m1) i3 q (by rw [ek]; exact m3) (g := mkF m pc Ls (.ref a :: st)) rfl (hml.trans C'.2.2.2.1.symm) rfl (hb C'.2.2.1 hd) hf (by show 2 * 0 + _ + _ ≤ _; omega)
  exact ⟨_, X', rfl, st⟩
theorem ldcMir {mr : Addr} {C : String} {index : Nat} (hd : decode bytes pc = .ok (.ldc index, 2)) (w : (Jvm.Cond.classLink y.cls index C).before a0 Z = true) (M : Mir Z C mr) (hp : pc + 2 = pc') (hr : WP l Z hB y bytes ml ret R n1 Q sl H pc' Ls (.ref mr :: st)) : WP l Z hB y bytes ml ret R n1 Q sl H pc Ls st := by
  subst hp
  refine WP.stepT (fun p e s m args below meth c T locs cells slots C' X P => ?_) hr
  obtain ⟨cc, kc, m1, m2, m3, -⟩ := M
  obtain ⟨k', q, ek⟩ := C'.2.1.alike.2.2 _ _ m2
  have f1 : s.vm.findClass C = some cc := by rw [C'.2.1.alike.findClass]; exact m1
  have hm : k'.mirror = some mr := by rw [ek]; exact m3
  have hev : (Term.mirror C).eval args s none [] s = some (.ref mr) := by simp [Term.eval, f1, q, hm]
  obtain ⟨vm', X', st⟩ := X.ldcMirror C'.1 C'.2.2.2.2.1 (mvT C'.2.1 w) hev (g := mkF m pc Ls st) rfl (hb C'.2.2.1 hd)
  exact ⟨_, X', rfl, st⟩
theorem castTo {K : String} {index : Nat} {a : Addr} (hd : decode bytes pc = .ok (.checkcast index, 3)) (w : (Jvm.Cond.classLink y.cls index K).before a0 Z = true) (F : ∀ h, Hp Z hB h H → Ins Z h a K true) (hp : pc + 3 = pc') (hr : WP l Z hB y bytes ml ret R n1 Q sl H pc' Ls (.ref a :: st)) : WP l Z hB y bytes ml ret R n1 Q sl H pc Ls (.ref a :: st) := by
  subst hp
  exact WP.stepT (fun p e s m args below meth c T locs cells slots C X P => castY X C.1 C.2.1 C.2.2.2.2.1 w rfl (F _ P) (g := mkF m pc Ls (.ref a :: st)) rfl rfl (hb C.2.2.1 hd)) hr
theorem instYes {K : String} {index : Nat} {a : Addr} (hd : decode bytes pc = .ok (.instanceof index, 3)) (w : (Jvm.Cond.classLink y.cls index K).before a0 Z = true) (F : ∀ h, Hp Z hB h H → Ins Z h a K true) (hp : pc + 3 = pc') (hr : WP l Z hB y bytes ml ret R n1 Q sl H pc' Ls (.int 1 :: st)) : WP l Z hB y bytes ml ret R n1 Q sl H pc Ls (.ref a :: st) := by
  subst hp
  exact WP.stepT (fun p e s m args below meth c T locs cells slots C X P => instY X C.1 C.2.1 C.2.2.2.2.1 w rfl (F _ P) (g := mkF m pc Ls (.ref a :: st)) rfl rfl (hb C.2.2.1 hd)) hr
theorem instNot {K C : String} {index : Nat} {a : Addr} (hd : decode bytes pc = .ok (.instanceof index, 3)) (w : (Jvm.Cond.classLink y.cls index K).before a0 Z = true) (E : ∀ h, Hp Z hB h H → Exa Z h a C) (F : ∃ c t, Z.vm.findClass C = some c ∧ Z.vm.findClass K = some t ∧ Z.vm.assignable c t = false) (hp : pc + 3 = pc') (hr : WP l Z hB y bytes ml ret R n1 Q sl H pc' Ls (.int 0 :: st)) : WP l Z hB y bytes ml ret R n1 Q sl H pc Ls (.ref a :: st) := by
  subst hp
  exact WP.stepT (fun p e s m args below meth c T locs cells slots C X P => instNo X C.1 C.2.1 C.2.2.2.2.1 w rfl (E _ P) F (g := mkF m pc Ls (.ref a :: st)) rfl rfl (hb C.2.2.1 hd)) hr
theorem instNull {index : Nat} (hd : decode bytes pc = .ok (.instanceof index, 3)) (hp : pc + 3 = pc') (hr : WP l Z hB y bytes ml ret R n1 Q sl H pc' Ls (.int 0 :: st)) : WP l Z hB y bytes ml ret R n1 Q sl H pc Ls (.null :: st) := by
  subst hp
  exact WP.step (fun p e s m args below meth c T locs cells slots C X P tgt h => X.instanceofNull C.1 (g := mkF m pc Ls (.null :: st)) rfl rfl (hb C.2.2.1 hd) _ h) hr
theorem castNull {index : Nat} (hd : decode bytes pc = .ok (.checkcast index, 3)) (hp : pc + 3 = pc') (hr : WP l Z hB y bytes ml ret R n1 Q sl H pc' Ls (.null :: st)) : WP l Z hB y bytes ml ret R n1 Q sl H pc Ls (.null :: st) := by
  subst hp
  exact WP.step (fun p e s m args below meth c T locs cells slots C X P tgt h => X.checkcastNull C.1 (g := mkF m pc Ls (.null :: st)) rfl rfl (hb C.2.2.1 hd) _ h) hr
/-! returns -/
theorem retV {w : Value} {t : FieldType} {i : Instr} (hd : decode bytes pc = .ok (i, 1)) (hret : ret = some t) (hn : narrow t w = w)
    (hi : (i = .ireturn ∧ (t = .int ∨ t = .boolean ∨ t = .byte ∨ t = .char ∨ t = .short) ∧ ∃ z, w = .int z) ∨ (i = .lreturn ∧ t = .long ∧ ∃ z, w = .long z) ∨ (i = .dreturn ∧ t = .double ∧ ∃ z, w = .double z) ∨ (i = .freturn ∧ t = .float ∧ ∃ z, w = .float z) ∨ (i = .areturn ∧ t.isReference = true ∧ w.isRef = true))
    (hc : H.length ≤ n1 + R.cells) (hs : sl ≤ R.slots) (hQ : Q (some w) H) : WP l Z hB y bytes ml ret R n1 Q sl H pc Ls (w :: st) := by
  intro p e s m args below meth c C T locs cells slots X N P hs'
  have hr := C.2.2.2.2.2.2.1.trans hret
  have hsz := C.2.2.2.2.2.2.2.2
  have hp1 := P.1
  obtain ⟨fs, hl, hrun, hended, hW, hsame⟩ := (exact' X (k := R.cells) (by omega)).leave (v := some w) (fun h => by rw [hr] at h; cases h) C.2.2.2.2.2.2.2.1
  exact ⟨_, _, retOut X C.1 hr hn hi (hb C.2.2.1 hd) hl, hrun, hended, some w, locs, H, rfl, hQ, P, N, ⟨_, rfl⟩, hW, hsame.mono (Nat.le_refl _) (Nat.le_trans hs' hs)⟩
theorem iret {x : Int32} {t : FieldType} (hd : decode bytes pc = .ok (.ireturn, 1)) (hret : ret = some t) (ht : t = .int ∨ t = .boolean ∨ t = .byte ∨ t = .char ∨ t = .short) (hn : narrow t (.int x) = .int x) (hc : H.length ≤ n1 + R.cells) (hs : sl ≤ R.slots) (hQ : Q (some (.int x)) H) : WP l Z hB y bytes ml ret R n1 Q sl H pc Ls (.int x :: st) :=
  retV hd hret hn (Or.inl ⟨rfl, ht, _, rfl⟩) hc hs hQ
theorem iretN {x : Int32} {t : FieldType} (hd : decode bytes pc = .ok (.ireturn, 1)) (hret : ret = some t) (ht : t = .boolean ∨ t = .byte ∨ t = .char ∨ t = .short) (hc : H.length ≤ n1 + R.cells) (hs : sl ≤ R.slots) (hQ : Q (some (.int (nar t x))) H) : WP l Z hB y bytes ml ret R n1 Q sl H pc Ls (.int x :: st) := by
  intro p e s m args below meth c C T locs cells slots X N P hs'
  have hr := C.2.2.2.2.2.2.1.trans hret
  have hsz := C.2.2.2.2.2.2.2.2
  have hp1 := P.1
  obtain ⟨fs, hl, hrun, hended, hW, hsame⟩ := (exact' X (k := R.cells) (by omega)).leave (v := some (.int (nar t x))) (fun h => by rw [hr] at h; cases h) C.2.2.2.2.2.2.2.1
  exact ⟨_, _, retN X C.1 hr ht (hb C.2.2.1 hd) hl, hrun, hended, _, locs, H, rfl, hQ, P, N, ⟨_, rfl⟩, hW, hsame.mono (Nat.le_refl _) (Nat.le_trans hs' hs)⟩
theorem lret {x : Int64} (hd : decode bytes pc = .ok (.lreturn, 1)) (hret : ret = some .long) (hc : H.length ≤ n1 + R.cells) (hs : sl ≤ R.slots) (hQ : Q (some (.long x)) H) : WP l Z hB y bytes ml ret R n1 Q sl H pc Ls (.long x :: st) :=
  retV hd hret rfl (Or.inr (Or.inl ⟨rfl, rfl, _, rfl⟩)) hc hs hQ
theorem aret {w : Value} {t : FieldType} (hd : decode bytes pc = .ok (.areturn, 1)) (hret : ret = some t) (ht : t.isReference = true) (hw : w.isRef = true) (hc : H.length ≤ n1 + R.cells) (hs : sl ≤ R.slots) (hQ : Q (some w) H) : WP l Z hB y bytes ml ret R n1 Q sl H pc Ls (w :: st) :=
  retV hd hret (by rcases ref_cases hw with rfl | ⟨a, rfl⟩ <;> cases t <;> first | rfl | cases ht) (Or.inr (Or.inr (Or.inr (Or.inr ⟨rfl, ht, hw⟩)))) hc hs hQ
theorem vret (hd : decode bytes pc = .ok (.return_, 1)) (hret : ret = none) (hc : H.length ≤ n1 + R.cells) (hs : sl ≤ R.slots) (hQ : Q none H) : WP l Z hB y bytes ml ret R n1 Q sl H pc Ls [] := by
  intro p e s m args below meth c C T locs cells slots X N P hs'
  have hr := C.2.2.2.2.2.2.1.trans hret
  have hsz := C.2.2.2.2.2.2.2.2
  have hp1 := P.1
  obtain ⟨fs, hl, hrun, hended, hW, hsame⟩ := (exact' X (k := R.cells) (by omega)).leave (v := none) (fun _ => rfl) C.2.2.2.2.2.2.2.1
  exact ⟨_, _, X.returnOut C.1 hr (hb C.2.2.1 hd) hl, hrun, hended, none, locs, H, rfl, hQ, P, N, ⟨_, rfl⟩, hW, hsame.mono (Nat.le_refl _) (Nat.le_trans hs' hs)⟩
/-! calls -/
section Calls
variable {y' z' : MethodName} {bytes' : ByteArray} {ml' : Nat} {ret' : Option FieldType} {rm : Room} {Q' : Option Value → List Rec → Prop} {index : Nat} {argsL st0 : List Value}
theorem mkBack {p : Program} {e : Env} {s : State} {args : Array Value} {below : List Frame} {h : Heap} {len W : Nat} {as' : Array Value} (hC : Ctr l Z hB y' bytes' ml' ret' [] rm as' H Q') (P : Hp Z hB h H) (hZ : Z.Warmed39 s.vm) (w4 : (Jvm.Cond.code y' bytes' ml' ret').before a0 Z = true) (w3 : (Jvm.Cond.initialized y'.cls).before a0 Z = true) (hfr : rm.frames + 1 ≤ R.frames) (hlo : W + (ml' + 11) + rm.locals ≤ R.locals) :
    Back l R p e below s args y' len W (fun A a => a = as' ∧ A.U.heap = h ∧ A.cells + rm.cells ≤ R.cells ∧ A.slots + rm.slots ≤ R.slots)
      (fun A _ v B => ∃ L, (∃ H', Q' v H' ∧ Hp Z hB B.U.heap H' ∧ Fr hB.size L) ∧ B.locs = A.locs ++ L ∧ B.cells = A.cells + rm.cells ∧ B.slots = A.slots + rm.slots) :=
  backOf (Q := fun v h L => ∃ H', Q' v H' ∧ Hp Z hB h H' ∧ Fr hB.size L) (MetFree.mono hC (fun a s h => ⟨h.1, h.2.1, by rw [h.2.2]; exact P⟩) (fun _ _ _ _ _ h => h) (fun a s o s' _ ⟨v, L, H', h1, h2, h3, h4, h5⟩ => ⟨v, L, h1, ⟨H', h2, h3, h4⟩, h5⟩)) hZ w4 w3 hfr hlo
theorem callS (hd : decode bytes pc = .ok (.invokestatic index, 3)) (w1 : (Jvm.Cond.methodLink y.cls index y').before a0 Z = true) (w2 : (Jvm.Cond.static y').before a0 Z = true) (w3 : (Jvm.Cond.initialized y'.cls).before a0 Z = true) (w4 : (Jvm.Cond.code y' bytes' ml' ret').before a0 Z = true) (hy : y'.cls ≠ "java/lang/invoke/MethodHandle" ∧ y'.cls ≠ "java/lang/invoke/VarHandle") (hlen : ∀ sig, parseMethodDescriptor y'.desc = some sig → argsL.length = sig.parameters.length)
    (hC : Ctr l Z hB y' bytes' ml' ret' [] rm argsL.toArray H Q') (hml : Ls.size = ml) (hfr : rm.frames + 1 ≤ R.frames) (hlo : (st.map fun v => v.category).sum + (ml' + 11) + rm.locals ≤ R.locals) (hcl : H.length + rm.cells ≤ n1 + R.cells) (hsl : sl + rm.slots ≤ R.slots) (hst : argsL.reverse ++ st = st0) (hp : pc + 3 = pc')
    (hr : ∀ v H', Q' v H' → WP l Z hB y bytes ml ret R n1 Q (sl + rm.slots) H' pc' Ls (v.toList ++ st)) : WP l Z hB y bytes ml ret R n1 Q sl H pc Ls st0 := by
  subst hp; subst hst
  intro p e s m args below meth c C T locs cells slots X N P hs
  have hsz := C.2.2.2.2.2.2.2.2
  have hp1 := P.1
  have hz : T.heap.size = s.heap.size + (T.heap.size - s.heap.size) := by have := X.same.2.1; have : s.heap.size ≤ T.heap.size := this; omega
  obtain ⟨v, vm1, ⟨U', ls, cc, ss⟩, -, X', ⟨L, hq, e1, e2, e3⟩, stp⟩ := Jvm.LawKit.callS (exact' X (Nat.le_of_eq hz)) C.1 (y := y') C.2.2.2.2.1 (mvT C.2.1 w1) (mvT C.2.1 w2) (mvT C.2.1 w3) (mvT C.2.1 w4) hy (mkBack (W := (st.map fun v => v.category).sum) hC P C.2.1 w4 w3 hfr hlo) (g := mkF m pc Ls (argsL.reverse ++ st)) rfl (hml.trans C.2.2.2.1.symm) (argsL := argsL) (rest := st) hlen rfl (by show 2 * 0 + _ ≤ _; omega) (hb C.2.2.1 hd) (fun _ _ => ⟨rfl, rfl, by show T.heap.size - s.heap.size + _ ≤ _; omega, by show slots + _ ≤ _; omega⟩)
  dsimp only [Pt.U, Pt.locs, Pt.cells, Pt.slots] at X' e1 e2 e3 stp hq
  subst e1 e2 e3
  obtain ⟨H', q1, q2, q3⟩ := hq
  obtain ⟨U, o, h1, h2⟩ := hr v H' q1 p e s m args below meth c C U' _ _ _ X' (Fr.app N q3) q2 (by omega)
  exact ⟨U, o, stp U h1, h2⟩
theorem callI {a : Addr} (hd : decode bytes pc = .ok (.invokespecial index, 3)) (hy1 : y'.name = "<init>") (w1 : (Jvm.Cond.methodLink y.cls index y').before a0 Z = true) (w2 : (Jvm.Cond.instanceMethod y').before a0 Z = true) (w3 : (Jvm.Cond.initialized y'.cls).before a0 Z = true) (w4 : (Jvm.Cond.code y' bytes' ml' none).before a0 Z = true) (hy : y'.cls ≠ "java/lang/invoke/MethodHandle" ∧ y'.cls ≠ "java/lang/invoke/VarHandle") (hlen : ∀ sig, parseMethodDescriptor y'.desc = some sig → argsL.length = sig.parameters.length)
    (hC : Ctr l Z hB y' bytes' ml' none [] rm (.ref a :: argsL).toArray H Q') (hml : Ls.size = ml) (hfr : rm.frames + 1 ≤ R.frames) (hlo : (st.map fun v => v.category).sum + (ml' + 11) + rm.locals ≤ R.locals) (hcl : H.length + rm.cells ≤ n1 + R.cells) (hsl : sl + rm.slots ≤ R.slots) (hst : argsL.reverse ++ .ref a :: st = st0) (hp : pc + 3 = pc')
    (hr : ∀ v H', Q' v H' → WP l Z hB y bytes ml ret R n1 Q (sl + rm.slots) H' pc' Ls (v.toList ++ st)) : WP l Z hB y bytes ml ret R n1 Q sl H pc Ls st0 := by
  subst hp; subst hst
  intro p e s m args below meth c C T locs cells slots X N P hs
  have hsz := C.2.2.2.2.2.2.2.2
  have hp1 := P.1
  have hz : T.heap.size = s.heap.size + (T.heap.size - s.heap.size) := by have := X.same.2.1; have : s.heap.size ≤ T.heap.size := this; omega
  obtain ⟨v, vm1, ⟨U', ls, cc, ss⟩, -, X', ⟨L, hq, e1, e2, e3⟩, stp⟩ := (exact' X (Nat.le_of_eq hz)).specialBack C.1 (y := y') hy1 C.2.2.2.2.1 (mvT C.2.1 w1) (mvT C.2.1 w2) (mvT C.2.1 w4) hy (mkBack (W := (st.map fun v => v.category).sum) hC P C.2.1 w4 w3 hfr hlo) (g := mkF m pc Ls (argsL.reverse ++ .ref a :: st)) rfl (hml.trans C.2.2.2.1.symm) (Steps.refl _) (a := a) (argsL := argsL) (rest := st) hlen rfl (by show 2 * 0 + _ ≤ _; omega) (hb C.2.2.1 hd) (fun _ _ => ⟨rfl, rfl, by show T.heap.size - s.heap.size + _ ≤ _; omega, by show slots + _ ≤ _; omega⟩)
  dsimp only [Pt.U, Pt.locs, Pt.cells, Pt.slots] at X' e1 e2 e3 stp hq
  subst e1 e2 e3
  obtain ⟨H', q1, q2, q3⟩ := hq
  obtain ⟨U, o, h1, h2⟩ := hr v H' q1 p e s m args below meth c C U' _ _ _ X' (Fr.app N q3) q2 (by omega)
  exact ⟨U, o, stp.trans h1, h2⟩
theorem nfSel {C : String} (w : (Jvm.Cond.selects C y' y').before a0 Z = true) : ∀ s : State, Z.Warmed39 s.vm → NotFace s y' := fun s hZ => notFace_of_selects (args := #[]) (mvT hZ w)
theorem callV {a : Addr} {C : String} (hd : decode bytes pc = .ok (.invokevirtual index, 3)) (w1 : (Jvm.Cond.methodLink y.cls index y').before a0 Z = true) (w2 : (Jvm.Cond.declares y').before a0 Z = true) (hnf : ∀ s : State, Z.Warmed39 s.vm → NotFace s y') (w5 : (Jvm.Cond.selects C y' z').before a0 Z = true) (w6 : (Jvm.Cond.instanceMethod z').before a0 Z = true) (w3 : (Jvm.Cond.initialized z'.cls).before a0 Z = true) (w4 : (Jvm.Cond.code z' bytes' ml' ret').before a0 Z = true) (hy : y'.cls ≠ "java/lang/invoke/MethodHandle" ∧ y'.cls ≠ "java/lang/invoke/VarHandle") (hlen : ∀ sig, parseMethodDescriptor y'.desc = some sig → argsL.length = sig.parameters.length)
    (E : ∀ h, Hp Z hB h H → Exa Z h a C) (hC : Ctr l Z hB z' bytes' ml' ret' [] rm (.ref a :: argsL).toArray H Q') (hml : Ls.size = ml) (hfr : rm.frames + 1 ≤ R.frames) (hlo : (st.map fun v => v.category).sum + (ml' + 11) + rm.locals ≤ R.locals) (hcl : H.length + rm.cells ≤ n1 + R.cells) (hsl : sl + rm.slots ≤ R.slots) (hst : argsL.reverse ++ .ref a :: st = st0) (hp : pc + 3 = pc')
    (hr : ∀ v H', Q' v H' → WP l Z hB y bytes ml ret R n1 Q (sl + rm.slots) H' pc' Ls (v.toList ++ st)) : WP l Z hB y bytes ml ret R n1 Q sl H pc Ls st0 := by
  subst hp; subst hst
  intro p e s m args below meth c C' T locs cells slots X N P hs
  have hsz := C'.2.2.2.2.2.2.2.2
  have hp1 := P.1
  have hz : T.heap.size = s.heap.size + (T.heap.size - s.heap.size) := by have := X.same.2.1; have : s.heap.size ≤ T.heap.size := this; omega
  obtain ⟨cq, kq, qa, qb, qc⟩ := isOf (s := s) (T := T) C'.2.1 rfl (E _ P)
  obtain ⟨v, vm1, ⟨U', ls, cc, ss⟩, -, X', ⟨L, hq, e1, e2, e3⟩, stp⟩ := (exact' X (Nat.le_of_eq hz)).virtualBack C'.1 (y := y') (z := z') C'.2.2.2.2.1 (mvT C'.2.1 w1) (mvT C'.2.1 w2) (hnf s C'.2.1) (mvT C'.2.1 w5) (mvT C'.2.1 w6) hy (mkBack (W := (st.map fun v => v.category).sum) hC P C'.2.1 w4 w3 hfr hlo) qa qc (g := mkF m pc Ls (argsL.reverse ++ .ref a :: st)) rfl (hml.trans C'.2.2.2.1.symm) (Steps.refl _) (argsL := argsL) (rest := st) hlen rfl (by show 2 * 0 + _ ≤ _; omega) (hb C'.2.2.1 hd) (fun _ _ => ⟨rfl, rfl, by show T.heap.size - s.heap.size + _ ≤ _; omega, by show slots + _ ≤ _; omega⟩)
  dsimp only [Pt.U, Pt.locs, Pt.cells, Pt.slots] at X' e1 e2 e3 stp hq
  subst e1 e2 e3
  obtain ⟨H', q1, q2, q3⟩ := hq
  obtain ⟨U, o, h1, h2⟩ := hr v H' q1 p e s m args below meth c C' U' _ _ _ X' (Fr.app N q3) q2 (by omega)
  exact ⟨U, o, stp.trans h1, h2⟩
/-- through a subclass's name: the class 'owner' declares it -/
theorem callU {a : Addr} {C owner : String} (hd : decode bytes pc = .ok (.invokevirtual index, 3)) (w1 : (Jvm.Cond.methodLink y.cls index y').before a0 Z = true) (w7 : (Jvm.Cond.sameMethod y'.cls owner y'.name y'.desc).before a0 Z = true) (w2 : (Jvm.Cond.declares ⟨owner, y'.name, y'.desc⟩).before a0 Z = true) (w5 : (Jvm.Cond.selects C y' z').before a0 Z = true) (w6 : (Jvm.Cond.instanceMethod z').before a0 Z = true) (w3 : (Jvm.Cond.initialized z'.cls).before a0 Z = true) (w4 : (Jvm.Cond.code z' bytes' ml' ret').before a0 Z = true) (hy : owner ≠ "java/lang/invoke/MethodHandle" ∧ owner ≠ "java/lang/invoke/VarHandle") (hlen : ∀ sig, parseMethodDescriptor y'.desc = some sig → argsL.length = sig.parameters.length)
    (E : ∀ h, Hp Z hB h H → Exa Z h a C) (hC : Ctr l Z hB z' bytes' ml' ret' [] rm (.ref a :: argsL).toArray H Q') (hml : Ls.size = ml) (hfr : rm.frames + 1 ≤ R.frames) (hlo : (st.map fun v => v.category).sum + (ml' + 11) + rm.locals ≤ R.locals) (hcl : H.length + rm.cells ≤ n1 + R.cells) (hsl : sl + rm.slots ≤ R.slots) (hst : argsL.reverse ++ .ref a :: st = st0) (hp : pc + 3 = pc')
    (hr : ∀ v H', Q' v H' → WP l Z hB y bytes ml ret R n1 Q (sl + rm.slots) H' pc' Ls (v.toList ++ st)) : WP l Z hB y bytes ml ret R n1 Q sl H pc Ls st0 := by
  subst hp; subst hst
  intro p e s m args below meth c C' T locs cells slots X N P hs
  have hsz := C'.2.2.2.2.2.2.2.2
  have hp1 := P.1
  have hz : T.heap.size = s.heap.size + (T.heap.size - s.heap.size) := by have := X.same.2.1; have : s.heap.size ≤ T.heap.size := this; omega
  obtain ⟨cq, kq, qa, qb, qc⟩ := isOf (s := s) (T := T) C'.2.1 rfl (E _ P)
  obtain ⟨v, vm1, ⟨U', ls, cc, ss⟩, -, X', ⟨L, hq, e1, e2, e3⟩, stp⟩ := (exact' X (Nat.le_of_eq hz)).virtualBackUp C'.1 (x := y') (y := z') C'.2.2.2.2.1 (mvT C'.2.1 w1) (mvT C'.2.1 w7) (mvT C'.2.1 w2) hy (mvT C'.2.1 w5) (mvT C'.2.1 w6) (mkBack (W := (st.map fun v => v.category).sum) hC P C'.2.1 w4 w3 hfr hlo) qa qc (g := mkF m pc Ls (argsL.reverse ++ .ref a :: st)) rfl (hml.trans C'.2.2.2.1.symm) (Steps.refl _) (argsL := argsL) (rest := st) hlen rfl (by show 2 * 0 + _ ≤ _; omega) (hb C'.2.2.1 hd) (fun _ _ => ⟨rfl, rfl, by show T.heap.size - s.heap.size + _ ≤ _; omega, by show slots + _ ≤ _; omega⟩)
  dsimp only [Pt.U, Pt.locs, Pt.cells, Pt.slots] at X' e1 e2 e3 stp hq
  subst e1 e2 e3
  obtain ⟨H', q1, q2, q3⟩ := hq
  obtain ⟨U, o, h1, h2⟩ := hr v H' q1 p e s m args below meth c C' U' _ _ _ X' (Fr.app N q3) q2 (by omega)
  exact ⟨U, o, stp.trans h1, h2⟩
/-- a private method, by invokevirtual -/
theorem callP {a : Addr} {C : String} (hd : decode bytes pc = .ok (.invokevirtual index, 3)) (w1 : (Jvm.Cond.methodLink y.cls index y').before a0 Z = true) (w6 : (Jvm.Cond.instanceMethod y').before a0 Z = true) (w5 : (Jvm.Cond.selects y'.cls y' y').before a0 Z = true) (w8 : (Jvm.Cond.privateMethod y').before a0 Z = true) (w3 : (Jvm.Cond.initialized y'.cls).before a0 Z = true) (w4 : (Jvm.Cond.code y' bytes' ml' ret').before a0 Z = true) (hy : y'.cls ≠ "java/lang/invoke/MethodHandle" ∧ y'.cls ≠ "java/lang/invoke/VarHandle") (hlen : ∀ sig, parseMethodDescriptor y'.desc = some sig → argsL.length = sig.parameters.length)
    (E : ∀ h, Hp Z hB h H → Exa Z h a C) (hC : Ctr l Z hB y' bytes' ml' ret' [] rm (.ref a :: argsL).toArray H Q') (hml : Ls.size = ml) (hfr : rm.frames + 1 ≤ R.frames) (hlo : (st.map fun v => v.category).sum + (ml' + 11) + rm.locals ≤ R.locals) (hcl : H.length + rm.cells ≤ n1 + R.cells) (hsl : sl + rm.slots ≤ R.slots) (hst : argsL.reverse ++ .ref a :: st = st0) (hp : pc + 3 = pc')
    (hr : ∀ v H', Q' v H' → WP l Z hB y bytes ml ret R n1 Q (sl + rm.slots) H' pc' Ls (v.toList ++ st)) : WP l Z hB y bytes ml ret R n1 Q sl H pc Ls st0 := by
  subst hp; subst hst
  intro p e s m args below meth c C' T locs cells slots X N P hs
  have hsz := C'.2.2.2.2.2.2.2.2
  have hp1 := P.1
  have hz : T.heap.size = s.heap.size + (T.heap.size - s.heap.size) := by have := X.same.2.1; have : s.heap.size ≤ T.heap.size := this; omega
  obtain ⟨cq, qa, qb⟩ := (E _ P).cell
  obtain ⟨v, vm1, ⟨U', ls, cc, ss⟩, -, X', ⟨L, hq, e1, e2, e3⟩, stp⟩ := (exact' X (Nat.le_of_eq hz)).privateBack C'.1 (y := y') C'.2.2.2.2.1 (mvT C'.2.1 w1) (mvT C'.2.1 w6) (mvT C'.2.1 w5) (Cond.privateMethod_at (mvP C'.2.1 w8 (args := #[]))) (mvT C'.2.1 w4) hy (mkBack (W := (st.map fun v => v.category).sum) hC P C'.2.1 w4 w3 hfr hlo) (g := mkF m pc Ls (argsL.reverse ++ .ref a :: st)) rfl (hml.trans C'.2.2.2.1.symm) (Steps.refl _) (a := a) qa qb (argsL := argsL) (rest := st) hlen rfl (by show 2 * 0 + _ ≤ _; omega) (hb C'.2.2.1 hd) (fun _ _ => ⟨rfl, rfl, by show T.heap.size - s.heap.size + _ ≤ _; omega, by show slots + _ ≤ _; omega⟩)
  dsimp only [Pt.U, Pt.locs, Pt.cells, Pt.slots] at X' e1 e2 e3 stp hq
  subst e1 e2 e3
  obtain ⟨H', q1, q2, q3⟩ := hq
  obtain ⟨U, o, h1, h2⟩ := hr v H' q1 p e s m args below meth c C' U' _ _ _ X' (Fr.app N q3) q2 (by omega)
  exact ⟨U, o, stp.trans h1, h2⟩
theorem callF {a : Addr} {C : String} {count : Nat} (hfa : (Jvm.Cond.interfaceMethod y'.cls y'.cls y'.name y'.desc).faceAtom = true) (hd : decode bytes pc = .ok (.invokeinterface index count, 5)) (w1 : (Jvm.Cond.methodLink y.cls index y').before a0 Z = true) (w2 : (Jvm.Cond.declares y').before a0 Z = true) (wf : (Jvm.Cond.interfaceMethod y'.cls y'.cls y'.name y'.desc).before a0 Z = true) (w5 : (Jvm.Cond.selects C y' z').before a0 Z = true) (w6 : (Jvm.Cond.instanceMethod z').before a0 Z = true) (wp : (Jvm.Cond.publicMethod z').before a0 Z = true) (wu : (Jvm.Cond.unhidden C y'.name y'.desc).before a0 Z = true) (wc : (Jvm.Cond.castable C y'.cls).before a0 Z = true) (w3 : (Jvm.Cond.initialized z'.cls).before a0 Z = true) (w4 : (Jvm.Cond.code z' bytes' ml' ret').before a0 Z = true) (hy : y'.cls ≠ "java/lang/invoke/MethodHandle" ∧ y'.cls ≠ "java/lang/invoke/VarHandle") (hlen : ∀ sig, parseMethodDescriptor y'.desc = some sig → argsL.length = sig.parameters.length)
    (E : ∀ h, Hp Z hB h H → Exa Z h a C) (hC : Ctr l Z hB z' bytes' ml' ret' [] rm (.ref a :: argsL).toArray H Q') (hml : Ls.size = ml) (hfr : rm.frames + 1 ≤ R.frames) (hlo : (st.map fun v => v.category).sum + (ml' + 11) + rm.locals ≤ R.locals) (hcl : H.length + rm.cells ≤ n1 + R.cells) (hsl : sl + rm.slots ≤ R.slots) (hst : argsL.reverse ++ .ref a :: st = st0) (hp : pc + 5 = pc')
    (hr : ∀ v H', Q' v H' → WP l Z hB y bytes ml ret R n1 Q (sl + rm.slots) H' pc' Ls (v.toList ++ st)) : WP l Z hB y bytes ml ret R n1 Q sl H pc Ls st0 := by
  subst hp; subst hst
  intro p e s m args below meth c C' T locs cells slots X N P hs
  have hsz := C'.2.2.2.2.2.2.2.2
  have hp1 := P.1
  have hz : T.heap.size = s.heap.size + (T.heap.size - s.heap.size) := by have := X.same.2.1; have : s.heap.size ≤ T.heap.size := this; omega
  obtain ⟨cq, kq, qa, qb, qc⟩ := isOf (s := s) (T := T) C'.2.1 rfl (E _ P)
  obtain ⟨v, vm1, ⟨U', ls, cc, ss⟩, -, X', ⟨L, hq, e1, e2, e3⟩, stp⟩ := (exact' X (Nat.le_of_eq hz)).interfaceBack C'.1 (xi := y') (y := z') C'.2.2.2.2.1 (mvT C'.2.1 w1) (mvT C'.2.1 w2) (mvT C'.2.1 wf (by simp [Cond.onTables, Cond.keepsFace, Cond.keeps, Cond.steady, hfa])) (mvT C'.2.1 w5) (mvT C'.2.1 w6) (mvT C'.2.1 wp) (mvT C'.2.1 wu) (mvT C'.2.1 wc) hy (mkBack (W := (st.map fun v => v.category).sum) hC P C'.2.1 w4 w3 hfr hlo) qa qb qc (g := mkF m pc Ls (argsL.reverse ++ .ref a :: st)) rfl (hml.trans C'.2.2.2.1.symm) (Steps.refl _) (argsL := argsL) (rest := st) hlen rfl (by show 2 * 0 + _ ≤ _; omega) (hb C'.2.2.1 hd) (fun _ _ => ⟨rfl, rfl, by show T.heap.size - s.heap.size + _ ≤ _; omega, by show slots + _ ≤ _; omega⟩)
  dsimp only [Pt.U, Pt.locs, Pt.cells, Pt.slots] at X' e1 e2 e3 stp hq
  subst e1 e2 e3
  obtain ⟨H', q1, q2, q3⟩ := hq
  obtain ⟨U, o, h1, h2⟩ := hr v H' q1 p e s m args below meth c C' U' _ _ _ X' (Fr.app N q3) q2 (by omega)
  exact ⟨U, o, stp.trans h1, h2⟩
end Calls
theorem gsE {H : List Rec} {i : Nat} {r r' : Rec} (h : H[i]? = some r) : (H.set i r')[i]? = some r' := by
  have := (List.getElem?_eq_some_iff.mp h).1
  simp [List.getElem?_set, this]
theorem gsN {H : List Rec} {i j : Nat} {r r' : Rec} (hn : j ≠ i) (h : H[i]? = some r) : (H.set j r')[i]? = some r := by rw [List.getElem?_set_ne hn]; exact h
theorem gaL {H : List Rec} {i : Nat} {r r' : Rec} (h : H[i]? = some r) : (H ++ [r'])[i]? = some r := by
  have := (List.getElem?_eq_some_iff.mp h).1
  rw [List.getElem?_append_left this]; exact h
theorem gaR {H : List Rec} {i : Nat} {r : Rec} (h : H.length = i) : (H ++ [r])[i]? = some r := by subst h; simp
theorem saR {H : List Rec} {a b : Rec} : (H ++ [a]).set H.length b = H ++ [b] := by simp
theorem gaA {H M : List Rec} {i : Nat} {r : Rec} (h : H[i]? = some r) : (H ++ M)[i]? = some r := by
  have := (List.getElem?_eq_some_iff.mp h).1
  rw [List.getElem?_append_left this]; exact h
theorem gaB {H M : List Rec} {k : Nat} {r : Rec} (h : M[k]? = some r) : (H ++ M)[H.length + k]? = some r := by
  rw [List.getElem?_append_right (by omega), show H.length + k - H.length = k from by omega]; exact h
theorem saB {H M : List Rec} {k : Nat} {r : Rec} : (H ++ M).set (H.length + k) r = H ++ M.set k r := by
  rw [List.set_append_right _ _ (by omega), show H.length + k - H.length = k from by omega]
theorem distK {C : String} {ks : List Key} (hl : ∀ (i : Nat) (k : Key), ks[i]? = some k → Laid Z a0 C k.1 k.2.1 k.2.2) (hn : (ks.map fun k => k.2.1).Nodup) (hd : (ks.all fun k => (parseFieldDescriptor k.2.2).isSome) = true) : ∀ (i j : Nat) (k k' : Key), ks[i]? = some k → ks[j]? = some k' → i ≠ j → kslot Z k ≠ kslot Z k' := by
  intro i j k k' h1 h2 hne
  obtain ⟨l1, g1⟩ := List.getElem?_eq_some_iff.mp h1
  obtain ⟨l2, g2⟩ := List.getElem?_eq_some_iff.mp h2
  have p1 := List.all_eq_true.mp hd k (List.mem_of_getElem? h1)
  have p2 := List.all_eq_true.mp hd k' (List.mem_of_getElem? h2)
  obtain ⟨t1, q1⟩ := Option.isSome_iff_exists.mp p1
  obtain ⟨t2, q2⟩ := Option.isSome_iff_exists.mp p2
  refine slot_ne (hl i k h1) (hl j k' h2) (fun e => hne ?_) q1 q2
  have hp := List.pairwise_iff_getElem.mp hn
  rcases Nat.lt_trichotomy i j with z | z | z
  · exact (hp i j (by simpa using l1) (by simpa using l2) z (by rw [List.getElem_map, List.getElem_map, g1, g2, e])).elim
  · exact z
  · exact (hp j i (by simpa using l2) (by simpa using l1) z (by rw [List.getElem_map, List.getElem_map, g1, g2, e])).elim
end Walk
section Start
variable {args : Array Value} {Z : State}
theorem exaOf {t : Term} {C : String} (h : (Jvm.Cond.exactly t C).value args Z none Z [] = some true) : ∃ a, t.eval args Z none [] Z = some (.ref a) ∧ Exa Z Z.heap a C := by
  obtain ⟨a, ha⟩ := exa_v h
  exact ⟨a, ha, Exa.start ha h⟩
theorem fldInt {t : Term} {C n d : String} {a : Addr} {k : Int32} (ha : t.eval args Z none [] Z = some (.ref a)) (h : (Jvm.Cond.eq (.field t C n d) (.int k)).value args Z none Z [] = some true) : Fld Z Z.heap a C n d (.int k) := by
  have e : (Term.field t C n d).eval args Z none [] Z = Z.fieldOf? a C n d := fld_at ha
  cases hf : Z.fieldOf? a C n d with
  | none => simp [Cond.value, e, hf] at h
  | some v =>
    have q : v = .int k := by cases v <;> simp [Cond.value, e, hf] at h <;> simp [Term.eval] at h; rw [h]
    exact q ▸ Fld.start hf
theorem subF {first s : State} {o : Option Outcome} {idx : List Nat} {a b : Term} {x y : Int32} (ha : a.eval args first o idx s = some (.int x)) (hb : b.eval args first o idx s = some (.int y)) : (Term.sub a b).eval args first o idx s = some (.int (x - y)) := by simp [Term.eval, ha, hb]
theorem fldV {t : Term} {C n d : String} {a : Addr} {v : Value} (ha : t.eval args Z none [] Z = some (.ref a)) (h : (Term.field t C n d).eval args Z none [] Z = some v) : Fld Z Z.heap a C n d v := Fld.start ((fld_at ha).symm.trans h)
theorem eqvR {X F : Term} {a : Addr} (hF : F.eval args Z none [] Z = some (.ref a)) (h : (Jvm.Cond.eq X F).value args Z none Z [] = some true) : X.eval args Z none [] Z = some (.ref a) := by
  cases hx : X.eval args Z none [] Z with
  | none => simp [Cond.value, hx] at h
  | some v => cases v <;> simp [Cond.value, hx, hF] at h <;> simp [h]
theorem exaNe {h : Heap} {a b : Addr} {C D : String} (A : Exa Z h a C) (B : Exa Z h b D) (hn : C ≠ D) : ¬ (Value.ref a = Value.ref b) := fun e => by
  cases e
  obtain ⟨c, k, e1, e2, e3, -⟩ := A
  obtain ⟨c', k', f1, f2, f3, -⟩ := B
  cases e1.symm.trans f1
  exact ids_ne e2 f2 hn rfl
theorem lenOfT {t : Term} {a : Addr} {cl : Cell} {k : Int32} (ht : t.eval args Z none [] Z = some (.ref a)) (ha : Z.arrayAt? a = some cl) (h : (Jvm.Cond.eq (.length t) (.int k)).value args Z none Z [] = some true) : cl.slots.size < 2 ^ 31 ∧ cl.slots.size.toInt32 = k := by
  have e := eqv_i (show (Term.int k).eval args Z none [] Z = some (.int k) from rfl) h
  by_cases hl : cl.slots.size < 2 ^ 31
  · exact ⟨hl, Value.int.inj (Option.some.inj ((len_f ht ha hl).symm.trans e))⟩
  · simp [Term.eval, ht, ha] at e; omega
theorem elemI {t : Term} {a : Addr} {cl : Cell} {j k : Int32} (ht : t.eval args Z none [] Z = some (.ref a)) (ha : Z.arrayAt? a = some cl) (hj : ¬ j < 0) (h : (Jvm.Cond.eq (.elem t (.int j)) (.int k)).value args Z none Z [] = some true) : cl.slots[j.toNatClampNeg]? = some (.int k) :=
  (elem_f (a := .int j) ht (show (Term.int j).eval args Z none [] Z = some (.int j) from rfl) ha hj).symm.trans (eqv_i (show (Term.int k).eval args Z none [] Z = some (.int k) from rfl) h)
theorem nsRoot {a0 : Array Value} {O K : String} {n : Nat} (w : (Jvm.Cond.noSuperclass O).before a0 Z = true) (wi : (Jvm.Cond.instantiable K n).before a0 Z = true) (hn : O ≠ K) : NS Z O K := by
  obtain ⟨c, k, h1, h2, h3, -, -⟩ := Cond.noSuperclass_spec w
  obtain ⟨t, kt, g1, -⟩ := Cond.instantiable_spec wi
  have ne := ids_ne h1 g1 hn
  refine ⟨c, t, h1, g1, fun fuel => ?_⟩
  cases fuel with
  | zero => rfl
  | succ f => simp [Vm.isSubclassAux, ne, h2, h3]
theorem nsNo {a0 : Array Value} {C S K : String} {n : Nat} (w : (Jvm.Cond.superclass C S).before a0 Z = true) (wi : (Jvm.Cond.instantiable K n).before a0 Z = true) (q : NS Z C K) (hn : C ≠ K) : ∃ c t, Z.vm.findClass C = some c ∧ Z.vm.findClass K = some t ∧ Z.vm.assignable c t = false := by
  obtain ⟨c, t, h0, g0, n3⟩ := q
  obtain ⟨p, k, kp, h1, h2, h3, h4, h5, -, h7⟩ := Cond.superclass_spec h0 w
  obtain ⟨t', kt, g1, g2, g3, g4, -⟩ := Cond.instantiable_spec wi
  cases g0.symm.trans g1
  have ne := ids_ne h0 g0 hn
  simp only [Bool.or_eq_false_iff] at g4
  refine ⟨c, t, h0, g0, ?_⟩
  show Z.vm.assignableAux (255 + 1) c t = false
  simp [Vm.assignableAux, ne, h2, g2, h5, g3, g4.1, Vm.isSubclass, n3]
end Start
end Jvm.Wk
namespace Jvm.Wk
open Sem ClassFile Op Lib Jvm.Stand Jvm.Free Jvm.LawKit Jvm.RoadKit
section ObjEq
open Jvm.Free.JO.Object_equals in
theorem backObjEq {p : Program} {e : Env} {s : State} {args : Array Value} {below : List Frame} {l : Launch} {R : Room} {Z : State} {a0 : Array Value} (hZ : Z.Warmed39 s.vm) (hx : p.tables.exec = Jvm.exec) (wc : (Jvm.Cond.code yN yB 2 (some .boolean)).before a0 Z = true) {a b : Addr} (hne : ¬ Value.ref a = Value.ref b) {h : Heap} {len W : Nat} (hf : 1 ≤ R.frames) (hl : W + 13 ≤ R.locals) :
    Back l R p e below s args yN len W (fun A as' => as' = #[.ref a, .ref b] ∧ A.U.heap = h) (fun A _ v B => v = some (.int 0) ∧ B = A) := by
  intro m meth c A g ig mk as' X hg hsz hdg hW hn hP
  obtain ⟨rfl, hh⟩ := hP
  have hU : Z.Warmed39 A.U.vm := wtrans hZ X.warmed
  have wcU : (Jvm.Cond.code yN yB 2 (some .boolean)).before #[] A.U = true := mv hU wc
  obtain ⟨meth', c', h1, h2, h3, h4, h5, h6, -⟩ := Cond.code_spec hn wcU
  subst hg
  have hp := State.plainMethod.of_named (x := yN) (by decide +kernel) hn h1
  have At1 := X.here.enter #[.ref a, .ref b] h1 h2 hp
  refine ⟨some (.int 0), A, X, ⟨rfl, rfl⟩, ?_⟩
  rw [doInvoke_enter X.here.top [] h1 h2 h6 (X.notFull hsz hf (by rw [h4]; omega))]
  have fr := frames_entered (g := g) X.here.top (.java (entryFrame mk #[.ref a, .ref b] c'.maxLocals))
  have sf := setFrames_entered (g := g) X.here.top (.java (entryFrame mk #[.ref a, .ref b] c'.maxLocals))
  have hcg : ((A.U.setTop g).pushFrame (.java (entryFrame mk #[.ref a, .ref b] c'.maxLocals))).code? g.method = some c := by
    have := X.here.code; rw [State.code?_eq] at this ⊢; simpa [State.pushFrame, State.setFrames] using this
  have hm' : ((A.U.setTop g).pushFrame (.java (entryFrame mk #[.ref a, .ref b] c'.maxLocals))).vm.method? mk = some meth' := by simpa [State.pushFrame, State.setFrames] using h1
  have en : entryFrame mk #[.ref a, .ref b] c'.maxLocals = mkF mk 0 #[.val (.ref a), .val (.ref b)] [] := by rw [h4]; rfl
  generalize (A.U.setTop g).pushFrame (.java (entryFrame mk #[.ref a, .ref b] c'.maxLocals)) = V at At1 fr sf hcg hm' ⊢
  rw [en]
  refine XS.aloadN At1 hx rfl (hb h3 d0) rfl rfl ?_
  refine XS.aloadN At1 hx rfl (hb h3 d1) rfl rfl ?_
  refine XT.acmpYes At1 hx rfl (pc0 := 2) rfl (hb h3 d2) rfl rfl rfl (XT.aa_ne_t hne) (by decide) rfl ?_
  refine XT.iconstV At1 hx rfl 0 (hb h3 d9) (by decide) ?_
  have hd10 := hb h3 d10
  jvm_step At1 [At1.top, hx, hd10, hm', h5, narrow]
  intro acts
  rw [doReturn_leave (g := g) (meth := meth') (cg := c) (ig := ig) (len := len) acts fr hm' h6 rfl rfl hcg hdg, sf, State.setTop_setTop]
  exact Steps.refl _
end ObjEq
section ObjEq2
variable {l : Launch} {Z : State} {hB : Heap} {y : MethodName} {bytes : ByteArray} {ml : Nat} {ret : Option FieldType} {R : Room} {n1 : Nat} {Q : Option Value → List Rec → Prop} {sl : Nat} {H : List Rec} {pc pc' : Nat} {Ls : Array Slot} {st : List Value} {a0 : Array Value}
open Jvm.Free.JO.Object_equals in
theorem objEqNo {a b : Addr} {C : String} {index : Nat} (hd : decode bytes pc = .ok (.invokevirtual index, 3)) (w1 : (Jvm.Cond.methodLink y.cls index yN).before a0 Z = true) (w2 : (Jvm.Cond.declares yN).before a0 Z = true) (hnf : ∀ s : State, Z.Warmed39 s.vm → NotFace s yN) (w5 : (Jvm.Cond.selects C yN yN).before a0 Z = true) (w6 : (Jvm.Cond.instanceMethod yN).before a0 Z = true) (w4 : (Jvm.Cond.code yN yB 2 (some .boolean)).before a0 Z = true) (E : ∀ h, Hp Z hB h H → Exa Z h a C) (hne : ¬ Value.ref a = Value.ref b) (hml : Ls.size = ml) (hf : 1 ≤ R.frames) (hlo : (st.map fun v => v.category).sum + 13 ≤ R.locals) (hp : pc + 3 = pc') (hr : WP l Z hB y bytes ml ret R n1 Q sl H pc' Ls (.int 0 :: st)) : WP l Z hB y bytes ml ret R n1 Q sl H pc Ls (.ref b :: .ref a :: st) := by
  subst hp
  intro p e s m args below meth c C' T locs cells slots X N P hs
  obtain ⟨cq, kq, qa, qb, qc⟩ := isOf (s := s) (T := T) C'.2.1 rfl (E _ P)
  obtain ⟨v, vm1, ⟨U', ls, cc, ss⟩, -, X', ⟨e0, e1⟩, stp⟩ := X.virtualBack C'.1 (y := yN) (z := yN) C'.2.2.2.2.1 (mvT C'.2.1 w1) (mvT C'.2.1 w2) (hnf s C'.2.1) (mvT C'.2.1 w5) (mvT C'.2.1 w6) (by decide) (backObjEq (W := (st.map fun v => v.category).sum) (h := T.heap) C'.2.1 C'.1 w4 hne hf hlo) qa qc (g := mkF m pc Ls (.ref b :: .ref a :: st)) rfl (hml.trans C'.2.2.2.1.symm) (Steps.refl _) (argsL := [.ref b]) (rest := st) (by intro sig hsig; rw [show parseMethodDescriptor yN.desc = some ⟨[.object "java/lang/Object"], some .boolean⟩ from by decide +kernel] at hsig; cases hsig; rfl) rfl (by show 2 * 0 + _ ≤ _; omega) (hb C'.2.2.1 hd) (fun _ _ => ⟨rfl, rfl⟩)
  cases e0
  cases e1
  obtain ⟨U, o, h1, h2⟩ := hr p e s m args below meth c C' _ _ _ _ X' N P hs
  exact ⟨U, o, stp.trans h1, h2⟩
end ObjEq2
end Jvm.Wk
namespace Jvm.Pilot.@@N@@
open Jvm Jvm.ClassFile Sem Op Lib Jvm.Free Jvm.Stand Jvm.LawKit Jvm.RoadKit Bundle Jvm.Pilot.@@N@@.Jvm.D
open Jvm.Wk (obj arr ints longs rf Rec Key kslot RecAt Hp WP Ctr gsE gsN gaL gaR distK)
theorem pn_0 : plainFor ({ cls := "java/lang/Boolean", name := "valueOf", desc := "(Z)Ljava/lang/Boolean;" } : Jvm.MethodName) = true := by first | decide +kernel | exact plainFor_of_name (by first | (simp [plainName, overriddenIn]; done) | decide +kernel)
theorem pn_1 : plainFor ({ cls := "java/lang/Boolean", name := "booleanValue", desc := "()Z" } : Jvm.MethodName) = true := by first | decide +kernel | exact plainFor_of_name (by first | (simp [plainName, overriddenIn]; done) | decide +kernel)
theorem pn_2 : plainFor ({ cls := "java/lang/Boolean", name := "equals", desc := "(Ljava/lang/Object;)Z" } : Jvm.MethodName) = true := by first | decide +kernel | exact plainFor_of_name (by first | (simp [plainName, overriddenIn]; done) | decide +kernel)
theorem pn_3 : plainFor ({ cls := "java/util/Objects", name := "requireNonNull", desc := "(Ljava/lang/Object;)Ljava/lang/Object;" } : Jvm.MethodName) = true := by first | decide +kernel | exact plainFor_of_name (by first | (simp [plainName, overriddenIn]; done) | decide +kernel)
theorem pn_4 : plainFor ({ cls := "java/util/ImmutableCollections$SetN", name := "isEmpty", desc := "()Z" } : Jvm.MethodName) = true := by first | decide +kernel | exact plainFor_of_name (by first | (simp [plainName, overriddenIn]; done) | decide +kernel)
theorem pn_5 : plainFor ({ cls := "java/util/ImmutableCollections$SetN", name := "contains", desc := "(Ljava/lang/Object;)Z" } : Jvm.MethodName) = true := by first | decide +kernel | exact plainFor_of_name (by first | (simp [plainName, overriddenIn]; done) | decide +kernel)
theorem pn_6 : plainFor ({ cls := "java/util/ImmutableCollections$Set12", name := "isEmpty", desc := "()Z" } : Jvm.MethodName) = true := by first | decide +kernel | exact plainFor_of_name (by first | (simp [plainName, overriddenIn]; done) | decide +kernel)
theorem pn_7 : plainFor ({ cls := "java/util/ImmutableCollections$Set12", name := "contains", desc := "(Ljava/lang/Object;)Z" } : Jvm.MethodName) = true := by first | decide +kernel | exact plainFor_of_name (by first | (simp [plainName, overriddenIn]; done) | decide +kernel)
theorem pn_8 : plainFor ({ cls := "com/example/reckon/reckon/core/EvaluationsSemantic", name := "mayEndEarly", desc := "()Z" } : Jvm.MethodName) = true := by first | decide +kernel | exact plainFor_of_name (by first | (simp [plainName, overriddenIn]; done) | decide +kernel)
theorem pn_9 : plainFor ({ cls := "com/example/reckon/reckon/core/EvaluationsSemantic", name := "endsWith", desc := "(Z)Z" } : Jvm.MethodName) = true := by first | decide +kernel | exact plainFor_of_name (by first | (simp [plainName, overriddenIn]; done) | decide +kernel)
theorem pn_10 : plainFor ({ cls := "com/example/reckon/reckon/core/EvaluationsSemanticMayEndEarlyPinLaw", name := "law", desc := "(I)Z" } : Jvm.MethodName) = true := by first | decide +kernel | exact plainFor_of_name (by first | (simp [plainName, overriddenIn]; done) | decide +kernel)
theorem pd_0 : parseMethodDescriptor "()Z" = some ⟨[], some .boolean⟩ := by decide +kernel
theorem pd_1 : parseMethodDescriptor "(Ljava/lang/Object;)Ljava/lang/Object;" = some ⟨[(.object "java/lang/Object")], some (.object "java/lang/Object")⟩ := by decide +kernel
theorem pd_2 : parseMethodDescriptor "(Ljava/lang/Object;)Z" = some ⟨[(.object "java/lang/Object")], some .boolean⟩ := by decide +kernel
theorem pd_3 : parseMethodDescriptor "(Z)Ljava/lang/Boolean;" = some ⟨[.boolean], some (.object "java/lang/Boolean")⟩ := by decide +kernel
theorem pd_4 : parseMethodDescriptor "(Z)Z" = some ⟨[.boolean], some .boolean⟩ := by decide +kernel
theorem d0_0 : decode prog_24_method_5_code 0 = .ok (.aload_n 0, 1) := by decide +kernel
theorem d0_1 : decode prog_24_method_5_code 1 = .ok (.getfield 36, 3) := by decide +kernel
theorem d0_4 : decode prog_24_method_5_code 4 = .ok (.invokeinterface 51 1, 5) := by decide +kernel
theorem d0_9 : decode prog_24_method_5_code 9 = .ok (.ifCond .ne 7, 3) := by decide +kernel
theorem d0_12 : decode prog_24_method_5_code 12 = .ok (.iconst 1, 1) := by decide +kernel
theorem d0_13 : decode prog_24_method_5_code 13 = .ok (.goto 4, 3) := by decide +kernel
theorem d0_16 : decode prog_24_method_5_code 16 = .ok (.iconst 0, 1) := by decide +kernel
theorem d0_17 : decode prog_24_method_5_code 17 = .ok (.ireturn, 1) := by decide +kernel
theorem d1_0 : decode jdk_132_method_3_code 0 = .ok (.aload_n 0, 1) := by decide +kernel
theorem d1_1 : decode jdk_132_method_3_code 1 = .ok (.getfield 9, 3) := by decide +kernel
theorem d1_4 : decode jdk_132_method_3_code 4 = .ok (.ifCond .ne 7, 3) := by decide +kernel
theorem d1_7 : decode jdk_132_method_3_code 7 = .ok (.iconst 1, 1) := by decide +kernel
theorem d1_8 : decode jdk_132_method_3_code 8 = .ok (.goto 4, 3) := by decide +kernel
theorem d1_12 : decode jdk_132_method_3_code 12 = .ok (.ireturn, 1) := by decide +kernel
theorem d2_0 : decode prog_24_method_4_code 0 = .ok (.aload_n 0, 1) := by decide +kernel
theorem d2_1 : decode prog_24_method_4_code 1 = .ok (.getfield 36, 3) := by decide +kernel
theorem d2_4 : decode prog_24_method_4_code 4 = .ok (.iload_n 1, 1) := by decide +kernel
theorem d2_5 : decode prog_24_method_4_code 5 = .ok (.invokestatic 40, 3) := by decide +kernel
theorem d2_8 : decode prog_24_method_4_code 8 = .ok (.invokeinterface 45 2, 5) := by decide +kernel
theorem d2_13 : decode prog_24_method_4_code 13 = .ok (.ireturn, 1) := by decide +kernel
theorem d3_0 : decode jdk_2055_method_5_code 0 = .ok (.iload_n 0, 1) := by decide +kernel
theorem d3_1 : decode jdk_2055_method_5_code 1 = .ok (.ifCond .eq 9, 3) := by decide +kernel
theorem d3_4 : decode jdk_2055_method_5_code 4 = .ok (.getstatic 27, 3) := by decide +kernel
theorem d3_7 : decode jdk_2055_method_5_code 7 = .ok (.goto 6, 3) := by decide +kernel
theorem d3_10 : decode jdk_2055_method_5_code 10 = .ok (.getstatic 31, 3) := by decide +kernel
theorem d3_13 : decode jdk_2055_method_5_code 13 = .ok (.areturn, 1) := by decide +kernel
theorem d4_0 : decode jdk_132_method_4_code 0 = .ok (.aload_n 1, 1) := by decide +kernel
theorem d4_1 : decode jdk_132_method_4_code 1 = .ok (.invokestatic 46, 3) := by decide +kernel
theorem d4_4 : decode jdk_132_method_4_code 4 = .ok (.pop, 1) := by decide +kernel
theorem d4_5 : decode jdk_132_method_4_code 5 = .ok (.aload_n 0, 1) := by decide +kernel
theorem d4_6 : decode jdk_132_method_4_code 6 = .ok (.getfield 9, 3) := by decide +kernel
theorem d4_9 : decode jdk_132_method_4_code 9 = .ok (.ifCond .le 15, 3) := by decide +kernel
theorem d4_24 : decode jdk_132_method_4_code 24 = .ok (.iconst 0, 1) := by decide +kernel
theorem d4_25 : decode jdk_132_method_4_code 25 = .ok (.ireturn, 1) := by decide +kernel
theorem d5_0 : decode jdk_31_method_10_code 0 = .ok (.aload_n 0, 1) := by decide +kernel
theorem d5_1 : decode jdk_31_method_10_code 1 = .ok (.ifnonnull 11, 3) := by decide +kernel
theorem d5_12 : decode jdk_31_method_10_code 12 = .ok (.aload_n 0, 1) := by decide +kernel
theorem d5_13 : decode jdk_31_method_10_code 13 = .ok (.areturn, 1) := by decide +kernel
theorem d6_0 : decode jdk_101_method_4_code 0 = .ok (.iconst 0, 1) := by decide +kernel
theorem d6_1 : decode jdk_101_method_4_code 1 = .ok (.ireturn, 1) := by decide +kernel
theorem d7_0 : decode jdk_101_method_5_code 0 = .ok (.aload_n 1, 1) := by decide +kernel
theorem d7_1 : decode jdk_101_method_5_code 1 = .ok (.aload_n 0, 1) := by decide +kernel
theorem d7_2 : decode jdk_101_method_5_code 2 = .ok (.getfield 13, 3) := by decide +kernel
theorem d7_5 : decode jdk_101_method_5_code 5 = .ok (.invokevirtual 27, 3) := by decide +kernel
theorem d7_8 : decode jdk_101_method_5_code 8 = .ok (.ifCond .ne 14, 3) := by decide +kernel
theorem d7_11 : decode jdk_101_method_5_code 11 = .ok (.aload_n 0, 1) := by decide +kernel
theorem d7_12 : decode jdk_101_method_5_code 12 = .ok (.getfield 24, 3) := by decide +kernel
theorem d7_15 : decode jdk_101_method_5_code 15 = .ok (.aload_n 1, 1) := by decide +kernel
theorem d7_16 : decode jdk_101_method_5_code 16 = .ok (.invokevirtual 27, 3) := by decide +kernel
theorem d7_19 : decode jdk_101_method_5_code 19 = .ok (.ifCond .eq 7, 3) := by decide +kernel
theorem d7_22 : decode jdk_101_method_5_code 22 = .ok (.iconst 1, 1) := by decide +kernel
theorem d7_23 : decode jdk_101_method_5_code 23 = .ok (.goto 4, 3) := by decide +kernel
theorem d7_26 : decode jdk_101_method_5_code 26 = .ok (.iconst 0, 1) := by decide +kernel
theorem d7_27 : decode jdk_101_method_5_code 27 = .ok (.ireturn, 1) := by decide +kernel
theorem d8_0 : decode jdk_2055_method_11_code 0 = .ok (.aload_n 1, 1) := by decide +kernel
theorem d8_1 : decode jdk_2055_method_11_code 1 = .ok (.instanceof 8, 3) := by decide +kernel
theorem d8_4 : decode jdk_2055_method_11_code 4 = .ok (.ifCond .eq 23, 3) := by decide +kernel
theorem d8_7 : decode jdk_2055_method_11_code 7 = .ok (.aload_n 0, 1) := by decide +kernel
theorem d8_8 : decode jdk_2055_method_11_code 8 = .ok (.getfield 7, 3) := by decide +kernel
theorem d8_11 : decode jdk_2055_method_11_code 11 = .ok (.aload_n 1, 1) := by decide +kernel
theorem d8_12 : decode jdk_2055_method_11_code 12 = .ok (.checkcast 8, 3) := by decide +kernel
theorem d8_15 : decode jdk_2055_method_11_code 15 = .ok (.invokevirtual 42, 3) := by decide +kernel
theorem d8_18 : decode jdk_2055_method_11_code 18 = .ok (.if_icmp .ne 7, 3) := by decide +kernel
theorem d8_21 : decode jdk_2055_method_11_code 21 = .ok (.iconst 1, 1) := by decide +kernel
theorem d8_22 : decode jdk_2055_method_11_code 22 = .ok (.goto 4, 3) := by decide +kernel
theorem d8_25 : decode jdk_2055_method_11_code 25 = .ok (.iconst 0, 1) := by decide +kernel
theorem d8_26 : decode jdk_2055_method_11_code 26 = .ok (.ireturn, 1) := by decide +kernel
theorem d9_0 : decode jdk_2055_method_4_code 0 = .ok (.aload_n 0, 1) := by decide +kernel
theorem d9_1 : decode jdk_2055_method_4_code 1 = .ok (.getfield 7, 3) := by decide +kernel
theorem d9_4 : decode jdk_2055_method_4_code 4 = .ok (.ireturn, 1) := by decide +kernel
theorem wd0 {a0 : Array Value} {Z : State} (hw : ∀ d ∈ tables_1, d.before a0 Z = true) : ((Jvm.Cond.constant "com/example/reckon/reckon/core/EvaluationsSemanticMayEndEarlyPinLaw" (7 : Nat) (2147483647 : Int32)) : Jvm.Cond).before a0 Z = true := hw _ (List.mem_of_getElem? (i := 0) rfl)
theorem wd1 {a0 : Array Value} {Z : State} (hw : ∀ d ∈ tables_1, d.before a0 Z = true) : ((Jvm.Cond.fieldLink "com/example/reckon/reckon/core/EvaluationsSemanticMayEndEarlyPinLaw" (8 : Nat) "com/example/reckon/reckon/core/EvaluationsSemantic" "EXECUTE_ALL" "Lcom/example/reckon/reckon/core/EvaluationsSemantic;") : Jvm.Cond).before a0 Z = true := hw _ (List.mem_of_getElem? (i := 1) rfl)
theorem wd2 {a0 : Array Value} {Z : State} (hw : ∀ d ∈ tables_1, d.before a0 Z = true) : ((Jvm.Cond.initialized "com/example/reckon/reckon/core/EvaluationsSemantic") : Jvm.Cond).before a0 Z = true := hw _ (List.mem_of_getElem? (i := 2) rfl)
theorem wd3 {a0 : Array Value} {Z : State} (hw : ∀ d ∈ tables_1, d.before a0 Z = true) : ((Jvm.Cond.laysStatic "com/example/reckon/reckon/core/EvaluationsSemantic" "EXECUTE_ALL" "Lcom/example/reckon/reckon/core/EvaluationsSemantic;") : Jvm.Cond).before a0 Z = true := hw _ (List.mem_of_getElem? (i := 3) rfl)
theorem wd4 {a0 : Array Value} {Z : State} (hw : ∀ d ∈ tables_1, d.before a0 Z = true) : ((Jvm.Cond.methodLink "com/example/reckon/reckon/core/EvaluationsSemanticMayEndEarlyPinLaw" (20 : Nat) ({ cls := "com/example/reckon/reckon/core/EvaluationsSemantic", name := "mayEndEarly", desc := "()Z" } : Jvm.MethodName)) : Jvm.Cond).before a0 Z = true := hw _ (List.mem_of_getElem? (i := 4) rfl)
theorem wd5 {a0 : Array Value} {Z : State} (hw : ∀ d ∈ tables_1, d.before a0 Z = true) : ((Jvm.Cond.declares ({ cls := "com/example/reckon/reckon/core/EvaluationsSemantic", name := "mayEndEarly", desc := "()Z" } : Jvm.MethodName)) : Jvm.Cond).before a0 Z = true := hw _ (List.mem_of_getElem? (i := 5) rfl)
theorem wd6 {a0 : Array Value} {Z : State} (hw : ∀ d ∈ tables_1, d.before a0 Z = true) : ((Jvm.Cond.instanceMethod ({ cls := "com/example/reckon/reckon/core/EvaluationsSemantic", name := "mayEndEarly", desc := "()Z" } : Jvm.MethodName)) : Jvm.Cond).before a0 Z = true := hw _ (List.mem_of_getElem? (i := 6) rfl)
theorem wd7 {a0 : Array Value} {Z : State} (hw : ∀ d ∈ tables_1, d.before a0 Z = true) : ((Jvm.Cond.selects "com/example/reckon/reckon/core/EvaluationsSemantic" ({ cls := "com/example/reckon/reckon/core/EvaluationsSemantic", name := "mayEndEarly", desc := "()Z" } : Jvm.MethodName) ({ cls := "com/example/reckon/reckon/core/EvaluationsSemantic", name := "mayEndEarly", desc := "()Z" } : Jvm.MethodName)) : Jvm.Cond).before a0 Z = true := hw _ (List.mem_of_getElem? (i := 7) rfl)
theorem wd8 {a0 : Array Value} {Z : State} (hw : ∀ d ∈ tables_1, d.before a0 Z = true) : ((Jvm.Cond.code ({ cls := "com/example/reckon/reckon/core/EvaluationsSemantic", name := "mayEndEarly", desc := "()Z" } : Jvm.MethodName) prog_24_method_5_code (1 : Nat) (Option.some Jvm.ClassFile.FieldType.boolean)) : Jvm.Cond).before a0 Z = true := hw _ (List.mem_of_getElem? (i := 8) rfl)
theorem wd9 {a0 : Array Value} {Z : State} (hw : ∀ d ∈ tables_1, d.before a0 Z = true) : ((Jvm.Cond.fieldLink "com/example/reckon/reckon/core/EvaluationsSemantic" (36 : Nat) "com/example/reckon/reckon/core/EvaluationsSemantic" "ending" "Ljava/util/Set;") : Jvm.Cond).before a0 Z = true := hw _ (List.mem_of_getElem? (i := 9) rfl)
theorem wd11 {a0 : Array Value} {Z : State} (hw : ∀ d ∈ tables_1, d.before a0 Z = true) : ((Jvm.Cond.methodLink "com/example/reckon/reckon/core/EvaluationsSemantic" (51 : Nat) ({ cls := "java/util/Set", name := "isEmpty", desc := "()Z" } : Jvm.MethodName)) : Jvm.Cond).before a0 Z = true := hw _ (List.mem_of_getElem? (i := 11) rfl)
theorem wd12 {a0 : Array Value} {Z : State} (hw : ∀ d ∈ tables_1, d.before a0 Z = true) : ((Jvm.Cond.declares ({ cls := "java/util/Set", name := "isEmpty", desc := "()Z" } : Jvm.MethodName)) : Jvm.Cond).before a0 Z = true := hw _ (List.mem_of_getElem? (i := 12) rfl)
theorem wd13 {a0 : Array Value} {Z : State} (hw : ∀ d ∈ tables_1, d.before a0 Z = true) : ((Jvm.Cond.interfaceMethod "java/util/Set" "java/util/Set" "isEmpty" "()Z") : Jvm.Cond).before a0 Z = true := hw _ (List.mem_of_getElem? (i := 13) rfl)
theorem wd14 {a0 : Array Value} {Z : State} (hw : ∀ d ∈ tables_1, d.before a0 Z = true) : ((Jvm.Cond.selects "java/util/ImmutableCollections$SetN" ({ cls := "java/util/Set", name := "isEmpty", desc := "()Z" } : Jvm.MethodName) ({ cls := "java/util/ImmutableCollections$SetN", name := "isEmpty", desc := "()Z" } : Jvm.MethodName)) : Jvm.Cond).before a0 Z = true := hw _ (List.mem_of_getElem? (i := 14) rfl)
theorem wd15 {a0 : Array Value} {Z : State} (hw : ∀ d ∈ tables_1, d.before a0 Z = true) : ((Jvm.Cond.instanceMethod ({ cls := "java/util/ImmutableCollections$SetN", name := "isEmpty", desc := "()Z" } : Jvm.MethodName)) : Jvm.Cond).before a0 Z = true := hw _ (List.mem_of_getElem? (i := 15) rfl)
theorem wd16 {a0 : Array Value} {Z : State} (hw : ∀ d ∈ tables_1, d.before a0 Z = true) : ((Jvm.Cond.publicMethod ({ cls := "java/util/ImmutableCollections$SetN", name := "isEmpty", desc := "()Z" } : Jvm.MethodName)) : Jvm.Cond).before a0 Z = true := hw _ (List.mem_of_getElem? (i := 16) rfl)
theorem wd17 {a0 : Array Value} {Z : State} (hw : ∀ d ∈ tables_1, d.before a0 Z = true) : ((Jvm.Cond.unhidden "java/util/ImmutableCollections$SetN" "isEmpty" "()Z") : Jvm.Cond).before a0 Z = true := hw _ (List.mem_of_getElem? (i := 17) rfl)
theorem wd18 {a0 : Array Value} {Z : State} (hw : ∀ d ∈ tables_1, d.before a0 Z = true) : ((Jvm.Cond.castable "java/util/ImmutableCollections$SetN" "java/util/Set") : Jvm.Cond).before a0 Z = true := hw _ (List.mem_of_getElem? (i := 18) rfl)
theorem wd19 {a0 : Array Value} {Z : State} (hw : ∀ d ∈ tables_1, d.before a0 Z = true) : ((Jvm.Cond.initialized "java/util/ImmutableCollections$SetN") : Jvm.Cond).before a0 Z = true := hw _ (List.mem_of_getElem? (i := 19) rfl)
theorem wd20 {a0 : Array Value} {Z : State} (hw : ∀ d ∈ tables_1, d.before a0 Z = true) : ((Jvm.Cond.code ({ cls := "java/util/ImmutableCollections$SetN", name := "isEmpty", desc := "()Z" } : Jvm.MethodName) jdk_132_method_3_code (1 : Nat) (Option.some Jvm.ClassFile.FieldType.boolean)) : Jvm.Cond).before a0 Z = true := hw _ (List.mem_of_getElem? (i := 20) rfl)
theorem wd21 {a0 : Array Value} {Z : State} (hw : ∀ d ∈ tables_1, d.before a0 Z = true) : ((Jvm.Cond.fieldLink "java/util/ImmutableCollections$SetN" (9 : Nat) "java/util/ImmutableCollections$SetN" "size" "I") : Jvm.Cond).before a0 Z = true := hw _ (List.mem_of_getElem? (i := 21) rfl)
theorem wd23 {a0 : Array Value} {Z : State} (hw : ∀ d ∈ tables_1, d.before a0 Z = true) : ((Jvm.Cond.methodLink "com/example/reckon/reckon/core/EvaluationsSemanticMayEndEarlyPinLaw" (24 : Nat) ({ cls := "com/example/reckon/reckon/core/EvaluationsSemantic", name := "endsWith", desc := "(Z)Z" } : Jvm.MethodName)) : Jvm.Cond).before a0 Z = true := hw _ (List.mem_of_getElem? (i := 23) rfl)
theorem wd24 {a0 : Array Value} {Z : State} (hw : ∀ d ∈ tables_1, d.before a0 Z = true) : ((Jvm.Cond.declares ({ cls := "com/example/reckon/reckon/core/EvaluationsSemantic", name := "endsWith", desc := "(Z)Z" } : Jvm.MethodName)) : Jvm.Cond).before a0 Z = true := hw _ (List.mem_of_getElem? (i := 24) rfl)
theorem wd25 {a0 : Array Value} {Z : State} (hw : ∀ d ∈ tables_1, d.before a0 Z = true) : ((Jvm.Cond.instanceMethod ({ cls := "com/example/reckon/reckon/core/EvaluationsSemantic", name := "endsWith", desc := "(Z)Z" } : Jvm.MethodName)) : Jvm.Cond).before a0 Z = true := hw _ (List.mem_of_getElem? (i := 25) rfl)
theorem wd26 {a0 : Array Value} {Z : State} (hw : ∀ d ∈ tables_1, d.before a0 Z = true) : ((Jvm.Cond.selects "com/example/reckon/reckon/core/EvaluationsSemantic" ({ cls := "com/example/reckon/reckon/core/EvaluationsSemantic", name := "endsWith", desc := "(Z)Z" } : Jvm.MethodName) ({ cls := "com/example/reckon/reckon/core/EvaluationsSemantic", name := "endsWith", desc := "(Z)Z" } : Jvm.MethodName)) : Jvm.Cond).before a0 Z = true := hw _ (List.mem_of_getElem? (i := 26) rfl)
theorem wd27 {a0 : Array Value} {Z : State} (hw : ∀ d ∈ tables_1, d.before a0 Z = true) : ((Jvm.Cond.code ({ cls := "com/example/reckon/reckon/core/EvaluationsSemantic", name := "endsWith", desc := "(Z)Z" } : Jvm.MethodName) prog_24_method_4_code (2 : Nat) (Option.some Jvm.ClassFile.FieldType.boolean)) : Jvm.Cond).before a0 Z = true := hw _ (List.mem_of_getElem? (i := 27) rfl)
theorem wd28 {a0 : Array Value} {Z : State} (hw : ∀ d ∈ tables_1, d.before a0 Z = true) : ((Jvm.Cond.methodLink "com/example/reckon/reckon/core/EvaluationsSemantic" (40 : Nat) ({ cls := "java/lang/Boolean", name := "valueOf", desc := "(Z)Ljava/lang/Boolean;" } : Jvm.MethodName)) : Jvm.Cond).before a0 Z = true := hw _ (List.mem_of_getElem? (i := 28) rfl)
theorem wd29 {a0 : Array Value} {Z : State} (hw : ∀ d ∈ tables_1, d.before a0 Z = true) : ((Jvm.Cond.static ({ cls := "java/lang/Boolean", name := "valueOf", desc := "(Z)Ljava/lang/Boolean;" } : Jvm.MethodName)) : Jvm.Cond).before a0 Z = true := hw _ (List.mem_of_getElem? (i := 29) rfl)
theorem wd30 {a0 : Array Value} {Z : State} (hw : ∀ d ∈ tables_1, d.before a0 Z = true) : ((Jvm.Cond.initialized "java/lang/Boolean") : Jvm.Cond).before a0 Z = true := hw _ (List.mem_of_getElem? (i := 30) rfl)
theorem wd31 {a0 : Array Value} {Z : State} (hw : ∀ d ∈ tables_1, d.before a0 Z = true) : ((Jvm.Cond.code ({ cls := "java/lang/Boolean", name := "valueOf", desc := "(Z)Ljava/lang/Boolean;" } : Jvm.MethodName) jdk_2055_method_5_code (1 : Nat) (Option.some (Jvm.ClassFile.FieldType.object "java/lang/Boolean"))) : Jvm.Cond).before a0 Z = true := hw _ (List.mem_of_getElem? (i := 31) rfl)
theorem wd32 {a0 : Array Value} {Z : State} (hw : ∀ d ∈ tables_1, d.before a0 Z = true) : ((Jvm.Cond.fieldLink "java/lang/Boolean" (27 : Nat) "java/lang/Boolean" "TRUE" "Ljava/lang/Boolean;") : Jvm.Cond).before a0 Z = true := hw _ (List.mem_of_getElem? (i := 32) rfl)
theorem wd33 {a0 : Array Value} {Z : State} (hw : ∀ d ∈ tables_1, d.before a0 Z = true) : ((Jvm.Cond.methodLink "com/example/reckon/reckon/core/EvaluationsSemantic" (45 : Nat) ({ cls := "java/util/Set", name := "contains", desc := "(Ljava/lang/Object;)Z" } : Jvm.MethodName)) : Jvm.Cond).before a0 Z = true := hw _ (List.mem_of_getElem? (i := 33) rfl)
theorem wd34 {a0 : Array Value} {Z : State} (hw : ∀ d ∈ tables_1, d.before a0 Z = true) : ((Jvm.Cond.declares ({ cls := "java/util/Set", name := "contains", desc := "(Ljava/lang/Object;)Z" } : Jvm.MethodName)) : Jvm.Cond).before a0 Z = true := hw _ (List.mem_of_getElem? (i := 34) rfl)
theorem wd35 {a0 : Array Value} {Z : State} (hw : ∀ d ∈ tables_1, d.before a0 Z = true) : ((Jvm.Cond.interfaceMethod "java/util/Set" "java/util/Set" "contains" "(Ljava/lang/Object;)Z") : Jvm.Cond).before a0 Z = true := hw _ (List.mem_of_getElem? (i := 35) rfl)
theorem wd36 {a0 : Array Value} {Z : State} (hw : ∀ d ∈ tables_1, d.before a0 Z = true) : ((Jvm.Cond.selects "java/util/ImmutableCollections$SetN" ({ cls := "java/util/Set", name := "contains", desc := "(Ljava/lang/Object;)Z" } : Jvm.MethodName) ({ cls := "java/util/ImmutableCollections$SetN", name := "contains", desc := "(Ljava/lang/Object;)Z" } : Jvm.MethodName)) : Jvm.Cond).before a0 Z = true := hw _ (List.mem_of_getElem? (i := 36) rfl)
theorem wd37 {a0 : Array Value} {Z : State} (hw : ∀ d ∈ tables_1, d.before a0 Z = true) : ((Jvm.Cond.instanceMethod ({ cls := "java/util/ImmutableCollections$SetN", name := "contains", desc := "(Ljava/lang/Object;)Z" } : Jvm.MethodName)) : Jvm.Cond).before a0 Z = true := hw _ (List.mem_of_getElem? (i := 37) rfl)
theorem wd38 {a0 : Array Value} {Z : State} (hw : ∀ d ∈ tables_1, d.before a0 Z = true) : ((Jvm.Cond.publicMethod ({ cls := "java/util/ImmutableCollections$SetN", name := "contains", desc := "(Ljava/lang/Object;)Z" } : Jvm.MethodName)) : Jvm.Cond).before a0 Z = true := hw _ (List.mem_of_getElem? (i := 38) rfl)
theorem wd39 {a0 : Array Value} {Z : State} (hw : ∀ d ∈ tables_1, d.before a0 Z = true) : ((Jvm.Cond.unhidden "java/util/ImmutableCollections$SetN" "contains" "(Ljava/lang/Object;)Z") : Jvm.Cond).before a0 Z = true := hw _ (List.mem_of_getElem? (i := 39) rfl)
theorem wd40 {a0 : Array Value} {Z : State} (hw : ∀ d ∈ tables_1, d.before a0 Z = true) : ((Jvm.Cond.code ({ cls := "java/util/ImmutableCollections$SetN", name := "contains", desc := "(Ljava/lang/Object;)Z" } : Jvm.MethodName) jdk_132_method_4_code (2 : Nat) (Option.some Jvm.ClassFile.FieldType.boolean)) : Jvm.Cond).before a0 Z = true := hw _ (List.mem_of_getElem? (i := 40) rfl)
theorem wd41 {a0 : Array Value} {Z : State} (hw : ∀ d ∈ tables_1, d.before a0 Z = true) : ((Jvm.Cond.methodLink "java/util/ImmutableCollections$SetN" (46 : Nat) ({ cls := "java/util/Objects", name := "requireNonNull", desc := "(Ljava/lang/Object;)Ljava/lang/Object;" } : Jvm.MethodName)) : Jvm.Cond).before a0 Z = true := hw _ (List.mem_of_getElem? (i := 41) rfl)
theorem wd42 {a0 : Array Value} {Z : State} (hw : ∀ d ∈ tables_1, d.before a0 Z = true) : ((Jvm.Cond.static ({ cls := "java/util/Objects", name := "requireNonNull", desc := "(Ljava/lang/Object;)Ljava/lang/Object;" } : Jvm.MethodName)) : Jvm.Cond).before a0 Z = true := hw _ (List.mem_of_getElem? (i := 42) rfl)
theorem wd43 {a0 : Array Value} {Z : State} (hw : ∀ d ∈ tables_1, d.before a0 Z = true) : ((Jvm.Cond.initialized "java/util/Objects") : Jvm.Cond).before a0 Z = true := hw _ (List.mem_of_getElem? (i := 43) rfl)
theorem wd44 {a0 : Array Value} {Z : State} (hw : ∀ d ∈ tables_1, d.before a0 Z = true) : ((Jvm.Cond.code ({ cls := "java/util/Objects", name := "requireNonNull", desc := "(Ljava/lang/Object;)Ljava/lang/Object;" } : Jvm.MethodName) jdk_31_method_10_code (1 : Nat) (Option.some (Jvm.ClassFile.FieldType.object "java/lang/Object"))) : Jvm.Cond).before a0 Z = true := hw _ (List.mem_of_getElem? (i := 44) rfl)
theorem wd45 {a0 : Array Value} {Z : State} (hw : ∀ d ∈ tables_1, d.before a0 Z = true) : ((Jvm.Cond.fieldLink "java/lang/Boolean" (31 : Nat) "java/lang/Boolean" "FALSE" "Ljava/lang/Boolean;") : Jvm.Cond).before a0 Z = true := hw _ (List.mem_of_getElem? (i := 45) rfl)
theorem wd46 {a0 : Array Value} {Z : State} (hw : ∀ d ∈ tables_1, d.before a0 Z = true) : ((Jvm.Cond.fieldLink "com/example/reckon/reckon/core/EvaluationsSemanticMayEndEarlyPinLaw" (17 : Nat) "com/example/reckon/reckon/core/EvaluationsSemantic" "PERMIT_ON_FIRST_PERMIT" "Lcom/example/reckon/reckon/core/EvaluationsSemantic;") : Jvm.Cond).before a0 Z = true := hw _ (List.mem_of_getElem? (i := 46) rfl)
theorem wd47 {a0 : Array Value} {Z : State} (hw : ∀ d ∈ tables_1, d.before a0 Z = true) : ((Jvm.Cond.laysStatic "com/example/reckon/reckon/core/EvaluationsSemantic" "PERMIT_ON_FIRST_PERMIT" "Lcom/example/reckon/reckon/core/EvaluationsSemantic;") : Jvm.Cond).before a0 Z = true := hw _ (List.mem_of_getElem? (i := 47) rfl)
theorem wd48 {a0 : Array Value} {Z : State} (hw : ∀ d ∈ tables_1, d.before a0 Z = true) : ((Jvm.Cond.selects "java/util/ImmutableCollections$Set12" ({ cls := "java/util/Set", name := "isEmpty", desc := "()Z" } : Jvm.MethodName) ({ cls := "java/util/ImmutableCollections$Set12", name := "isEmpty", desc := "()Z" } : Jvm.MethodName)) : Jvm.Cond).before a0 Z = true := hw _ (List.mem_of_getElem? (i := 48) rfl)
theorem wd49 {a0 : Array Value} {Z : State} (hw : ∀ d ∈ tables_1, d.before a0 Z = true) : ((Jvm.Cond.instanceMethod ({ cls := "java/util/ImmutableCollections$Set12", name := "isEmpty", desc := "()Z" } : Jvm.MethodName)) : Jvm.Cond).before a0 Z = true := hw _ (List.mem_of_getElem? (i := 49) rfl)
theorem wd50 {a0 : Array Value} {Z : State} (hw : ∀ d ∈ tables_1, d.before a0 Z = true) : ((Jvm.Cond.publicMethod ({ cls := "java/util/ImmutableCollections$Set12", name := "isEmpty", desc := "()Z" } : Jvm.MethodName)) : Jvm.Cond).before a0 Z = true := hw _ (List.mem_of_getElem? (i := 50) rfl)
theorem wd51 {a0 : Array Value} {Z : State} (hw : ∀ d ∈ tables_1, d.before a0 Z = true) : ((Jvm.Cond.unhidden "java/util/ImmutableCollections$Set12" "isEmpty" "()Z") : Jvm.Cond).before a0 Z = true := hw _ (List.mem_of_getElem? (i := 51) rfl)
theorem wd52 {a0 : Array Value} {Z : State} (hw : ∀ d ∈ tables_1, d.before a0 Z = true) : ((Jvm.Cond.castable "java/util/ImmutableCollections$Set12" "java/util/Set") : Jvm.Cond).before a0 Z = true := hw _ (List.mem_of_getElem? (i := 52) rfl)
theorem wd53 {a0 : Array Value} {Z : State} (hw : ∀ d ∈ tables_1, d.before a0 Z = true) : ((Jvm.Cond.initialized "java/util/ImmutableCollections$Set12") : Jvm.Cond).before a0 Z = true := hw _ (List.mem_of_getElem? (i := 53) rfl)
theorem wd54 {a0 : Array Value} {Z : State} (hw : ∀ d ∈ tables_1, d.before a0 Z = true) : ((Jvm.Cond.code ({ cls := "java/util/ImmutableCollections$Set12", name := "isEmpty", desc := "()Z" } : Jvm.MethodName) jdk_101_method_4_code (1 : Nat) (Option.some Jvm.ClassFile.FieldType.boolean)) : Jvm.Cond).before a0 Z = true := hw _ (List.mem_of_getElem? (i := 54) rfl)
theorem wd55 {a0 : Array Value} {Z : State} (hw : ∀ d ∈ tables_1, d.before a0 Z = true) : ((Jvm.Cond.selects "java/util/ImmutableCollections$Set12" ({ cls := "java/util/Set", name := "contains", desc := "(Ljava/lang/Object;)Z" } : Jvm.MethodName) ({ cls := "java/util/ImmutableCollections$Set12", name := "contains", desc := "(Ljava/lang/Object;)Z" } : Jvm.MethodName)) : Jvm.Cond).before a0 Z = true := hw _ (List.mem_of_getElem? (i := 55) rfl)
theorem wd56 {a0 : Array Value} {Z : State} (hw : ∀ d ∈ tables_1, d.before a0 Z = true) : ((Jvm.Cond.instanceMethod ({ cls := "java/util/ImmutableCollections$Set12", name := "contains", desc := "(Ljava/lang/Object;)Z" } : Jvm.MethodName)) : Jvm.Cond).before a0 Z = true := hw _ (List.mem_of_getElem? (i := 56) rfl)
theorem wd57 {a0 : Array Value} {Z : State} (hw : ∀ d ∈ tables_1, d.before a0 Z = true) : ((Jvm.Cond.publicMethod ({ cls := "java/util/ImmutableCollections$Set12", name := "contains", desc := "(Ljava/lang/Object;)Z" } : Jvm.MethodName)) : Jvm.Cond).before a0 Z = true := hw _ (List.mem_of_getElem? (i := 57) rfl)
theorem wd58 {a0 : Array Value} {Z : State} (hw : ∀ d ∈ tables_1, d.before a0 Z = true) : ((Jvm.Cond.unhidden "java/util/ImmutableCollections$Set12" "contains" "(Ljava/lang/Object;)Z") : Jvm.Cond).before a0 Z = true := hw _ (List.mem_of_getElem? (i := 58) rfl)
theorem wd59 {a0 : Array Value} {Z : State} (hw : ∀ d ∈ tables_1, d.before a0 Z = true) : ((Jvm.Cond.code ({ cls := "java/util/ImmutableCollections$Set12", name := "contains", desc := "(Ljava/lang/Object;)Z" } : Jvm.MethodName) jdk_101_method_5_code (2 : Nat) (Option.some Jvm.ClassFile.FieldType.boolean)) : Jvm.Cond).before a0 Z = true := hw _ (List.mem_of_getElem? (i := 59) rfl)
theorem wd60 {a0 : Array Value} {Z : State} (hw : ∀ d ∈ tables_1, d.before a0 Z = true) : ((Jvm.Cond.fieldLink "java/util/ImmutableCollections$Set12" (13 : Nat) "java/util/ImmutableCollections$Set12" "e0" "Ljava/lang/Object;") : Jvm.Cond).before a0 Z = true := hw _ (List.mem_of_getElem? (i := 60) rfl)
theorem wd62 {a0 : Array Value} {Z : State} (hw : ∀ d ∈ tables_1, d.before a0 Z = true) : ((Jvm.Cond.methodLink "java/util/ImmutableCollections$Set12" (27 : Nat) ({ cls := "java/lang/Object", name := "equals", desc := "(Ljava/lang/Object;)Z" } : Jvm.MethodName)) : Jvm.Cond).before a0 Z = true := hw _ (List.mem_of_getElem? (i := 62) rfl)
theorem wd63 {a0 : Array Value} {Z : State} (hw : ∀ d ∈ tables_1, d.before a0 Z = true) : ((Jvm.Cond.declares ({ cls := "java/lang/Object", name := "equals", desc := "(Ljava/lang/Object;)Z" } : Jvm.MethodName)) : Jvm.Cond).before a0 Z = true := hw _ (List.mem_of_getElem? (i := 63) rfl)
theorem wd64 {a0 : Array Value} {Z : State} (hw : ∀ d ∈ tables_1, d.before a0 Z = true) : ((Jvm.Cond.instanceMethod ({ cls := "java/lang/Object", name := "equals", desc := "(Ljava/lang/Object;)Z" } : Jvm.MethodName)) : Jvm.Cond).before a0 Z = true := hw _ (List.mem_of_getElem? (i := 64) rfl)
theorem wd65 {a0 : Array Value} {Z : State} (hw : ∀ d ∈ tables_1, d.before a0 Z = true) : ((Jvm.Cond.selects "java/lang/Boolean" ({ cls := "java/lang/Object", name := "equals", desc := "(Ljava/lang/Object;)Z" } : Jvm.MethodName) ({ cls := "java/lang/Boolean", name := "equals", desc := "(Ljava/lang/Object;)Z" } : Jvm.MethodName)) : Jvm.Cond).before a0 Z = true := hw _ (List.mem_of_getElem? (i := 65) rfl)
theorem wd66 {a0 : Array Value} {Z : State} (hw : ∀ d ∈ tables_1, d.before a0 Z = true) : ((Jvm.Cond.instanceMethod ({ cls := "java/lang/Boolean", name := "equals", desc := "(Ljava/lang/Object;)Z" } : Jvm.MethodName)) : Jvm.Cond).before a0 Z = true := hw _ (List.mem_of_getElem? (i := 66) rfl)
theorem wd67 {a0 : Array Value} {Z : State} (hw : ∀ d ∈ tables_1, d.before a0 Z = true) : ((Jvm.Cond.code ({ cls := "java/lang/Boolean", name := "equals", desc := "(Ljava/lang/Object;)Z" } : Jvm.MethodName) jdk_2055_method_11_code (2 : Nat) (Option.some Jvm.ClassFile.FieldType.boolean)) : Jvm.Cond).before a0 Z = true := hw _ (List.mem_of_getElem? (i := 67) rfl)
theorem wd68 {a0 : Array Value} {Z : State} (hw : ∀ d ∈ tables_1, d.before a0 Z = true) : ((Jvm.Cond.classLink "java/lang/Boolean" (8 : Nat) "java/lang/Boolean") : Jvm.Cond).before a0 Z = true := hw _ (List.mem_of_getElem? (i := 68) rfl)
theorem wd70 {a0 : Array Value} {Z : State} (hw : ∀ d ∈ tables_1, d.before a0 Z = true) : ((Jvm.Cond.fieldLink "java/lang/Boolean" (7 : Nat) "java/lang/Boolean" "value" "Z") : Jvm.Cond).before a0 Z = true := hw _ (List.mem_of_getElem? (i := 70) rfl)
theorem wd72 {a0 : Array Value} {Z : State} (hw : ∀ d ∈ tables_1, d.before a0 Z = true) : ((Jvm.Cond.methodLink "java/lang/Boolean" (42 : Nat) ({ cls := "java/lang/Boolean", name := "booleanValue", desc := "()Z" } : Jvm.MethodName)) : Jvm.Cond).before a0 Z = true := hw _ (List.mem_of_getElem? (i := 72) rfl)
theorem wd73 {a0 : Array Value} {Z : State} (hw : ∀ d ∈ tables_1, d.before a0 Z = true) : ((Jvm.Cond.declares ({ cls := "java/lang/Boolean", name := "booleanValue", desc := "()Z" } : Jvm.MethodName)) : Jvm.Cond).before a0 Z = true := hw _ (List.mem_of_getElem? (i := 73) rfl)
theorem wd74 {a0 : Array Value} {Z : State} (hw : ∀ d ∈ tables_1, d.before a0 Z = true) : ((Jvm.Cond.instanceMethod ({ cls := "java/lang/Boolean", name := "booleanValue", desc := "()Z" } : Jvm.MethodName)) : Jvm.Cond).before a0 Z = true := hw _ (List.mem_of_getElem? (i := 74) rfl)
theorem wd75 {a0 : Array Value} {Z : State} (hw : ∀ d ∈ tables_1, d.before a0 Z = true) : ((Jvm.Cond.selects "java/lang/Boolean" ({ cls := "java/lang/Boolean", name := "booleanValue", desc := "()Z" } : Jvm.MethodName) ({ cls := "java/lang/Boolean", name := "booleanValue", desc := "()Z" } : Jvm.MethodName)) : Jvm.Cond).before a0 Z = true := hw _ (List.mem_of_getElem? (i := 75) rfl)
theorem wd76 {a0 : Array Value} {Z : State} (hw : ∀ d ∈ tables_1, d.before a0 Z = true) : ((Jvm.Cond.code ({ cls := "java/lang/Boolean", name := "booleanValue", desc := "()Z" } : Jvm.MethodName) jdk_2055_method_4_code (1 : Nat) (Option.some Jvm.ClassFile.FieldType.boolean)) : Jvm.Cond).before a0 Z = true := hw _ (List.mem_of_getElem? (i := 76) rfl)
theorem wd77 {a0 : Array Value} {Z : State} (hw : ∀ d ∈ tables_1, d.before a0 Z = true) : ((Jvm.Cond.fieldLink "com/example/reckon/reckon/core/EvaluationsSemanticMayEndEarlyPinLaw" (14 : Nat) "com/example/reckon/reckon/core/EvaluationsSemantic" "DENY_ON_FIRST_DENY" "Lcom/example/reckon/reckon/core/EvaluationsSemantic;") : Jvm.Cond).before a0 Z = true := hw _ (List.mem_of_getElem? (i := 77) rfl)
theorem wd78 {a0 : Array Value} {Z : State} (hw : ∀ d ∈ tables_1, d.before a0 Z = true) : ((Jvm.Cond.laysStatic "com/example/reckon/reckon/core/EvaluationsSemantic" "DENY_ON_FIRST_DENY" "Lcom/example/reckon/reckon/core/EvaluationsSemantic;") : Jvm.Cond).before a0 Z = true := hw _ (List.mem_of_getElem? (i := 78) rfl)
theorem wd79 {a0 : Array Value} {Z : State} (hw : ∀ d ∈ tables_1, d.before a0 Z = true) : ((Jvm.Cond.fieldLink "java/util/ImmutableCollections$Set12" (24 : Nat) "java/util/ImmutableCollections$Set12" "e1" "Ljava/lang/Object;") : Jvm.Cond).before a0 Z = true := hw _ (List.mem_of_getElem? (i := 79) rfl)
theorem wd81 {a0 : Array Value} {Z : State} (hw : ∀ d ∈ tables_1, d.before a0 Z = true) : ((Jvm.Cond.selects "java/lang/Object" ({ cls := "java/lang/Object", name := "equals", desc := "(Ljava/lang/Object;)Z" } : Jvm.MethodName) ({ cls := "java/lang/Object", name := "equals", desc := "(Ljava/lang/Object;)Z" } : Jvm.MethodName)) : Jvm.Cond).before a0 Z = true := hw _ (List.mem_of_getElem? (i := 81) rfl)
theorem wd82 {a0 : Array Value} {Z : State} (hw : ∀ d ∈ tables_1, d.before a0 Z = true) : ((Jvm.Cond.code ({ cls := "java/lang/Object", name := "equals", desc := "(Ljava/lang/Object;)Z" } : Jvm.MethodName) object_method_4_code (2 : Nat) (Option.some Jvm.ClassFile.FieldType.boolean)) : Jvm.Cond).before a0 Z = true := hw _ (List.mem_of_getElem? (i := 82) rfl)
set_option maxRecDepth 65536 in
set_option maxHeartbeats 40000000 in
theorem m_vb0 (l : Launch) (Z : State) (a0 : Array Value) (hw : ∀ d ∈ tables_1, d.before a0 Z = true) (hB : Heap) (H : List Rec) (b0 b1 : Addr) (sT : Sta Z hB "java/lang/Boolean" "TRUE" "Ljava/lang/Boolean;" (.ref b1)) (sF : Sta Z hB "java/lang/Boolean" "FALSE" "Ljava/lang/Boolean;" (.ref b0)) (E0 : Exa Z hB b0 "java/lang/Boolean") (E1 : Exa Z hB b1 "java/lang/Boolean") (F0 : Fld Z hB b0 "java/lang/Boolean" "value" "Z" (.int 0)) (F1 : Fld Z hB b1 "java/lang/Boolean" "value" "Z" (.int 1)) : Ctr l Z hB ({ cls := "java/lang/Boolean", name := "valueOf", desc := "(Z)Ljava/lang/Boolean;" } : Jvm.MethodName) jdk_2055_method_5_code 1 (some (.object "java/lang/Boolean")) [] ({ frames := 0, cells := 0, slots := 0, locals := 0 } : Room) #[(.int (0 : Int32))] H (fun v H' => v = some (.ref b0) ∧ H' = H) := by
  refine Wk.ctr pn_0 (Ls := #[.val (.int (0 : Int32))]) (fun m => by first | rfl | (simp [entryFrame, mkF, argsToLocals, Value.category]; done)) ?_
  refine Wk.iloadN (pc' := 1) d3_0 rfl rfl ?_
  refine Wk.ifY (pc' := 10) d3_1 (XT.i0_eq_t rfl) (by decide) (by decide) ?_
  refine Wk.getSt (pc' := 13) d3_10 (wd45 hw) sF rfl ?_
  exact Wk.aret (t := (.object "java/lang/Boolean")) d3_13 rfl rfl rfl (by simp <;> omega) (Nat.le_of_ble_eq_true rfl) ⟨rfl, rfl⟩
set_option maxRecDepth 65536 in
set_option maxHeartbeats 40000000 in
theorem m_vb1 (l : Launch) (Z : State) (a0 : Array Value) (hw : ∀ d ∈ tables_1, d.before a0 Z = true) (hB : Heap) (H : List Rec) (b0 b1 : Addr) (sT : Sta Z hB "java/lang/Boolean" "TRUE" "Ljava/lang/Boolean;" (.ref b1)) (sF : Sta Z hB "java/lang/Boolean" "FALSE" "Ljava/lang/Boolean;" (.ref b0)) (E0 : Exa Z hB b0 "java/lang/Boolean") (E1 : Exa Z hB b1 "java/lang/Boolean") (F0 : Fld Z hB b0 "java/lang/Boolean" "value" "Z" (.int 0)) (F1 : Fld Z hB b1 "java/lang/Boolean" "value" "Z" (.int 1)) : Ctr l Z hB ({ cls := "java/lang/Boolean", name := "valueOf", desc := "(Z)Ljava/lang/Boolean;" } : Jvm.MethodName) jdk_2055_method_5_code 1 (some (.object "java/lang/Boolean")) [] ({ frames := 0, cells := 0, slots := 0, locals := 0 } : Room) #[(.int (1 : Int32))] H (fun v H' => v = some (.ref b1) ∧ H' = H) := by
  refine Wk.ctr pn_0 (Ls := #[.val (.int (1 : Int32))]) (fun m => by first | rfl | (simp [entryFrame, mkF, argsToLocals, Value.category]; done)) ?_
  refine Wk.iloadN (pc' := 1) d3_0 rfl rfl ?_
  refine Wk.ifN (pc' := 4) d3_1 (XT.i0_eq_f (by decide)) rfl ?_
  refine Wk.getSt (pc' := 7) d3_4 (wd32 hw) sT rfl ?_
  refine Wk.goTo (pc' := 13) d3_7 (by decide) (by decide) ?_
  exact Wk.aret (t := (.object "java/lang/Boolean")) d3_13 rfl rfl rfl (by simp <;> omega) (Nat.le_of_ble_eq_true rfl) ⟨rfl, rfl⟩
set_option maxRecDepth 65536 in
set_option maxHeartbeats 40000000 in
theorem m_bv0 (l : Launch) (Z : State) (a0 : Array Value) (hw : ∀ d ∈ tables_1, d.before a0 Z = true) (hB : Heap) (H : List Rec) (b : Addr) (F : Fld Z hB b "java/lang/Boolean" "value" "Z" (.int 0)) : Ctr l Z hB ({ cls := "java/lang/Boolean", name := "booleanValue", desc := "()Z" } : Jvm.MethodName) jdk_2055_method_4_code 1 (some .boolean) [] ({ frames := 0, cells := 0, slots := 0, locals := 0 } : Room) #[(.ref b)] H (fun v H' => v = some (.int 0) ∧ H' = H) := by
  refine Wk.ctr pn_1 (Ls := #[.val (.ref b)]) (fun m => by first | rfl | (simp [entryFrame, mkF, argsToLocals, Value.category]; done)) ?_
  refine Wk.aloadN (pc' := 1) d9_0 rfl rfl rfl ?_
  refine Wk.getFold (pc' := 4) d9_1 (wd70 hw) F rfl ?_
  exact Wk.iret (t := .boolean) d9_4 rfl (by simp) rfl (by simp <;> omega) (Nat.le_of_ble_eq_true rfl) ⟨rfl, rfl⟩
set_option maxRecDepth 65536 in
set_option maxHeartbeats 40000000 in
theorem m_bv1 (l : Launch) (Z : State) (a0 : Array Value) (hw : ∀ d ∈ tables_1, d.before a0 Z = true) (hB : Heap) (H : List Rec) (b : Addr) (F : Fld Z hB b "java/lang/Boolean" "value" "Z" (.int 1)) : Ctr l Z hB ({ cls := "java/lang/Boolean", name := "booleanValue", desc := "()Z" } : Jvm.MethodName) jdk_2055_method_4_code 1 (some .boolean) [] ({ frames := 0, cells := 0, slots := 0, locals := 0 } : Room) #[(.ref b)] H (fun v H' => v = some (.int 1) ∧ H' = H) := by
  refine Wk.ctr pn_1 (Ls := #[.val (.ref b)]) (fun m => by first | rfl | (simp [entryFrame, mkF, argsToLocals, Value.category]; done)) ?_
  refine Wk.aloadN (pc' := 1) d9_0 rfl rfl rfl ?_
  refine Wk.getFold (pc' := 4) d9_1 (wd70 hw) F rfl ?_
  exact Wk.iret (t := .boolean) d9_4 rfl (by simp) rfl (by simp <;> omega) (Nat.le_of_ble_eq_true rfl) ⟨rfl, rfl⟩
set_option maxRecDepth 65536 in
set_option maxHeartbeats 40000000 in
theorem m_beq00 (l : Launch) (Z : State) (a0 : Array Value) (hw : ∀ d ∈ tables_1, d.before a0 Z = true) (hB : Heap) (H : List Rec) (b0 b1 : Addr) (sT : Sta Z hB "java/lang/Boolean" "TRUE" "Ljava/lang/Boolean;" (.ref b1)) (sF : Sta Z hB "java/lang/Boolean" "FALSE" "Ljava/lang/Boolean;" (.ref b0)) (E0 : Exa Z hB b0 "java/lang/Boolean") (E1 : Exa Z hB b1 "java/lang/Boolean") (F0 : Fld Z hB b0 "java/lang/Boolean" "value" "Z" (.int 0)) (F1 : Fld Z hB b1 "java/lang/Boolean" "value" "Z" (.int 1)) : Ctr l Z hB ({ cls := "java/lang/Boolean", name := "equals", desc := "(Ljava/lang/Object;)Z" } : Jvm.MethodName) jdk_2055_method_11_code 2 (some .boolean) [] ({ frames := 1, cells := 0, slots := 0, locals := 13 } : Room) #[(.ref b0), (.ref b0)] H (fun v H' => v = some (.int 1) ∧ H' = H) := by
  refine Wk.ctr pn_2 (Ls := #[.val (.ref b0), .val (.ref b0)]) (fun m => by first | rfl | (simp [entryFrame, mkF, argsToLocals, Value.category]; done)) ?_
  refine Wk.aloadN (pc' := 1) d8_0 rfl rfl rfl ?_
  refine Wk.instYes (pc' := 4) d8_1 (wd68 hw) (fun _ P => Ins.self (E0.ext P.toExt)) rfl ?_
  refine Wk.ifN (pc' := 7) d8_4 (XT.i0_eq_f (by decide)) rfl ?_
  refine Wk.aloadN (pc' := 8) d8_7 rfl rfl rfl ?_
  refine Wk.getFold (pc' := 11) d8_8 (wd70 hw) F0 rfl ?_
  refine Wk.aloadN (pc' := 12) d8_11 rfl rfl rfl ?_
  refine Wk.castTo (pc' := 15) d8_12 (wd68 hw) (fun _ P => Ins.self (E0.ext P.toExt)) rfl ?_
  refine Wk.callV (pc' := 18) (argsL := []) (st := [(.int (0 : Int32))]) d8_15 (wd72 hw) (wd73 hw) (Wk.nfSel (wd75 hw)) (wd75 hw) (wd74 hw) (wd30 hw) (wd76 hw) (by decide) (lenOf pd_0 rfl) (fun _ P => E0.ext P.toExt) (m_bv0 l Z a0 hw hB H b0 F0) rfl (Nat.le_of_ble_eq_true rfl) (Nat.le_of_ble_eq_true rfl) (by simp <;> omega) (Nat.le_of_ble_eq_true rfl) rfl rfl ?_
  rintro _ _ ⟨rfl, hH⟩; obtain rfl := hH.symm
  show WP l Z hB _ _ _ _ _ _ _ _ H _ _ [(.int (0 : Int32)), (.int (0 : Int32))]
  refine Wk.icN (pc' := 21) d8_18 (XT.ii_ne_f rfl) rfl ?_
  refine Wk.iconst (pc' := 22) (1 : Int32) d8_21 (by decide) rfl ?_
  refine Wk.goTo (pc' := 26) d8_22 (by decide) (by decide) ?_
  exact Wk.iret (t := .boolean) d8_26 rfl (by simp) rfl (by simp <;> omega) (Nat.le_of_ble_eq_true rfl) ⟨rfl, rfl⟩
set_option maxRecDepth 65536 in
set_option maxHeartbeats 40000000 in
theorem m_beq01 (l : Launch) (Z : State) (a0 : Array Value) (hw : ∀ d ∈ tables_1, d.before a0 Z = true) (hB : Heap) (H : List Rec) (b0 b1 : Addr) (sT : Sta Z hB "java/lang/Boolean" "TRUE" "Ljava/lang/Boolean;" (.ref b1)) (sF : Sta Z hB "java/lang/Boolean" "FALSE" "Ljava/lang/Boolean;" (.ref b0)) (E0 : Exa Z hB b0 "java/lang/Boolean") (E1 : Exa Z hB b1 "java/lang/Boolean") (F0 : Fld Z hB b0 "java/lang/Boolean" "value" "Z" (.int 0)) (F1 : Fld Z hB b1 "java/lang/Boolean" "value" "Z" (.int 1)) : Ctr l Z hB ({ cls := "java/lang/Boolean", name := "equals", desc := "(Ljava/lang/Object;)Z" } : Jvm.MethodName) jdk_2055_method_11_code 2 (some .boolean) [] ({ frames := 1, cells := 0, slots := 0, locals := 13 } : Room) #[(.ref b0), (.ref b1)] H (fun v H' => v = some (.int 0) ∧ H' = H) := by
  refine Wk.ctr pn_2 (Ls := #[.val (.ref b0), .val (.ref b1)]) (fun m => by first | rfl | (simp [entryFrame, mkF, argsToLocals, Value.category]; done)) ?_
  refine Wk.aloadN (pc' := 1) d8_0 rfl rfl rfl ?_
  refine Wk.instYes (pc' := 4) d8_1 (wd68 hw) (fun _ P => Ins.self (E1.ext P.toExt)) rfl ?_
  refine Wk.ifN (pc' := 7) d8_4 (XT.i0_eq_f (by decide)) rfl ?_
  refine Wk.aloadN (pc' := 8) d8_7 rfl rfl rfl ?_
  refine Wk.getFold (pc' := 11) d8_8 (wd70 hw) F0 rfl ?_
  refine Wk.aloadN (pc' := 12) d8_11 rfl rfl rfl ?_
  refine Wk.castTo (pc' := 15) d8_12 (wd68 hw) (fun _ P => Ins.self (E1.ext P.toExt)) rfl ?_
  refine Wk.callV (pc' := 18) (argsL := []) (st := [(.int (0 : Int32))]) d8_15 (wd72 hw) (wd73 hw) (Wk.nfSel (wd75 hw)) (wd75 hw) (wd74 hw) (wd30 hw) (wd76 hw) (by decide) (lenOf pd_0 rfl) (fun _ P => E1.ext P.toExt) (m_bv1 l Z a0 hw hB H b1 F1) rfl (Nat.le_of_ble_eq_true rfl) (Nat.le_of_ble_eq_true rfl) (by simp <;> omega) (Nat.le_of_ble_eq_true rfl) rfl rfl ?_
  rintro _ _ ⟨rfl, hH⟩; obtain rfl := hH.symm
  show WP l Z hB _ _ _ _ _ _ _ _ H _ _ [(.int (1 : Int32)), (.int (0 : Int32))]
  refine Wk.icY (pc' := 25) d8_18 (XT.ii_ne_t (by decide)) (by decide) (by decide) ?_
  refine Wk.iconst (pc' := 26) (0 : Int32) d8_25 (by decide) rfl ?_
  exact Wk.iret (t := .boolean) d8_26 rfl (by simp) rfl (by simp <;> omega) (Nat.le_of_ble_eq_true rfl) ⟨rfl, rfl⟩
set_option maxRecDepth 65536 in
set_option maxHeartbeats 40000000 in
theorem m_beq10 (l : Launch) (Z : State) (a0 : Array Value) (hw : ∀ d ∈ tables_1, d.before a0 Z = true) (hB : Heap) (H : List Rec) (b0 b1 : Addr) (sT : Sta Z hB "java/lang/Boolean" "TRUE" "Ljava/lang/Boolean;" (.ref b1)) (sF : Sta Z hB "java/lang/Boolean" "FALSE" "Ljava/lang/Boolean;" (.ref b0)) (E0 : Exa Z hB b0 "java/lang/Boolean") (E1 : Exa Z hB b1 "java/lang/Boolean") (F0 : Fld Z hB b0 "java/lang/Boolean" "value" "Z" (.int 0)) (F1 : Fld Z hB b1 "java/lang/Boolean" "value" "Z" (.int 1)) : Ctr l Z hB ({ cls := "java/lang/Boolean", name := "equals", desc := "(Ljava/lang/Object;)Z" } : Jvm.MethodName) jdk_2055_method_11_code 2 (some .boolean) [] ({ frames := 1, cells := 0, slots := 0, locals := 13 } : Room) #[(.ref b1), (.ref b0)] H (fun v H' => v = some (.int 0) ∧ H' = H) := by
  refine Wk.ctr pn_2 (Ls := #[.val (.ref b1), .val (.ref b0)]) (fun m => by first | rfl | (simp [entryFrame, mkF, argsToLocals, Value.category]; done)) ?_
  refine Wk.aloadN (pc' := 1) d8_0 rfl rfl rfl ?_
  refine Wk.instYes (pc' := 4) d8_1 (wd68 hw) (fun _ P => Ins.self (E0.ext P.toExt)) rfl ?_
  refine Wk.ifN (pc' := 7) d8_4 (XT.i0_eq_f (by decide)) rfl ?_
  refine Wk.aloadN (pc' := 8) d8_7 rfl rfl rfl ?_
  refine Wk.getFold (pc' := 11) d8_8 (wd70 hw) F1 rfl ?_
  refine Wk.aloadN (pc' := 12) d8_11 rfl rfl rfl ?_
  refine Wk.castTo (pc' := 15) d8_12 (wd68 hw) (fun _ P => Ins.self (E0.ext P.toExt)) rfl ?_
  refine Wk.callV (pc' := 18) (argsL := []) (st := [(.int (1 : Int32))]) d8_15 (wd72 hw) (wd73 hw) (Wk.nfSel (wd75 hw)) (wd75 hw) (wd74 hw) (wd30 hw) (wd76 hw) (by decide) (lenOf pd_0 rfl) (fun _ P => E0.ext P.toExt) (m_bv0 l Z a0 hw hB H b0 F0) rfl (Nat.le_of_ble_eq_true rfl) (Nat.le_of_ble_eq_true rfl) (by simp <;> omega) (Nat.le_of_ble_eq_true rfl) rfl rfl ?_
  rintro _ _ ⟨rfl, hH⟩; obtain rfl := hH.symm
  show WP l Z hB _ _ _ _ _ _ _ _ H _ _ [(.int (0 : Int32)), (.int (1 : Int32))]
  refine Wk.icY (pc' := 25) d8_18 (XT.ii_ne_t (by decide)) (by decide) (by decide) ?_
  refine Wk.iconst (pc' := 26) (0 : Int32) d8_25 (by decide) rfl ?_
  exact Wk.iret (t := .boolean) d8_26 rfl (by simp) rfl (by simp <;> omega) (Nat.le_of_ble_eq_true rfl) ⟨rfl, rfl⟩
set_option maxRecDepth 65536 in
set_option maxHeartbeats 40000000 in
theorem m_beq11 (l : Launch) (Z : State) (a0 : Array Value) (hw : ∀ d ∈ tables_1, d.before a0 Z = true) (hB : Heap) (H : List Rec) (b0 b1 : Addr) (sT : Sta Z hB "java/lang/Boolean" "TRUE" "Ljava/lang/Boolean;" (.ref b1)) (sF : Sta Z hB "java/lang/Boolean" "FALSE" "Ljava/lang/Boolean;" (.ref b0)) (E0 : Exa Z hB b0 "java/lang/Boolean") (E1 : Exa Z hB b1 "java/lang/Boolean") (F0 : Fld Z hB b0 "java/lang/Boolean" "value" "Z" (.int 0)) (F1 : Fld Z hB b1 "java/lang/Boolean" "value" "Z" (.int 1)) : Ctr l Z hB ({ cls := "java/lang/Boolean", name := "equals", desc := "(Ljava/lang/Object;)Z" } : Jvm.MethodName) jdk_2055_method_11_code 2 (some .boolean) [] ({ frames := 1, cells := 0, slots := 0, locals := 13 } : Room) #[(.ref b1), (.ref b1)] H (fun v H' => v = some (.int 1) ∧ H' = H) := by
  refine Wk.ctr pn_2 (Ls := #[.val (.ref b1), .val (.ref b1)]) (fun m => by first | rfl | (simp [entryFrame, mkF, argsToLocals, Value.category]; done)) ?_
  refine Wk.aloadN (pc' := 1) d8_0 rfl rfl rfl ?_
  refine Wk.instYes (pc' := 4) d8_1 (wd68 hw) (fun _ P => Ins.self (E1.ext P.toExt)) rfl ?_
  refine Wk.ifN (pc' := 7) d8_4 (XT.i0_eq_f (by decide)) rfl ?_
  refine Wk.aloadN (pc' := 8) d8_7 rfl rfl rfl ?_
  refine Wk.getFold (pc' := 11) d8_8 (wd70 hw) F1 rfl ?_
  refine Wk.aloadN (pc' := 12) d8_11 rfl rfl rfl ?_
  refine Wk.castTo (pc' := 15) d8_12 (wd68 hw) (fun _ P => Ins.self (E1.ext P.toExt)) rfl ?_
  refine Wk.callV (pc' := 18) (argsL := []) (st := [(.int (1 : Int32))]) d8_15 (wd72 hw) (wd73 hw) (Wk.nfSel (wd75 hw)) (wd75 hw) (wd74 hw) (wd30 hw) (wd76 hw) (by decide) (lenOf pd_0 rfl) (fun _ P => E1.ext P.toExt) (m_bv1 l Z a0 hw hB H b1 F1) rfl (Nat.le_of_ble_eq_true rfl) (Nat.le_of_ble_eq_true rfl) (by simp <;> omega) (Nat.le_of_ble_eq_true rfl) rfl rfl ?_
  rintro _ _ ⟨rfl, hH⟩; obtain rfl := hH.symm
  show WP l Z hB _ _ _ _ _ _ _ _ H _ _ [(.int (1 : Int32)), (.int (1 : Int32))]
  refine Wk.icN (pc' := 21) d8_18 (XT.ii_ne_f rfl) rfl ?_
  refine Wk.iconst (pc' := 22) (1 : Int32) d8_21 (by decide) rfl ?_
  refine Wk.goTo (pc' := 26) d8_22 (by decide) (by decide) ?_
  exact Wk.iret (t := .boolean) d8_26 rfl (by simp) rfl (by simp <;> omega) (Nat.le_of_ble_eq_true rfl) ⟨rfl, rfl⟩
set_option maxRecDepth 65536 in
set_option maxHeartbeats 40000000 in
theorem m_rnn (l : Launch) (Z : State) (a0 : Array Value) (hw : ∀ d ∈ tables_1, d.before a0 Z = true) (hB : Heap) (H : List Rec) (a : Addr) : Ctr l Z hB ({ cls := "java/util/Objects", name := "requireNonNull", desc := "(Ljava/lang/Object;)Ljava/lang/Object;" } : Jvm.MethodName) jdk_31_method_10_code 1 (some (.object "java/lang/Object")) [] ({ frames := 0, cells := 0, slots := 0, locals := 0 } : Room) #[(.ref a)] H (fun v H' => v = some (.ref a) ∧ H' = H) := by
  refine Wk.ctr pn_3 (Ls := #[.val (.ref a)]) (fun m => by first | rfl | (simp [entryFrame, mkF, argsToLocals, Value.category]; done)) ?_
  refine Wk.aloadN (pc' := 1) d5_0 rfl rfl rfl ?_
  refine Wk.nonnullY (pc' := 12) d5_1 (by decide) (by decide) ?_
  refine Wk.aloadN (pc' := 13) d5_12 rfl rfl rfl ?_
  exact Wk.aret (t := (.object "java/lang/Object")) d5_13 rfl rfl rfl (by simp <;> omega) (Nat.le_of_ble_eq_true rfl) ⟨rfl, rfl⟩
set_option maxRecDepth 65536 in
set_option maxHeartbeats 40000000 in
theorem m_ne (l : Launch) (Z : State) (a0 : Array Value) (hw : ∀ d ∈ tables_1, d.before a0 Z = true) (hB : Heap) (H : List Rec) (n : Addr) (Fn : Fld Z hB n "java/util/ImmutableCollections$SetN" "size" "I" (.int 0)) : Ctr l Z hB ({ cls := "java/util/ImmutableCollections$SetN", name := "isEmpty", desc := "()Z" } : Jvm.MethodName) jdk_132_method_3_code 1 (some .boolean) [] ({ frames := 0, cells := 0, slots := 0, locals := 0 } : Room) #[(.ref n)] H (fun v H' => v = some (.int 1) ∧ H' = H) := by
  refine Wk.ctr pn_4 (Ls := #[.val (.ref n)]) (fun m => by first | rfl | (simp [entryFrame, mkF, argsToLocals, Value.category]; done)) ?_
  refine Wk.aloadN (pc' := 1) d1_0 rfl rfl rfl ?_
  refine Wk.getFold (pc' := 4) d1_1 (wd21 hw) Fn rfl ?_
  refine Wk.ifN (pc' := 7) d1_4 (XT.i0_ne_f rfl) rfl ?_
  refine Wk.iconst (pc' := 8) (1 : Int32) d1_7 (by decide) rfl ?_
  refine Wk.goTo (pc' := 12) d1_8 (by decide) (by decide) ?_
  exact Wk.iret (t := .boolean) d1_12 rfl (by simp) rfl (by simp <;> omega) (Nat.le_of_ble_eq_true rfl) ⟨rfl, rfl⟩
set_option maxRecDepth 65536 in
set_option maxHeartbeats 40000000 in
theorem m_nc (l : Launch) (Z : State) (a0 : Array Value) (hw : ∀ d ∈ tables_1, d.before a0 Z = true) (hB : Heap) (H : List Rec) (n a : Addr) (Fn : Fld Z hB n "java/util/ImmutableCollections$SetN" "size" "I" (.int 0)) : Ctr l Z hB ({ cls := "java/util/ImmutableCollections$SetN", name := "contains", desc := "(Ljava/lang/Object;)Z" } : Jvm.MethodName) jdk_132_method_4_code 2 (some .boolean) [] ({ frames := 1, cells := 0, slots := 0, locals := 12 } : Room) #[(.ref n), (.ref a)] H (fun v H' => v = some (.int 0) ∧ H' = H) := by
  refine Wk.ctr pn_5 (Ls := #[.val (.ref n), .val (.ref a)]) (fun m => by first | rfl | (simp [entryFrame, mkF, argsToLocals, Value.category]; done)) ?_
  refine Wk.aloadN (pc' := 1) d4_0 rfl rfl rfl ?_
  refine Wk.callS (pc' := 4) (argsL := [(.ref a)]) (st := []) d4_1 (wd41 hw) (wd42 hw) (wd43 hw) (wd44 hw) (by decide) (lenOf pd_1 rfl) (m_rnn l Z a0 hw hB H a) rfl (Nat.le_of_ble_eq_true rfl) (Nat.le_of_ble_eq_true rfl) (by simp <;> omega) (Nat.le_of_ble_eq_true rfl) rfl rfl ?_
  rintro _ _ ⟨rfl, hH⟩; obtain rfl := hH.symm
  show WP l Z hB _ _ _ _ _ _ _ _ H _ _ [(.ref a)]
  refine Wk.popV (pc' := 5) d4_4 rfl rfl ?_
  refine Wk.aloadN (pc' := 6) d4_5 rfl rfl rfl ?_
  refine Wk.getFold (pc' := 9) d4_6 (wd21 hw) Fn rfl ?_
  refine Wk.ifY (pc' := 24) d4_9 (XT.i0_le_t (by decide)) (by decide) (by decide) ?_
  refine Wk.iconst (pc' := 25) (0 : Int32) d4_24 (by decide) rfl ?_
  exact Wk.iret (t := .boolean) d4_25 rfl (by simp) rfl (by simp <;> omega) (Nat.le_of_ble_eq_true rfl) ⟨rfl, rfl⟩
set_option maxRecDepth 65536 in
set_option maxHeartbeats 40000000 in
theorem m_te (l : Launch) (Z : State) (a0 : Array Value) (hw : ∀ d ∈ tables_1, d.before a0 Z = true) (hB : Heap) (H : List Rec) (n : Addr) : Ctr l Z hB ({ cls := "java/util/ImmutableCollections$Set12", name := "isEmpty", desc := "()Z" } : Jvm.MethodName) jdk_101_method_4_code 1 (some .boolean) [] ({ frames := 0, cells := 0, slots := 0, locals := 0 } : Room) #[(.ref n)] H (fun v H' => v = some (.int 0) ∧ H' = H) := by
  refine Wk.ctr pn_6 (Ls := #[.val (.ref n)]) (fun m => by first | rfl | (simp [entryFrame, mkF, argsToLocals, Value.category]; done)) ?_
  refine Wk.iconst (pc' := 1) (0 : Int32) d6_0 (by decide) rfl ?_
  exact Wk.iret (t := .boolean) d6_1 rfl (by simp) rfl (by simp <;> omega) (Nat.le_of_ble_eq_true rfl) ⟨rfl, rfl⟩
set_option maxRecDepth 65536 in
set_option maxHeartbeats 40000000 in
theorem m_tc00 (l : Launch) (Z : State) (a0 : Array Value) (hw : ∀ d ∈ tables_1, d.before a0 Z = true) (hB : Heap) (H : List Rec) (b0 b1 : Addr) (sT : Sta Z hB "java/lang/Boolean" "TRUE" "Ljava/lang/Boolean;" (.ref b1)) (sF : Sta Z hB "java/lang/Boolean" "FALSE" "Ljava/lang/Boolean;" (.ref b0)) (E0 : Exa Z hB b0 "java/lang/Boolean") (E1 : Exa Z hB b1 "java/lang/Boolean") (F0 : Fld Z hB b0 "java/lang/Boolean" "value" "Z" (.int 0)) (F1 : Fld Z hB b1 "java/lang/Boolean" "value" "Z" (.int 1)) (u xx : Addr) (U0 : Fld Z hB u "java/util/ImmutableCollections$Set12" "e0" "Ljava/lang/Object;" (.ref b0)) (U1 : Fld Z hB u "java/util/ImmutableCollections$Set12" "e1" "Ljava/lang/Object;" (.ref xx)) (EX : Exa Z hB xx "java/lang/Object") : Ctr l Z hB ({ cls := "java/util/ImmutableCollections$Set12", name := "contains", desc := "(Ljava/lang/Object;)Z" } : Jvm.MethodName) jdk_101_method_5_code 2 (some .boolean) [] ({ frames := 2, cells := 0, slots := 0, locals := 26 } : Room) #[(.ref u), (.ref b0)] H (fun v H' => v = some (.int 1) ∧ H' = H) := by
  refine Wk.ctr pn_7 (Ls := #[.val (.ref u), .val (.ref b0)]) (fun m => by first | rfl | (simp [entryFrame, mkF, argsToLocals, Value.category]; done)) ?_
  refine Wk.aloadN (pc' := 1) d7_0 rfl rfl rfl ?_
  refine Wk.aloadN (pc' := 2) d7_1 rfl rfl rfl ?_
  refine Wk.getFold (pc' := 5) d7_2 (wd60 hw) U0 rfl ?_
  refine Wk.callV (pc' := 8) (argsL := [(.ref b0)]) (st := []) d7_5 (wd62 hw) (wd63 hw) (Wk.nfSel (wd81 hw)) (wd65 hw) (wd66 hw) (wd30 hw) (wd67 hw) (by decide) (lenOf pd_2 rfl) (fun _ P => E0.ext P.toExt) (m_beq00 l Z a0 hw hB H b0 b1 sT sF E0 E1 F0 F1) rfl (Nat.le_of_ble_eq_true rfl) (Nat.le_of_ble_eq_true rfl) (by simp <;> omega) (Nat.le_of_ble_eq_true rfl) rfl rfl ?_
  rintro _ _ ⟨rfl, hH⟩; obtain rfl := hH.symm
  show WP l Z hB _ _ _ _ _ _ _ _ H _ _ [(.int (1 : Int32))]
  refine Wk.ifY (pc' := 22) d7_8 (XT.i0_ne_t (by decide)) (by decide) (by decide) ?_
  refine Wk.iconst (pc' := 23) (1 : Int32) d7_22 (by decide) rfl ?_
  refine Wk.goTo (pc' := 27) d7_23 (by decide) (by decide) ?_
  exact Wk.iret (t := .boolean) d7_27 rfl (by simp) rfl (by simp <;> omega) (Nat.le_of_ble_eq_true rfl) ⟨rfl, rfl⟩
set_option maxRecDepth 65536 in
set_option maxHeartbeats 40000000 in
theorem m_tc01 (l : Launch) (Z : State) (a0 : Array Value) (hw : ∀ d ∈ tables_1, d.before a0 Z = true) (hB : Heap) (H : List Rec) (b0 b1 : Addr) (sT : Sta Z hB "java/lang/Boolean" "TRUE" "Ljava/lang/Boolean;" (.ref b1)) (sF : Sta Z hB "java/lang/Boolean" "FALSE" "Ljava/lang/Boolean;" (.ref b0)) (E0 : Exa Z hB b0 "java/lang/Boolean") (E1 : Exa Z hB b1 "java/lang/Boolean") (F0 : Fld Z hB b0 "java/lang/Boolean" "value" "Z" (.int 0)) (F1 : Fld Z hB b1 "java/lang/Boolean" "value" "Z" (.int 1)) (u xx : Addr) (U0 : Fld Z hB u "java/util/ImmutableCollections$Set12" "e0" "Ljava/lang/Object;" (.ref b0)) (U1 : Fld Z hB u "java/util/ImmutableCollections$Set12" "e1" "Ljava/lang/Object;" (.ref xx)) (EX : Exa Z hB xx "java/lang/Object") : Ctr l Z hB ({ cls := "java/util/ImmutableCollections$Set12", name := "contains", desc := "(Ljava/lang/Object;)Z" } : Jvm.MethodName) jdk_101_method_5_code 2 (some .boolean) [] ({ frames := 2, cells := 0, slots := 0, locals := 26 } : Room) #[(.ref u), (.ref b1)] H (fun v H' => v = some (.int 0) ∧ H' = H) := by
  refine Wk.ctr pn_7 (Ls := #[.val (.ref u), .val (.ref b1)]) (fun m => by first | rfl | (simp [entryFrame, mkF, argsToLocals, Value.category]; done)) ?_
  refine Wk.aloadN (pc' := 1) d7_0 rfl rfl rfl ?_
  refine Wk.aloadN (pc' := 2) d7_1 rfl rfl rfl ?_
  refine Wk.getFold (pc' := 5) d7_2 (wd60 hw) U0 rfl ?_
  refine Wk.callV (pc' := 8) (argsL := [(.ref b0)]) (st := []) d7_5 (wd62 hw) (wd63 hw) (Wk.nfSel (wd81 hw)) (wd65 hw) (wd66 hw) (wd30 hw) (wd67 hw) (by decide) (lenOf pd_2 rfl) (fun _ P => E1.ext P.toExt) (m_beq10 l Z a0 hw hB H b0 b1 sT sF E0 E1 F0 F1) rfl (Nat.le_of_ble_eq_true rfl) (Nat.le_of_ble_eq_true rfl) (by simp <;> omega) (Nat.le_of_ble_eq_true rfl) rfl rfl ?_
  rintro _ _ ⟨rfl, hH⟩; obtain rfl := hH.symm
  show WP l Z hB _ _ _ _ _ _ _ _ H _ _ [(.int (0 : Int32))]
  refine Wk.ifN (pc' := 11) d7_8 (XT.i0_ne_f rfl) rfl ?_
  refine Wk.aloadN (pc' := 12) d7_11 rfl rfl rfl ?_
  refine Wk.getFold (pc' := 15) d7_12 (wd79 hw) U1 rfl ?_
  refine Wk.aloadN (pc' := 16) d7_15 rfl rfl rfl ?_
  refine Wk.objEqNo (pc' := 19) d7_16 (wd62 hw) (wd63 hw) (Wk.nfSel (wd81 hw)) (wd81 hw) (wd64 hw) (wd82 hw) (fun _ P => EX.ext P.toExt) (Wk.exaNe EX E1 (by decide)) rfl (Nat.le_of_ble_eq_true rfl) (Nat.le_of_ble_eq_true rfl) rfl ?_
  refine Wk.ifY (pc' := 26) d7_19 (XT.i0_eq_t rfl) (by decide) (by decide) ?_
  refine Wk.iconst (pc' := 27) (0 : Int32) d7_26 (by decide) rfl ?_
  exact Wk.iret (t := .boolean) d7_27 rfl (by simp) rfl (by simp <;> omega) (Nat.le_of_ble_eq_true rfl) ⟨rfl, rfl⟩
set_option maxRecDepth 65536 in
set_option maxHeartbeats 40000000 in
theorem m_tc10 (l : Launch) (Z : State) (a0 : Array Value) (hw : ∀ d ∈ tables_1, d.before a0 Z = true) (hB : Heap) (H : List Rec) (b0 b1 : Addr) (sT : Sta Z hB "java/lang/Boolean" "TRUE" "Ljava/lang/Boolean;" (.ref b1)) (sF : Sta Z hB "java/lang/Boolean" "FALSE" "Ljava/lang/Boolean;" (.ref b0)) (E0 : Exa Z hB b0 "java/lang/Boolean") (E1 : Exa Z hB b1 "java/lang/Boolean") (F0 : Fld Z hB b0 "java/lang/Boolean" "value" "Z" (.int 0)) (F1 : Fld Z hB b1 "java/lang/Boolean" "value" "Z" (.int 1)) (u xx : Addr) (U0 : Fld Z hB u "java/util/ImmutableCollections$Set12" "e0" "Ljava/lang/Object;" (.ref b1)) (U1 : Fld Z hB u "java/util/ImmutableCollections$Set12" "e1" "Ljava/lang/Object;" (.ref xx)) (EX : Exa Z hB xx "java/lang/Object") : Ctr l Z hB ({ cls := "java/util/ImmutableCollections$Set12", name := "contains", desc := "(Ljava/lang/Object;)Z" } : Jvm.MethodName) jdk_101_method_5_code 2 (some .boolean) [] ({ frames := 2, cells := 0, slots := 0, locals := 26 } : Room) #[(.ref u), (.ref b0)] H (fun v H' => v = some (.int 0) ∧ H' = H) := by
  refine Wk.ctr pn_7 (Ls := #[.val (.ref u), .val (.ref b0)]) (fun m => by first | rfl | (simp [entryFrame, mkF, argsToLocals, Value.category]; done)) ?_
  refine Wk.aloadN (pc' := 1) d7_0 rfl rfl rfl ?_
  refine Wk.aloadN (pc' := 2) d7_1 rfl rfl rfl ?_
  refine Wk.getFold (pc' := 5) d7_2 (wd60 hw) U0 rfl ?_
  refine Wk.callV (pc' := 8) (argsL := [(.ref b1)]) (st := []) d7_5 (wd62 hw) (wd63 hw) (Wk.nfSel (wd81 hw)) (wd65 hw) (wd66 hw) (wd30 hw) (wd67 hw) (by decide) (lenOf pd_2 rfl) (fun _ P => E0.ext P.toExt) (m_beq01 l Z a0 hw hB H b0 b1 sT sF E0 E1 F0 F1) rfl (Nat.le_of_ble_eq_true rfl) (Nat.le_of_ble_eq_true rfl) (by simp <;> omega) (Nat.le_of_ble_eq_true rfl) rfl rfl ?_
  rintro _ _ ⟨rfl, hH⟩; obtain rfl := hH.symm
  show WP l Z hB _ _ _ _ _ _ _ _ H _ _ [(.int (0 : Int32))]
  refine Wk.ifN (pc' := 11) d7_8 (XT.i0_ne_f rfl) rfl ?_
  refine Wk.aloadN (pc' := 12) d7_11 rfl rfl rfl ?_
  refine Wk.getFold (pc' := 15) d7_12 (wd79 hw) U1 rfl ?_
  refine Wk.aloadN (pc' := 16) d7_15 rfl rfl rfl ?_
  refine Wk.objEqNo (pc' := 19) d7_16 (wd62 hw) (wd63 hw) (Wk.nfSel (wd81 hw)) (wd81 hw) (wd64 hw) (wd82 hw) (fun _ P => EX.ext P.toExt) (Wk.exaNe EX E0 (by decide)) rfl (Nat.le_of_ble_eq_true rfl) (Nat.le_of_ble_eq_true rfl) rfl ?_
  refine Wk.ifY (pc' := 26) d7_19 (XT.i0_eq_t rfl) (by decide) (by decide) ?_
  refine Wk.iconst (pc' := 27) (0 : Int32) d7_26 (by decide) rfl ?_
  exact Wk.iret (t := .boolean) d7_27 rfl (by simp) rfl (by simp <;> omega) (Nat.le_of_ble_eq_true rfl) ⟨rfl, rfl⟩
set_option maxRecDepth 65536 in
set_option maxHeartbeats 40000000 in
theorem m_tc11 (l : Launch) (Z : State) (a0 : Array Value) (hw : ∀ d ∈ tables_1, d.before a0 Z = true) (hB : Heap) (H : List Rec) (b0 b1 : Addr) (sT : Sta Z hB "java/lang/Boolean" "TRUE" "Ljava/lang/Boolean;" (.ref b1)) (sF : Sta Z hB "java/lang/Boolean" "FALSE" "Ljava/lang/Boolean;" (.ref b0)) (E0 : Exa Z hB b0 "java/lang/Boolean") (E1 : Exa Z hB b1 "java/lang/Boolean") (F0 : Fld Z hB b0 "java/lang/Boolean" "value" "Z" (.int 0)) (F1 : Fld Z hB b1 "java/lang/Boolean" "value" "Z" (.int 1)) (u xx : Addr) (U0 : Fld Z hB u "java/util/ImmutableCollections$Set12" "e0" "Ljava/lang/Object;" (.ref b1)) (U1 : Fld Z hB u "java/util/ImmutableCollections$Set12" "e1" "Ljava/lang/Object;" (.ref xx)) (EX : Exa Z hB xx "java/lang/Object") : Ctr l Z hB ({ cls := "java/util/ImmutableCollections$Set12", name := "contains", desc := "(Ljava/lang/Object;)Z" } : Jvm.MethodName) jdk_101_method_5_code 2 (some .boolean) [] ({ frames := 2, cells := 0, slots := 0, locals := 26 } : Room) #[(.ref u), (.ref b1)] H (fun v H' => v = some (.int 1) ∧ H' = H) := by
  refine Wk.ctr pn_7 (Ls := #[.val (.ref u), .val (.ref b1)]) (fun m => by first | rfl | (simp [entryFrame, mkF, argsToLocals, Value.category]; done)) ?_
  refine Wk.aloadN (pc' := 1) d7_0 rfl rfl rfl ?_
  refine Wk.aloadN (pc' := 2) d7_1 rfl rfl rfl ?_
  refine Wk.getFold (pc' := 5) d7_2 (wd60 hw) U0 rfl ?_
  refine Wk.callV (pc' := 8) (argsL := [(.ref b1)]) (st := []) d7_5 (wd62 hw) (wd63 hw) (Wk.nfSel (wd81 hw)) (wd65 hw) (wd66 hw) (wd30 hw) (wd67 hw) (by decide) (lenOf pd_2 rfl) (fun _ P => E1.ext P.toExt) (m_beq11 l Z a0 hw hB H b0 b1 sT sF E0 E1 F0 F1) rfl (Nat.le_of_ble_eq_true rfl) (Nat.le_of_ble_eq_true rfl) (by simp <;> omega) (Nat.le_of_ble_eq_true rfl) rfl rfl ?_
  rintro _ _ ⟨rfl, hH⟩; obtain rfl := hH.symm
  show WP l Z hB _ _ _ _ _ _ _ _ H _ _ [(.int (1 : Int32))]
  refine Wk.ifY (pc' := 22) d7_8 (XT.i0_ne_t (by decide)) (by decide) (by decide) ?_
  refine Wk.iconst (pc' := 23) (1 : Int32) d7_22 (by decide) rfl ?_
  refine Wk.goTo (pc' := 27) d7_23 (by decide) (by decide) ?_
  exact Wk.iret (t := .boolean) d7_27 rfl (by simp) rfl (by simp <;> omega) (Nat.le_of_ble_eq_true rfl) ⟨rfl, rfl⟩
set_option maxRecDepth 65536 in
set_option maxHeartbeats 40000000 in
theorem m_may_n (l : Launch) (Z : State) (a0 : Array Value) (hw : ∀ d ∈ tables_1, d.before a0 Z = true) (hB : Heap) (H : List Rec) (b0 b1 : Addr) (sT : Sta Z hB "java/lang/Boolean" "TRUE" "Ljava/lang/Boolean;" (.ref b1)) (sF : Sta Z hB "java/lang/Boolean" "FALSE" "Ljava/lang/Boolean;" (.ref b0)) (E0 : Exa Z hB b0 "java/lang/Boolean") (E1 : Exa Z hB b1 "java/lang/Boolean") (F0 : Fld Z hB b0 "java/lang/Boolean" "value" "Z" (.int 0)) (F1 : Fld Z hB b1 "java/lang/Boolean" "value" "Z" (.int 1)) (u : Addr) (Fn : Fld Z hB u "java/util/ImmutableCollections$SetN" "size" "I" (.int 0)) (s : Addr) (FE : Fld Z hB s "com/example/reckon/reckon/core/EvaluationsSemantic" "ending" "Ljava/util/Set;" (.ref u)) (EU : Exa Z hB u "java/util/ImmutableCollections$SetN") : Ctr l Z hB ({ cls := "com/example/reckon/reckon/core/EvaluationsSemantic", name := "mayEndEarly", desc := "()Z" } : Jvm.MethodName) prog_24_method_5_code 1 (some .boolean) [] ({ frames := 1, cells := 0, slots := 0, locals := 12 } : Room) #[(.ref s)] H (fun v H' => v = some (.int 0) ∧ H' = H) := by
  refine Wk.ctr pn_8 (Ls := #[.val (.ref s)]) (fun m => by first | rfl | (simp [entryFrame, mkF, argsToLocals, Value.category]; done)) ?_
  refine Wk.aloadN (pc' := 1) d0_0 rfl rfl rfl ?_
  refine Wk.getFold (pc' := 4) d0_1 (wd9 hw) FE rfl ?_
  refine Wk.callF (pc' := 9) (argsL := []) (st := []) rfl d0_4 (wd11 hw) (wd12 hw) (wd13 hw) (wd14 hw) (wd15 hw) (wd16 hw) (wd17 hw) (wd18 hw) (wd19 hw) (wd20 hw) (by decide) (lenOf pd_0 rfl) (fun _ P => EU.ext P.toExt) (m_ne l Z a0 hw hB H u Fn) rfl (Nat.le_of_ble_eq_true rfl) (Nat.le_of_ble_eq_true rfl) (by simp <;> omega) (Nat.le_of_ble_eq_true rfl) rfl rfl ?_
  rintro _ _ ⟨rfl, hH⟩; obtain rfl := hH.symm
  show WP l Z hB _ _ _ _ _ _ _ _ H _ _ [(.int (1 : Int32))]
  refine Wk.ifY (pc' := 16) d0_9 (XT.i0_ne_t (by decide)) (by decide) (by decide) ?_
  refine Wk.iconst (pc' := 17) (0 : Int32) d0_16 (by decide) rfl ?_
  exact Wk.iret (t := .boolean) d0_17 rfl (by simp) rfl (by simp <;> omega) (Nat.le_of_ble_eq_true rfl) ⟨rfl, rfl⟩
set_option maxRecDepth 65536 in
set_option maxHeartbeats 40000000 in
theorem m_end_n0 (l : Launch) (Z : State) (a0 : Array Value) (hw : ∀ d ∈ tables_1, d.before a0 Z = true) (hB : Heap) (H : List Rec) (b0 b1 : Addr) (sT : Sta Z hB "java/lang/Boolean" "TRUE" "Ljava/lang/Boolean;" (.ref b1)) (sF : Sta Z hB "java/lang/Boolean" "FALSE" "Ljava/lang/Boolean;" (.ref b0)) (E0 : Exa Z hB b0 "java/lang/Boolean") (E1 : Exa Z hB b1 "java/lang/Boolean") (F0 : Fld Z hB b0 "java/lang/Boolean" "value" "Z" (.int 0)) (F1 : Fld Z hB b1 "java/lang/Boolean" "value" "Z" (.int 1)) (u : Addr) (Fn : Fld Z hB u "java/util/ImmutableCollections$SetN" "size" "I" (.int 0)) (s : Addr) (FE : Fld Z hB s "com/example/reckon/reckon/core/EvaluationsSemantic" "ending" "Ljava/util/Set;" (.ref u)) (EU : Exa Z hB u "java/util/ImmutableCollections$SetN") : Ctr l Z hB ({ cls := "com/example/reckon/reckon/core/EvaluationsSemantic", name := "endsWith", desc := "(Z)Z" } : Jvm.MethodName) prog_24_method_4_code 2 (some .boolean) [] ({ frames := 2, cells := 0, slots := 0, locals := 25 } : Room) #[(.ref s), (.int (0 : Int32))] H (fun v H' => v = some (.int 0) ∧ H' = H) := by
  refine Wk.ctr pn_9 (Ls := #[.val (.ref s), .val (.int (0 : Int32))]) (fun m => by first | rfl | (simp [entryFrame, mkF, argsToLocals, Value.category]; done)) ?_
  refine Wk.aloadN (pc' := 1) d2_0 rfl rfl rfl ?_
  refine Wk.getFold (pc' := 4) d2_1 (wd9 hw) FE rfl ?_
  refine Wk.iloadN (pc' := 5) d2_4 rfl rfl ?_
  refine Wk.callS (pc' := 8) (argsL := [(.int (0 : Int32))]) (st := [(.ref u)]) d2_5 (wd28 hw) (wd29 hw) (wd30 hw) (wd31 hw) (by decide) (lenOf pd_3 rfl) (m_vb0 l Z a0 hw hB H b0 b1 sT sF E0 E1 F0 F1) rfl (Nat.le_of_ble_eq_true rfl) (Nat.le_of_ble_eq_true rfl) (by simp <;> omega) (Nat.le_of_ble_eq_true rfl) rfl rfl ?_
  rintro _ _ ⟨rfl, hH⟩; obtain rfl := hH.symm
  show WP l Z hB _ _ _ _ _ _ _ _ H _ _ [(.ref b0), (.ref u)]
  refine Wk.callF (pc' := 13) (argsL := [(.ref b0)]) (st := []) rfl d2_8 (wd33 hw) (wd34 hw) (wd35 hw) (wd36 hw) (wd37 hw) (wd38 hw) (wd39 hw) (wd18 hw) (wd19 hw) (wd40 hw) (by decide) (lenOf pd_2 rfl) (fun _ P => EU.ext P.toExt) (m_nc l Z a0 hw hB H u b0 Fn) rfl (Nat.le_of_ble_eq_true rfl) (Nat.le_of_ble_eq_true rfl) (by simp <;> omega) (Nat.le_of_ble_eq_true rfl) rfl rfl ?_
  rintro _ _ ⟨rfl, hH⟩; obtain rfl := hH.symm
  show WP l Z hB _ _ _ _ _ _ _ _ H _ _ [(.int (0 : Int32))]
  exact Wk.iret (t := .boolean) d2_13 rfl (by simp) rfl (by simp <;> omega) (Nat.le_of_ble_eq_true rfl) ⟨rfl, rfl⟩
set_option maxRecDepth 65536 in
set_option maxHeartbeats 40000000 in
theorem m_end_n1 (l : Launch) (Z : State) (a0 : Array Value) (hw : ∀ d ∈ tables_1, d.before a0 Z = true) (hB : Heap) (H : List Rec) (b0 b1 : Addr) (sT : Sta Z hB "java/lang/Boolean" "TRUE" "Ljava/lang/Boolean;" (.ref b1)) (sF : Sta Z hB "java/lang/Boolean" "FALSE" "Ljava/lang/Boolean;" (.ref b0)) (E0 : Exa Z hB b0 "java/lang/Boolean") (E1 : Exa Z hB b1 "java/lang/Boolean") (F0 : Fld Z hB b0 "java/lang/Boolean" "value" "Z" (.int 0)) (F1 : Fld Z hB b1 "java/lang/Boolean" "value" "Z" (.int 1)) (u : Addr) (Fn : Fld Z hB u "java/util/ImmutableCollections$SetN" "size" "I" (.int 0)) (s : Addr) (FE : Fld Z hB s "com/example/reckon/reckon/core/EvaluationsSemantic" "ending" "Ljava/util/Set;" (.ref u)) (EU : Exa Z hB u "java/util/ImmutableCollections$SetN") : Ctr l Z hB ({ cls := "com/example/reckon/reckon/core/EvaluationsSemantic", name := "endsWith", desc := "(Z)Z" } : Jvm.MethodName) prog_24_method_4_code 2 (some .boolean) [] ({ frames := 2, cells := 0, slots := 0, locals := 25 } : Room) #[(.ref s), (.int (1 : Int32))] H (fun v H' => v = some (.int 0) ∧ H' = H) := by
  refine Wk.ctr pn_9 (Ls := #[.val (.ref s), .val (.int (1 : Int32))]) (fun m => by first | rfl | (simp [entryFrame, mkF, argsToLocals, Value.category]; done)) ?_
  refine Wk.aloadN (pc' := 1) d2_0 rfl rfl rfl ?_
  refine Wk.getFold (pc' := 4) d2_1 (wd9 hw) FE rfl ?_
  refine Wk.iloadN (pc' := 5) d2_4 rfl rfl ?_
  refine Wk.callS (pc' := 8) (argsL := [(.int (1 : Int32))]) (st := [(.ref u)]) d2_5 (wd28 hw) (wd29 hw) (wd30 hw) (wd31 hw) (by decide) (lenOf pd_3 rfl) (m_vb1 l Z a0 hw hB H b0 b1 sT sF E0 E1 F0 F1) rfl (Nat.le_of_ble_eq_true rfl) (Nat.le_of_ble_eq_true rfl) (by simp <;> omega) (Nat.le_of_ble_eq_true rfl) rfl rfl ?_
  rintro _ _ ⟨rfl, hH⟩; obtain rfl := hH.symm
  show WP l Z hB _ _ _ _ _ _ _ _ H _ _ [(.ref b1), (.ref u)]
  refine Wk.callF (pc' := 13) (argsL := [(.ref b1)]) (st := []) rfl d2_8 (wd33 hw) (wd34 hw) (wd35 hw) (wd36 hw) (wd37 hw) (wd38 hw) (wd39 hw) (wd18 hw) (wd19 hw) (wd40 hw) (by decide) (lenOf pd_2 rfl) (fun _ P => EU.ext P.toExt) (m_nc l Z a0 hw hB H u b1 Fn) rfl (Nat.le_of_ble_eq_true rfl) (Nat.le_of_ble_eq_true rfl) (by simp <;> omega) (Nat.le_of_ble_eq_true rfl) rfl rfl ?_
  rintro _ _ ⟨rfl, hH⟩; obtain rfl := hH.symm
  show WP l Z hB _ _ _ _ _ _ _ _ H _ _ [(.int (0 : Int32))]
  exact Wk.iret (t := .boolean) d2_13 rfl (by simp) rfl (by simp <;> omega) (Nat.le_of_ble_eq_true rfl) ⟨rfl, rfl⟩
set_option maxRecDepth 65536 in
set_option maxHeartbeats 40000000 in
theorem m_may_0 (l : Launch) (Z : State) (a0 : Array Value) (hw : ∀ d ∈ tables_1, d.before a0 Z = true) (hB : Heap) (H : List Rec) (b0 b1 : Addr) (sT : Sta Z hB "java/lang/Boolean" "TRUE" "Ljava/lang/Boolean;" (.ref b1)) (sF : Sta Z hB "java/lang/Boolean" "FALSE" "Ljava/lang/Boolean;" (.ref b0)) (E0 : Exa Z hB b0 "java/lang/Boolean") (E1 : Exa Z hB b1 "java/lang/Boolean") (F0 : Fld Z hB b0 "java/lang/Boolean" "value" "Z" (.int 0)) (F1 : Fld Z hB b1 "java/lang/Boolean" "value" "Z" (.int 1)) (u xx : Addr) (U0 : Fld Z hB u "java/util/ImmutableCollections$Set12" "e0" "Ljava/lang/Object;" (.ref b0)) (U1 : Fld Z hB u "java/util/ImmutableCollections$Set12" "e1" "Ljava/lang/Object;" (.ref xx)) (EX : Exa Z hB xx "java/lang/Object") (s : Addr) (FE : Fld Z hB s "com/example/reckon/reckon/core/EvaluationsSemantic" "ending" "Ljava/util/Set;" (.ref u)) (EU : Exa Z hB u "java/util/ImmutableCollections$Set12") : Ctr l Z hB ({ cls := "com/example/reckon/reckon/core/EvaluationsSemantic", name := "mayEndEarly", desc := "()Z" } : Jvm.MethodName) prog_24_method_5_code 1 (some .boolean) [] ({ frames := 1, cells := 0, slots := 0, locals := 12 } : Room) #[(.ref s)] H (fun v H' => v = some (.int 1) ∧ H' = H) := by
  refine Wk.ctr pn_8 (Ls := #[.val (.ref s)]) (fun m => by first | rfl | (simp [entryFrame, mkF, argsToLocals, Value.category]; done)) ?_
  refine Wk.aloadN (pc' := 1) d0_0 rfl rfl rfl ?_
  refine Wk.getFold (pc' := 4) d0_1 (wd9 hw) FE rfl ?_
  refine Wk.callF (pc' := 9) (argsL := []) (st := []) rfl d0_4 (wd11 hw) (wd12 hw) (wd13 hw) (wd48 hw) (wd49 hw) (wd50 hw) (wd51 hw) (wd52 hw) (wd53 hw) (wd54 hw) (by decide) (lenOf pd_0 rfl) (fun _ P => EU.ext P.toExt) (m_te l Z a0 hw hB H u) rfl (Nat.le_of_ble_eq_true rfl) (Nat.le_of_ble_eq_true rfl) (by simp <;> omega) (Nat.le_of_ble_eq_true rfl) rfl rfl ?_
  rintro _ _ ⟨rfl, hH⟩; obtain rfl := hH.symm
  show WP l Z hB _ _ _ _ _ _ _ _ H _ _ [(.int (0 : Int32))]
  refine Wk.ifN (pc' := 12) d0_9 (XT.i0_ne_f rfl) rfl ?_
  refine Wk.iconst (pc' := 13) (1 : Int32) d0_12 (by decide) rfl ?_
  refine Wk.goTo (pc' := 17) d0_13 (by decide) (by decide) ?_
  exact Wk.iret (t := .boolean) d0_17 rfl (by simp) rfl (by simp <;> omega) (Nat.le_of_ble_eq_true rfl) ⟨rfl, rfl⟩
set_option maxRecDepth 65536 in
set_option maxHeartbeats 40000000 in
theorem m_end_00 (l : Launch) (Z : State) (a0 : Array Value) (hw : ∀ d ∈ tables_1, d.before a0 Z = true) (hB : Heap) (H : List Rec) (b0 b1 : Addr) (sT : Sta Z hB "java/lang/Boolean" "TRUE" "Ljava/lang/Boolean;" (.ref b1)) (sF : Sta Z hB "java/lang/Boolean" "FALSE" "Ljava/lang/Boolean;" (.ref b0)) (E0 : Exa Z hB b0 "java/lang/Boolean") (E1 : Exa Z hB b1 "java/lang/Boolean") (F0 : Fld Z hB b0 "java/lang/Boolean" "value" "Z" (.int 0)) (F1 : Fld Z hB b1 "java/lang/Boolean" "value" "Z" (.int 1)) (u xx : Addr) (U0 : Fld Z hB u "java/util/ImmutableCollections$Set12" "e0" "Ljava/lang/Object;" (.ref b0)) (U1 : Fld Z hB u "java/util/ImmutableCollections$Set12" "e1" "Ljava/lang/Object;" (.ref xx)) (EX : Exa Z hB xx "java/lang/Object") (s : Addr) (FE : Fld Z hB s "com/example/reckon/reckon/core/EvaluationsSemantic" "ending" "Ljava/util/Set;" (.ref u)) (EU : Exa Z hB u "java/util/ImmutableCollections$Set12") : Ctr l Z hB ({ cls := "com/example/reckon/reckon/core/EvaluationsSemantic", name := "endsWith", desc := "(Z)Z" } : Jvm.MethodName) prog_24_method_4_code 2 (some .boolean) [] ({ frames := 3, cells := 0, slots := 0, locals := 39 } : Room) #[(.ref s), (.int (0 : Int32))] H (fun v H' => v = some (.int 1) ∧ H' = H) := by
  refine Wk.ctr pn_9 (Ls := #[.val (.ref s), .val (.int (0 : Int32))]) (fun m => by first | rfl | (simp [entryFrame, mkF, argsToLocals, Value.category]; done)) ?_
  refine Wk.aloadN (pc' := 1) d2_0 rfl rfl rfl ?_
  refine Wk.getFold (pc' := 4) d2_1 (wd9 hw) FE rfl ?_
  refine Wk.iloadN (pc' := 5) d2_4 rfl rfl ?_
  refine Wk.callS (pc' := 8) (argsL := [(.int (0 : Int32))]) (st := [(.ref u)]) d2_5 (wd28 hw) (wd29 hw) (wd30 hw) (wd31 hw) (by decide) (lenOf pd_3 rfl) (m_vb0 l Z a0 hw hB H b0 b1 sT sF E0 E1 F0 F1) rfl (Nat.le_of_ble_eq_true rfl) (Nat.le_of_ble_eq_true rfl) (by simp <;> omega) (Nat.le_of_ble_eq_true rfl) rfl rfl ?_
  rintro _ _ ⟨rfl, hH⟩; obtain rfl := hH.symm
  show WP l Z hB _ _ _ _ _ _ _ _ H _ _ [(.ref b0), (.ref u)]
  refine Wk.callF (pc' := 13) (argsL := [(.ref b0)]) (st := []) rfl d2_8 (wd33 hw) (wd34 hw) (wd35 hw) (wd55 hw) (wd56 hw) (wd57 hw) (wd58 hw) (wd52 hw) (wd53 hw) (wd59 hw) (by decide) (lenOf pd_2 rfl) (fun _ P => EU.ext P.toExt) (m_tc00 l Z a0 hw hB H b0 b1 sT sF E0 E1 F0 F1 u xx U0 U1 EX) rfl (Nat.le_of_ble_eq_true rfl) (Nat.le_of_ble_eq_true rfl) (by simp <;> omega) (Nat.le_of_ble_eq_true rfl) rfl rfl ?_
  rintro _ _ ⟨rfl, hH⟩; obtain rfl := hH.symm
  show WP l Z hB _ _ _ _ _ _ _ _ H _ _ [(.int (1 : Int32))]
  exact Wk.iret (t := .boolean) d2_13 rfl (by simp) rfl (by simp <;> omega) (Nat.le_of_ble_eq_true rfl) ⟨rfl, rfl⟩
set_option maxRecDepth 65536 in
set_option maxHeartbeats 40000000 in
theorem m_end_01 (l : Launch) (Z : State) (a0 : Array Value) (hw : ∀ d ∈ tables_1, d.before a0 Z = true) (hB : Heap) (H : List Rec) (b0 b1 : Addr) (sT : Sta Z hB "java/lang/Boolean" "TRUE" "Ljava/lang/Boolean;" (.ref b1)) (sF : Sta Z hB "java/lang/Boolean" "FALSE" "Ljava/lang/Boolean;" (.ref b0)) (E0 : Exa Z hB b0 "java/lang/Boolean") (E1 : Exa Z hB b1 "java/lang/Boolean") (F0 : Fld Z hB b0 "java/lang/Boolean" "value" "Z" (.int 0)) (F1 : Fld Z hB b1 "java/lang/Boolean" "value" "Z" (.int 1)) (u xx : Addr) (U0 : Fld Z hB u "java/util/ImmutableCollections$Set12" "e0" "Ljava/lang/Object;" (.ref b0)) (U1 : Fld Z hB u "java/util/ImmutableCollections$Set12" "e1" "Ljava/lang/Object;" (.ref xx)) (EX : Exa Z hB xx "java/lang/Object") (s : Addr) (FE : Fld Z hB s "com/example/reckon/reckon/core/EvaluationsSemantic" "ending" "Ljava/util/Set;" (.ref u)) (EU : Exa Z hB u "java/util/ImmutableCollections$Set12") : Ctr l Z hB ({ cls := "com/example/reckon/reckon/core/EvaluationsSemantic", name := "endsWith", desc := "(Z)Z" } : Jvm.MethodName) prog_24_method_4_code 2 (some .boolean) [] ({ frames := 3, cells := 0, slots := 0, locals := 39 } : Room) #[(.ref s), (.int (1 : Int32))] H (fun v H' => v = some (.int 0) ∧ H' = H) := by
  refine Wk.ctr pn_9 (Ls := #[.val (.ref s), .val (.int (1 : Int32))]) (fun m => by first | rfl | (simp [entryFrame, mkF, argsToLocals, Value.category]; done)) ?_
  refine Wk.aloadN (pc' := 1) d2_0 rfl rfl rfl ?_
  refine Wk.getFold (pc' := 4) d2_1 (wd9 hw) FE rfl ?_
  refine Wk.iloadN (pc' := 5) d2_4 rfl rfl ?_
  refine Wk.callS (pc' := 8) (argsL := [(.int (1 : Int32))]) (st := [(.ref u)]) d2_5 (wd28 hw) (wd29 hw) (wd30 hw) (wd31 hw) (by decide) (lenOf pd_3 rfl) (m_vb1 l Z a0 hw hB H b0 b1 sT sF E0 E1 F0 F1) rfl (Nat.le_of_ble_eq_true rfl) (Nat.le_of_ble_eq_true rfl) (by simp <;> omega) (Nat.le_of_ble_eq_true rfl) rfl rfl ?_
  rintro _ _ ⟨rfl, hH⟩; obtain rfl := hH.symm
  show WP l Z hB _ _ _ _ _ _ _ _ H _ _ [(.ref b1), (.ref u)]
  refine Wk.callF (pc' := 13) (argsL := [(.ref b1)]) (st := []) rfl d2_8 (wd33 hw) (wd34 hw) (wd35 hw) (wd55 hw) (wd56 hw) (wd57 hw) (wd58 hw) (wd52 hw) (wd53 hw) (wd59 hw) (by decide) (lenOf pd_2 rfl) (fun _ P => EU.ext P.toExt) (m_tc01 l Z a0 hw hB H b0 b1 sT sF E0 E1 F0 F1 u xx U0 U1 EX) rfl (Nat.le_of_ble_eq_true rfl) (Nat.le_of_ble_eq_true rfl) (by simp <;> omega) (Nat.le_of_ble_eq_true rfl) rfl rfl ?_
  rintro _ _ ⟨rfl, hH⟩; obtain rfl := hH.symm
  show WP l Z hB _ _ _ _ _ _ _ _ H _ _ [(.int (0 : Int32))]
  exact Wk.iret (t := .boolean) d2_13 rfl (by simp) rfl (by simp <;> omega) (Nat.le_of_ble_eq_true rfl) ⟨rfl, rfl⟩
set_option maxRecDepth 65536 in
set_option maxHeartbeats 40000000 in
theorem m_may_1 (l : Launch) (Z : State) (a0 : Array Value) (hw : ∀ d ∈ tables_1, d.before a0 Z = true) (hB : Heap) (H : List Rec) (b0 b1 : Addr) (sT : Sta Z hB "java/lang/Boolean" "TRUE" "Ljava/lang/Boolean;" (.ref b1)) (sF : Sta Z hB "java/lang/Boolean" "FALSE" "Ljava/lang/Boolean;" (.ref b0)) (E0 : Exa Z hB b0 "java/lang/Boolean") (E1 : Exa Z hB b1 "java/lang/Boolean") (F0 : Fld Z hB b0 "java/lang/Boolean" "value" "Z" (.int 0)) (F1 : Fld Z hB b1 "java/lang/Boolean" "value" "Z" (.int 1)) (u xx : Addr) (U0 : Fld Z hB u "java/util/ImmutableCollections$Set12" "e0" "Ljava/lang/Object;" (.ref b1)) (U1 : Fld Z hB u "java/util/ImmutableCollections$Set12" "e1" "Ljava/lang/Object;" (.ref xx)) (EX : Exa Z hB xx "java/lang/Object") (s : Addr) (FE : Fld Z hB s "com/example/reckon/reckon/core/EvaluationsSemantic" "ending" "Ljava/util/Set;" (.ref u)) (EU : Exa Z hB u "java/util/ImmutableCollections$Set12") : Ctr l Z hB ({ cls := "com/example/reckon/reckon/core/EvaluationsSemantic", name := "mayEndEarly", desc := "()Z" } : Jvm.MethodName) prog_24_method_5_code 1 (some .boolean) [] ({ frames := 1, cells := 0, slots := 0, locals := 12 } : Room) #[(.ref s)] H (fun v H' => v = some (.int 1) ∧ H' = H) := by
  refine Wk.ctr pn_8 (Ls := #[.val (.ref s)]) (fun m => by first | rfl | (simp [entryFrame, mkF, argsToLocals, Value.category]; done)) ?_
  refine Wk.aloadN (pc' := 1) d0_0 rfl rfl rfl ?_
  refine Wk.getFold (pc' := 4) d0_1 (wd9 hw) FE rfl ?_
  refine Wk.callF (pc' := 9) (argsL := []) (st := []) rfl d0_4 (wd11 hw) (wd12 hw) (wd13 hw) (wd48 hw) (wd49 hw) (wd50 hw) (wd51 hw) (wd52 hw) (wd53 hw) (wd54 hw) (by decide) (lenOf pd_0 rfl) (fun _ P => EU.ext P.toExt) (m_te l Z a0 hw hB H u) rfl (Nat.le_of_ble_eq_true rfl) (Nat.le_of_ble_eq_true rfl) (by simp <;> omega) (Nat.le_of_ble_eq_true rfl) rfl rfl ?_
  rintro _ _ ⟨rfl, hH⟩; obtain rfl := hH.symm
  show WP l Z hB _ _ _ _ _ _ _ _ H _ _ [(.int (0 : Int32))]
  refine Wk.ifN (pc' := 12) d0_9 (XT.i0_ne_f rfl) rfl ?_
  refine Wk.iconst (pc' := 13) (1 : Int32) d0_12 (by decide) rfl ?_
  refine Wk.goTo (pc' := 17) d0_13 (by decide) (by decide) ?_
  exact Wk.iret (t := .boolean) d0_17 rfl (by simp) rfl (by simp <;> omega) (Nat.le_of_ble_eq_true rfl) ⟨rfl, rfl⟩
set_option maxRecDepth 65536 in
set_option maxHeartbeats 40000000 in
theorem m_end_10 (l : Launch) (Z : State) (a0 : Array Value) (hw : ∀ d ∈ tables_1, d.before a0 Z = true) (hB : Heap) (H : List Rec) (b0 b1 : Addr) (sT : Sta Z hB "java/lang/Boolean" "TRUE" "Ljava/lang/Boolean;" (.ref b1)) (sF : Sta Z hB "java/lang/Boolean" "FALSE" "Ljava/lang/Boolean;" (.ref b0)) (E0 : Exa Z hB b0 "java/lang/Boolean") (E1 : Exa Z hB b1 "java/lang/Boolean") (F0 : Fld Z hB b0 "java/lang/Boolean" "value" "Z" (.int 0)) (F1 : Fld Z hB b1 "java/lang/Boolean" "value" "Z" (.int 1)) (u xx : Addr) (U0 : Fld Z hB u "java/util/ImmutableCollections$Set12" "e0" "Ljava/lang/Object;" (.ref b1)) (U1 : Fld Z hB u "java/util/ImmutableCollections$Set12" "e1" "Ljava/lang/Object;" (.ref xx)) (EX : Exa Z hB xx "java/lang/Object") (s : Addr) (FE : Fld Z hB s "com/example/reckon/reckon/core/EvaluationsSemantic" "ending" "Ljava/util/Set;" (.ref u)) (EU : Exa Z hB u "java/util/ImmutableCollections$Set12") : Ctr l Z hB ({ cls := "com/example/reckon/reckon/core/EvaluationsSemantic", name := "endsWith", desc := "(Z)Z" } : Jvm.MethodName) prog_24_method_4_code 2 (some .boolean) [] ({ frames := 3, cells := 0, slots := 0, locals := 39 } : Room) #[(.ref s), (.int (0 : Int32))] H (fun v H' => v = some (.int 0) ∧ H' = H) := by
  refine Wk.ctr pn_9 (Ls := #[.val (.ref s), .val (.int (0 : Int32))]) (fun m => by first | rfl | (simp [entryFrame, mkF, argsToLocals, Value.category]; done)) ?_
  refine Wk.aloadN (pc' := 1) d2_0 rfl rfl rfl ?_
  refine Wk.getFold (pc' := 4) d2_1 (wd9 hw) FE rfl ?_
  refine Wk.iloadN (pc' := 5) d2_4 rfl rfl ?_
  refine Wk.callS (pc' := 8) (argsL := [(.int (0 : Int32))]) (st := [(.ref u)]) d2_5 (wd28 hw) (wd29 hw) (wd30 hw) (wd31 hw) (by decide) (lenOf pd_3 rfl) (m_vb0 l Z a0 hw hB H b0 b1 sT sF E0 E1 F0 F1) rfl (Nat.le_of_ble_eq_true rfl) (Nat.le_of_ble_eq_true rfl) (by simp <;> omega) (Nat.le_of_ble_eq_true rfl) rfl rfl ?_
  rintro _ _ ⟨rfl, hH⟩; obtain rfl := hH.symm
  show WP l Z hB _ _ _ _ _ _ _ _ H _ _ [(.ref b0), (.ref u)]
  refine Wk.callF (pc' := 13) (argsL := [(.ref b0)]) (st := []) rfl d2_8 (wd33 hw) (wd34 hw) (wd35 hw) (wd55 hw) (wd56 hw) (wd57 hw) (wd58 hw) (wd52 hw) (wd53 hw) (wd59 hw) (by decide) (lenOf pd_2 rfl) (fun _ P => EU.ext P.toExt) (m_tc10 l Z a0 hw hB H b0 b1 sT sF E0 E1 F0 F1 u xx U0 U1 EX) rfl (Nat.le_of_ble_eq_true rfl) (Nat.le_of_ble_eq_true rfl) (by simp <;> omega) (Nat.le_of_ble_eq_true rfl) rfl rfl ?_
  rintro _ _ ⟨rfl, hH⟩; obtain rfl := hH.symm
  show WP l Z hB _ _ _ _ _ _ _ _ H _ _ [(.int (0 : Int32))]
  exact Wk.iret (t := .boolean) d2_13 rfl (by simp) rfl (by simp <;> omega) (Nat.le_of_ble_eq_true rfl) ⟨rfl, rfl⟩
set_option maxRecDepth 65536 in
set_option maxHeartbeats 40000000 in
theorem m_end_11 (l : Launch) (Z : State) (a0 : Array Value) (hw : ∀ d ∈ tables_1, d.before a0 Z = true) (hB : Heap) (H : List Rec) (b0 b1 : Addr) (sT : Sta Z hB "java/lang/Boolean" "TRUE" "Ljava/lang/Boolean;" (.ref b1)) (sF : Sta Z hB "java/lang/Boolean" "FALSE" "Ljava/lang/Boolean;" (.ref b0)) (E0 : Exa Z hB b0 "java/lang/Boolean") (E1 : Exa Z hB b1 "java/lang/Boolean") (F0 : Fld Z hB b0 "java/lang/Boolean" "value" "Z" (.int 0)) (F1 : Fld Z hB b1 "java/lang/Boolean" "value" "Z" (.int 1)) (u xx : Addr) (U0 : Fld Z hB u "java/util/ImmutableCollections$Set12" "e0" "Ljava/lang/Object;" (.ref b1)) (U1 : Fld Z hB u "java/util/ImmutableCollections$Set12" "e1" "Ljava/lang/Object;" (.ref xx)) (EX : Exa Z hB xx "java/lang/Object") (s : Addr) (FE : Fld Z hB s "com/example/reckon/reckon/core/EvaluationsSemantic" "ending" "Ljava/util/Set;" (.ref u)) (EU : Exa Z hB u "java/util/ImmutableCollections$Set12") : Ctr l Z hB ({ cls := "com/example/reckon/reckon/core/EvaluationsSemantic", name := "endsWith", desc := "(Z)Z" } : Jvm.MethodName) prog_24_method_4_code 2 (some .boolean) [] ({ frames := 3, cells := 0, slots := 0, locals := 39 } : Room) #[(.ref s), (.int (1 : Int32))] H (fun v H' => v = some (.int 1) ∧ H' = H) := by
  refine Wk.ctr pn_9 (Ls := #[.val (.ref s), .val (.int (1 : Int32))]) (fun m => by first | rfl | (simp [entryFrame, mkF, argsToLocals, Value.category]; done)) ?_
  refine Wk.aloadN (pc' := 1) d2_0 rfl rfl rfl ?_
  refine Wk.getFold (pc' := 4) d2_1 (wd9 hw) FE rfl ?_
  refine Wk.iloadN (pc' := 5) d2_4 rfl rfl ?_
  refine Wk.callS (pc' := 8) (argsL := [(.int (1 : Int32))]) (st := [(.ref u)]) d2_5 (wd28 hw) (wd29 hw) (wd30 hw) (wd31 hw) (by decide) (lenOf pd_3 rfl) (m_vb1 l Z a0 hw hB H b0 b1 sT sF E0 E1 F0 F1) rfl (Nat.le_of_ble_eq_true rfl) (Nat.le_of_ble_eq_true rfl) (by simp <;> omega) (Nat.le_of_ble_eq_true rfl) rfl rfl ?_
  rintro _ _ ⟨rfl, hH⟩; obtain rfl := hH.symm
  show WP l Z hB _ _ _ _ _ _ _ _ H _ _ [(.ref b1), (.ref u)]
  refine Wk.callF (pc' := 13) (argsL := [(.ref b1)]) (st := []) rfl d2_8 (wd33 hw) (wd34 hw) (wd35 hw) (wd55 hw) (wd56 hw) (wd57 hw) (wd58 hw) (wd52 hw) (wd53 hw) (wd59 hw) (by decide) (lenOf pd_2 rfl) (fun _ P => EU.ext P.toExt) (m_tc11 l Z a0 hw hB H b0 b1 sT sF E0 E1 F0 F1 u xx U0 U1 EX) rfl (Nat.le_of_ble_eq_true rfl) (Nat.le_of_ble_eq_true rfl) (by simp <;> omega) (Nat.le_of_ble_eq_true rfl) rfl rfl ?_
  rintro _ _ ⟨rfl, hH⟩; obtain rfl := hH.symm
  show WP l Z hB _ _ _ _ _ _ _ _ H _ _ [(.int (1 : Int32))]
  exact Wk.iret (t := .boolean) d2_13 rfl (by simp) rfl (by simp <;> omega) (Nat.le_of_ble_eq_true rfl) ⟨rfl, rfl⟩
set_option maxRecDepth 65536 in
set_option maxHeartbeats 40000000 in
theorem m_law (l : Launch) (Z : State) (a0 : Array Value) (hw : ∀ d ∈ tables_1, d.before a0 Z = true) (hB : Heap) (q : Int32) (b0 b1 : Addr) (sT : Sta Z hB "java/lang/Boolean" "TRUE" "Ljava/lang/Boolean;" (.ref b1)) (sF : Sta Z hB "java/lang/Boolean" "FALSE" "Ljava/lang/Boolean;" (.ref b0)) (E0 : Exa Z hB b0 "java/lang/Boolean") (E1 : Exa Z hB b1 "java/lang/Boolean") (F0 : Fld Z hB b0 "java/lang/Boolean" "value" "Z" (.int 0)) (F1 : Fld Z hB b1 "java/lang/Boolean" "value" "Z" (.int 1)) (s0 s1 s2 n0 u1 u2 xx : Addr) (t0 : Sta Z hB "com/example/reckon/reckon/core/EvaluationsSemantic" "EXECUTE_ALL" "Lcom/example/reckon/reckon/core/EvaluationsSemantic;" (.ref s0)) (x0 : Exa Z hB s0 "com/example/reckon/reckon/core/EvaluationsSemantic") (t1 : Sta Z hB "com/example/reckon/reckon/core/EvaluationsSemantic" "DENY_ON_FIRST_DENY" "Lcom/example/reckon/reckon/core/EvaluationsSemantic;" (.ref s1)) (x1 : Exa Z hB s1 "com/example/reckon/reckon/core/EvaluationsSemantic") (t2 : Sta Z hB "com/example/reckon/reckon/core/EvaluationsSemantic" "PERMIT_ON_FIRST_PERMIT" "Lcom/example/reckon/reckon/core/EvaluationsSemantic;" (.ref s2)) (x2 : Exa Z hB s2 "com/example/reckon/reckon/core/EvaluationsSemantic") (f0 : Fld Z hB s0 "com/example/reckon/reckon/core/EvaluationsSemantic" "ending" "Ljava/util/Set;" (.ref n0)) (f1 : Fld Z hB s1 "com/example/reckon/reckon/core/EvaluationsSemantic" "ending" "Ljava/util/Set;" (.ref u1)) (f2 : Fld Z hB s2 "com/example/reckon/reckon/core/EvaluationsSemantic" "ending" "Ljava/util/Set;" (.ref u2)) (y0 : Exa Z hB n0 "java/util/ImmutableCollections$SetN") (y1 : Exa Z hB u1 "java/util/ImmutableCollections$Set12") (y2 : Exa Z hB u2 "java/util/ImmutableCollections$Set12") (Fn : Fld Z hB n0 "java/util/ImmutableCollections$SetN" "size" "I" (.int 0)) (v1 : Fld Z hB u1 "java/util/ImmutableCollections$Set12" "e0" "Ljava/lang/Object;" (.ref b0)) (z1 : Fld Z hB u1 "java/util/ImmutableCollections$Set12" "e1" "Ljava/lang/Object;" (.ref xx)) (v2 : Fld Z hB u2 "java/util/ImmutableCollections$Set12" "e0" "Ljava/lang/Object;" (.ref b1)) (z2 : Fld Z hB u2 "java/util/ImmutableCollections$Set12" "e1" "Ljava/lang/Object;" (.ref xx)) (EX : Exa Z hB xx "java/lang/Object") : Ctr l Z hB x code maxLocals ret tables_1 room_1 #[(.int q)] [] (fun v _ => v = some (.int 1)) := by
  refine Wk.ctr pn_10 (Ls := #[.val (.int q), .unset, .unset, .unset, .unset, .unset]) (fun m => by first | rfl | (simp [entryFrame, mkF, argsToLocals, Value.category]; done)) ?_
  refine Wk.iloadN (pc' := 1) at_0 rfl rfl ?_
  refine Wk.ldcInt (pc' := 3) at_1 (wd0 hw) rfl ?_
  refine Wk.iand (pc' := 4) at_3 rfl ?_
  refine Wk.iconst (pc' := 5) (3 : Int32) at_4 (by decide) rfl ?_
  refine Wk.irem (pc' := 6) at_5 (by decide) rfl ?_
  refine Wk.istoreN (pc' := 7) (Ls' := #[.val (.int q), .val (.int ((q &&& (2147483647 : Int32)) % (3 : Int32))), .unset, .unset, .unset, .unset]) at_6 rfl rfl ?_
  refine Wk.iloadN (pc' := 8) at_7 rfl rfl ?_
  by_cases hc1 : ((q &&& (2147483647 : Int32)) % (3 : Int32)) = (0 : Int32)
  ·
    refine Wk.ifN (pc' := 11) at_8 (XT.i0_ne_f hc1) rfl ?_
    refine Wk.getSt (pc' := 14) at_11 (wd1 hw) t0 rfl ?_
    refine Wk.astoreN (pc' := 15) (Ls' := #[.val (.int q), .val (.int ((q &&& (2147483647 : Int32)) % (3 : Int32))), .val (.ref s0), .unset, .unset, .unset]) at_14 rfl rfl rfl ?_
    refine Wk.iconst (pc' := 16) (0 : Int32) at_15 (by decide) rfl ?_
    refine Wk.istoreN (pc' := 17) (Ls' := #[.val (.int q), .val (.int ((q &&& (2147483647 : Int32)) % (3 : Int32))), .val (.ref s0), .val (.int (0 : Int32)), .unset, .unset]) at_16 rfl rfl ?_
    refine Wk.goTo (pc' := 40) at_17 (by decide) (by decide) ?_
    refine Wk.aloadN (pc' := 41) at_40 rfl rfl rfl ?_
    refine Wk.callV (pc' := 44) (argsL := []) (st := []) at_41 (wd4 hw) (wd5 hw) (Wk.nfSel (wd7 hw)) (wd7 hw) (wd6 hw) (wd2 hw) (wd8 hw) (by decide) (lenOf pd_0 rfl) (fun _ P => x0.ext P.toExt) (m_may_n l Z a0 hw hB [] b0 b1 sT sF E0 E1 F0 F1 n0 Fn s0 f0 y0) rfl (Nat.le_of_ble_eq_true rfl) (Nat.le_of_ble_eq_true rfl) (Nat.le_of_ble_eq_true rfl) (Nat.le_of_ble_eq_true rfl) rfl rfl ?_
    rintro _ _ ⟨rfl, hH⟩; obtain rfl := hH.symm
    show WP l Z hB _ _ _ _ _ _ _ _ [] _ _ [(.int (0 : Int32))]
    refine Wk.istore (pc' := 46) (Ls' := #[.val (.int q), .val (.int ((q &&& (2147483647 : Int32)) % (3 : Int32))), .val (.ref s0), .val (.int (0 : Int32)), .val (.int (0 : Int32)), .unset]) at_44 rfl rfl ?_
    refine Wk.aloadN (pc' := 47) at_46 rfl rfl rfl ?_
    refine Wk.iconst (pc' := 48) (1 : Int32) at_47 (by decide) rfl ?_
    refine Wk.callV (pc' := 51) (argsL := [(.int (1 : Int32))]) (st := []) at_48 (wd23 hw) (wd24 hw) (Wk.nfSel (wd26 hw)) (wd26 hw) (wd25 hw) (wd2 hw) (wd27 hw) (by decide) (lenOf pd_4 rfl) (fun _ P => x0.ext P.toExt) (m_end_n1 l Z a0 hw hB [] b0 b1 sT sF E0 E1 F0 F1 n0 Fn s0 f0 y0) rfl (Nat.le_of_ble_eq_true rfl) (Nat.le_of_ble_eq_true rfl) (Nat.le_of_ble_eq_true rfl) (Nat.le_of_ble_eq_true rfl) rfl rfl ?_
    rintro _ _ ⟨rfl, hH⟩; obtain rfl := hH.symm
    show WP l Z hB _ _ _ _ _ _ _ _ [] _ _ [(.int (0 : Int32))]
    refine Wk.ifN (pc' := 54) at_51 (XT.i0_ne_f rfl) rfl ?_
    refine Wk.aloadN (pc' := 55) at_54 rfl rfl rfl ?_
    refine Wk.iconst (pc' := 56) (0 : Int32) at_55 (by decide) rfl ?_
    refine Wk.callV (pc' := 59) (argsL := [(.int (0 : Int32))]) (st := []) at_56 (wd23 hw) (wd24 hw) (Wk.nfSel (wd26 hw)) (wd26 hw) (wd25 hw) (wd2 hw) (wd27 hw) (by decide) (lenOf pd_4 rfl) (fun _ P => x0.ext P.toExt) (m_end_n0 l Z a0 hw hB [] b0 b1 sT sF E0 E1 F0 F1 n0 Fn s0 f0 y0) rfl (Nat.le_of_ble_eq_true rfl) (Nat.le_of_ble_eq_true rfl) (Nat.le_of_ble_eq_true rfl) (Nat.le_of_ble_eq_true rfl) rfl rfl ?_
    rintro _ _ ⟨rfl, hH⟩; obtain rfl := hH.symm
    show WP l Z hB _ _ _ _ _ _ _ _ [] _ _ [(.int (0 : Int32))]
    refine Wk.ifY (pc' := 66) at_59 (XT.i0_eq_t rfl) (by decide) (by decide) ?_
    refine Wk.iconst (pc' := 67) (0 : Int32) at_66 (by decide) rfl ?_
    refine Wk.istore (pc' := 69) (Ls' := #[.val (.int q), .val (.int ((q &&& (2147483647 : Int32)) % (3 : Int32))), .val (.ref s0), .val (.int (0 : Int32)), .val (.int (0 : Int32)), .val (.int (0 : Int32))]) at_67 rfl rfl ?_
    refine Wk.iload (pc' := 71) at_69 rfl rfl ?_
    refine Wk.iloadN (pc' := 72) at_71 rfl rfl ?_
    refine Wk.icN (pc' := 75) at_72 (XT.ii_ne_f rfl) rfl ?_
    refine Wk.iload (pc' := 77) at_75 rfl rfl ?_
    refine Wk.iload (pc' := 79) at_77 rfl rfl ?_
    refine Wk.icN (pc' := 82) at_79 (XT.ii_ne_f rfl) rfl ?_
    refine Wk.iconst (pc' := 83) (1 : Int32) at_82 (by decide) rfl ?_
    refine Wk.goTo (pc' := 87) at_83 (by decide) (by decide) ?_
    exact Wk.iret (t := .boolean) at_87 rfl (by simp) rfl (Nat.le_of_ble_eq_true rfl) (Nat.le_of_ble_eq_true rfl) rfl
  ·
    refine Wk.ifY (pc' := 20) at_8 (XT.i0_ne_t hc1) (by decide) (by decide) ?_
    refine Wk.iloadN (pc' := 21) at_20 rfl rfl ?_
    refine Wk.iconst (pc' := 22) (1 : Int32) at_21 (by decide) rfl ?_
    by_cases hc2 : ((q &&& (2147483647 : Int32)) % (3 : Int32)) = (1 : Int32)
    ·
      refine Wk.icN (pc' := 25) at_22 (XT.ii_ne_f hc2) rfl ?_
      refine Wk.getSt (pc' := 28) at_25 (wd77 hw) t1 rfl ?_
      refine Wk.astoreN (pc' := 29) (Ls' := #[.val (.int q), .val (.int ((q &&& (2147483647 : Int32)) % (3 : Int32))), .val (.ref s1), .unset, .unset, .unset]) at_28 rfl rfl rfl ?_
      refine Wk.iconst (pc' := 30) (1 : Int32) at_29 (by decide) rfl ?_
      refine Wk.istoreN (pc' := 31) (Ls' := #[.val (.int q), .val (.int ((q &&& (2147483647 : Int32)) % (3 : Int32))), .val (.ref s1), .val (.int (1 : Int32)), .unset, .unset]) at_30 rfl rfl ?_
      refine Wk.goTo (pc' := 40) at_31 (by decide) (by decide) ?_
      refine Wk.aloadN (pc' := 41) at_40 rfl rfl rfl ?_
      refine Wk.callV (pc' := 44) (argsL := []) (st := []) at_41 (wd4 hw) (wd5 hw) (Wk.nfSel (wd7 hw)) (wd7 hw) (wd6 hw) (wd2 hw) (wd8 hw) (by decide) (lenOf pd_0 rfl) (fun _ P => x1.ext P.toExt) (m_may_0 l Z a0 hw hB [] b0 b1 sT sF E0 E1 F0 F1 u1 xx v1 z1 EX s1 f1 y1) rfl (Nat.le_of_ble_eq_true rfl) (Nat.le_of_ble_eq_true rfl) (Nat.le_of_ble_eq_true rfl) (Nat.le_of_ble_eq_true rfl) rfl rfl ?_
      rintro _ _ ⟨rfl, hH⟩; obtain rfl := hH.symm
      show WP l Z hB _ _ _ _ _ _ _ _ [] _ _ [(.int (1 : Int32))]
      refine Wk.istore (pc' := 46) (Ls' := #[.val (.int q), .val (.int ((q &&& (2147483647 : Int32)) % (3 : Int32))), .val (.ref s1), .val (.int (1 : Int32)), .val (.int (1 : Int32)), .unset]) at_44 rfl rfl ?_
      refine Wk.aloadN (pc' := 47) at_46 rfl rfl rfl ?_
      refine Wk.iconst (pc' := 48) (1 : Int32) at_47 (by decide) rfl ?_
      refine Wk.callV (pc' := 51) (argsL := [(.int (1 : Int32))]) (st := []) at_48 (wd23 hw) (wd24 hw) (Wk.nfSel (wd26 hw)) (wd26 hw) (wd25 hw) (wd2 hw) (wd27 hw) (by decide) (lenOf pd_4 rfl) (fun _ P => x1.ext P.toExt) (m_end_01 l Z a0 hw hB [] b0 b1 sT sF E0 E1 F0 F1 u1 xx v1 z1 EX s1 f1 y1) rfl (Nat.le_of_ble_eq_true rfl) (Nat.le_of_ble_eq_true rfl) (Nat.le_of_ble_eq_true rfl) (Nat.le_of_ble_eq_true rfl) rfl rfl ?_
      rintro _ _ ⟨rfl, hH⟩; obtain rfl := hH.symm
      show WP l Z hB _ _ _ _ _ _ _ _ [] _ _ [(.int (0 : Int32))]
      refine Wk.ifN (pc' := 54) at_51 (XT.i0_ne_f rfl) rfl ?_
      refine Wk.aloadN (pc' := 55) at_54 rfl rfl rfl ?_
      refine Wk.iconst (pc' := 56) (0 : Int32) at_55 (by decide) rfl ?_
      refine Wk.callV (pc' := 59) (argsL := [(.int (0 : Int32))]) (st := []) at_56 (wd23 hw) (wd24 hw) (Wk.nfSel (wd26 hw)) (wd26 hw) (wd25 hw) (wd2 hw) (wd27 hw) (by decide) (lenOf pd_4 rfl) (fun _ P => x1.ext P.toExt) (m_end_00 l Z a0 hw hB [] b0 b1 sT sF E0 E1 F0 F1 u1 xx v1 z1 EX s1 f1 y1) rfl (Nat.le_of_ble_eq_true rfl) (Nat.le_of_ble_eq_true rfl) (Nat.le_of_ble_eq_true rfl) (Nat.le_of_ble_eq_true rfl) rfl rfl ?_
      rintro _ _ ⟨rfl, hH⟩; obtain rfl := hH.symm
      show WP l Z hB _ _ _ _ _ _ _ _ [] _ _ [(.int (1 : Int32))]
      refine Wk.ifN (pc' := 62) at_59 (XT.i0_eq_f (by decide)) rfl ?_
      refine Wk.iconst (pc' := 63) (1 : Int32) at_62 (by decide) rfl ?_
      refine Wk.goTo (pc' := 67) at_63 (by decide) (by decide) ?_
      refine Wk.istore (pc' := 69) (Ls' := #[.val (.int q), .val (.int ((q &&& (2147483647 : Int32)) % (3 : Int32))), .val (.ref s1), .val (.int (1 : Int32)), .val (.int (1 : Int32)), .val (.int (1 : Int32))]) at_67 rfl rfl ?_
      refine Wk.iload (pc' := 71) at_69 rfl rfl ?_
      refine Wk.iloadN (pc' := 72) at_71 rfl rfl ?_
      refine Wk.icN (pc' := 75) at_72 (XT.ii_ne_f rfl) rfl ?_
      refine Wk.iload (pc' := 77) at_75 rfl rfl ?_
      refine Wk.iload (pc' := 79) at_77 rfl rfl ?_
      refine Wk.icN (pc' := 82) at_79 (XT.ii_ne_f rfl) rfl ?_
      refine Wk.iconst (pc' := 83) (1 : Int32) at_82 (by decide) rfl ?_
      refine Wk.goTo (pc' := 87) at_83 (by decide) (by decide) ?_
      exact Wk.iret (t := .boolean) at_87 rfl (by simp) rfl (Nat.le_of_ble_eq_true rfl) (Nat.le_of_ble_eq_true rfl) rfl
    ·
      refine Wk.icY (pc' := 34) at_22 (XT.ii_ne_t hc2) (by decide) (by decide) ?_
      refine Wk.getSt (pc' := 37) at_34 (wd46 hw) t2 rfl ?_
      refine Wk.astoreN (pc' := 38) (Ls' := #[.val (.int q), .val (.int ((q &&& (2147483647 : Int32)) % (3 : Int32))), .val (.ref s2), .unset, .unset, .unset]) at_37 rfl rfl rfl ?_
      refine Wk.iconst (pc' := 39) (1 : Int32) at_38 (by decide) rfl ?_
      refine Wk.istoreN (pc' := 40) (Ls' := #[.val (.int q), .val (.int ((q &&& (2147483647 : Int32)) % (3 : Int32))), .val (.ref s2), .val (.int (1 : Int32)), .unset, .unset]) at_39 rfl rfl ?_
      refine Wk.aloadN (pc' := 41) at_40 rfl rfl rfl ?_
      refine Wk.callV (pc' := 44) (argsL := []) (st := []) at_41 (wd4 hw) (wd5 hw) (Wk.nfSel (wd7 hw)) (wd7 hw) (wd6 hw) (wd2 hw) (wd8 hw) (by decide) (lenOf pd_0 rfl) (fun _ P => x2.ext P.toExt) (m_may_1 l Z a0 hw hB [] b0 b1 sT sF E0 E1 F0 F1 u2 xx v2 z2 EX s2 f2 y2) rfl (Nat.le_of_ble_eq_true rfl) (Nat.le_of_ble_eq_true rfl) (Nat.le_of_ble_eq_true rfl) (Nat.le_of_ble_eq_true rfl) rfl rfl ?_
      rintro _ _ ⟨rfl, hH⟩; obtain rfl := hH.symm
      show WP l Z hB _ _ _ _ _ _ _ _ [] _ _ [(.int (1 : Int32))]
      refine Wk.istore (pc' := 46) (Ls' := #[.val (.int q), .val (.int ((q &&& (2147483647 : Int32)) % (3 : Int32))), .val (.ref s2), .val (.int (1 : Int32)), .val (.int (1 : Int32)), .unset]) at_44 rfl rfl ?_
      refine Wk.aloadN (pc' := 47) at_46 rfl rfl rfl ?_
      refine Wk.iconst (pc' := 48) (1 : Int32) at_47 (by decide) rfl ?_
      refine Wk.callV (pc' := 51) (argsL := [(.int (1 : Int32))]) (st := []) at_48 (wd23 hw) (wd24 hw) (Wk.nfSel (wd26 hw)) (wd26 hw) (wd25 hw) (wd2 hw) (wd27 hw) (by decide) (lenOf pd_4 rfl) (fun _ P => x2.ext P.toExt) (m_end_11 l Z a0 hw hB [] b0 b1 sT sF E0 E1 F0 F1 u2 xx v2 z2 EX s2 f2 y2) rfl (Nat.le_of_ble_eq_true rfl) (Nat.le_of_ble_eq_true rfl) (Nat.le_of_ble_eq_true rfl) (Nat.le_of_ble_eq_true rfl) rfl rfl ?_
      rintro _ _ ⟨rfl, hH⟩; obtain rfl := hH.symm
      show WP l Z hB _ _ _ _ _ _ _ _ [] _ _ [(.int (1 : Int32))]
      refine Wk.ifY (pc' := 62) at_51 (XT.i0_ne_t (by decide)) (by decide) (by decide) ?_
      refine Wk.iconst (pc' := 63) (1 : Int32) at_62 (by decide) rfl ?_
      refine Wk.goTo (pc' := 67) at_63 (by decide) (by decide) ?_
      refine Wk.istore (pc' := 69) (Ls' := #[.val (.int q), .val (.int ((q &&& (2147483647 : Int32)) % (3 : Int32))), .val (.ref s2), .val (.int (1 : Int32)), .val (.int (1 : Int32)), .val (.int (1 : Int32))]) at_67 rfl rfl ?_
      refine Wk.iload (pc' := 71) at_69 rfl rfl ?_
      refine Wk.iloadN (pc' := 72) at_71 rfl rfl ?_
      refine Wk.icN (pc' := 75) at_72 (XT.ii_ne_f rfl) rfl ?_
      refine Wk.iload (pc' := 77) at_75 rfl rfl ?_
      refine Wk.iload (pc' := 79) at_77 rfl rfl ?_
      refine Wk.icN (pc' := 82) at_79 (XT.ii_ne_f rfl) rfl ?_
      refine Wk.iconst (pc' := 83) (1 : Int32) at_82 (by decide) rfl ?_
      refine Wk.goTo (pc' := 87) at_83 (by decide) (by decide) ?_
      exact Wk.iret (t := .boolean) at_87 rfl (by simp) rfl (Nat.le_of_ble_eq_true rfl) (Nat.le_of_ble_eq_true rfl) rfl
set_option maxRecDepth 65536 in
set_option maxHeartbeats 40000000 in
theorem comes_1 {Post : Tables → Env → Array Value → State → Outcome → State → Prop} (hpost : ∀ tb e args s v u, (limb_1_1.after args s (.returned v) u = true ∧ limb_1_2.after args s (.returned v) u = true ∧ True) → FrameEnd s (.returned v) u (Jvm.fieldLocs frame_1_writes args s ++ Jvm.arrayLocs frame_1_arrays args s ++ Jvm.staticLocs frame_1_statics s) 0 0 → Post tb e args s (.returned v) u) :
    ArmFor flags0 classFile x code maxLocals ret World_1 tables_1 room_1 Calls_1 rest_1 Pre_1 Post := by
  intro l hfl _ _ p e ha hc hk s m args below hf hA hF happ hP
  obtain ⟨hcalls, hrest, hpre⟩ := hP
  obtain ⟨-, -, -, hnamed, -, -, -, hat⟩ := (Spec.applies_iff hf).mp happ
  obtain ⟨hg, hn⟩ := and_e (Cond.before_iff.mp (show (Jvm.Cond.and given_1 narrow_1).before args s = true from hpre))
  obtain ⟨h1, h2⟩ := and_e hg
  obtain ⟨w0, rfl⟩ : ∃ w0 : Value, args = #[w0] := by
    have hs : args.size = 1 := by simpa [Cond.value, given_1] using h1
    obtain ⟨L⟩ := args
    match L, hs with
    | [w0], _ => exact ⟨w0, rfl⟩
  have hw := fun d (hd : d ∈ tables_1) => atoms_spec (ws := Jvm.Cond.code x code maxLocals ret :: tables_1) hat d (List.mem_cons_of_mem _ hd)
  have hfit : Fit s := fun {y c} hc i hi => by
    obtain ⟨ha, rfl⟩ := Array.getElem?_eq_some_iff.mp hc
    have q := List.all_eq_true.mp ((Array.all_eq_true_iff_forall_mem.mp hF) _ (Array.getElem_mem ha)) i (List.mem_range.mpr hi)
    simpa [Array.getElem?_eq_getElem hi] using q
  obtain ⟨i0, e0⟩ := is_v h2
  obtain rfl : w0 = (.int i0) := Option.some.inj e0
  obtain ⟨hsets, -⟩ := atoms_of jdkStatics_1 (show (jdkStatics_1.foldr Jvm.Cond.and restOwn_1).before _ s = true from (by rw [← rest_1_c_eq]; exact hrest))
  have k1 := Cond.before_iff.mp (hsets _ (List.mem_of_getElem? (i := 2) rfl))
  have k2 := Cond.before_iff.mp (hsets _ (List.mem_of_getElem? (i := 3) rfl))
  have k3 := Cond.before_iff.mp (hsets _ (List.mem_of_getElem? (i := 6) rfl))
  have k4 := Cond.before_iff.mp (hsets _ (List.mem_of_getElem? (i := 7) rfl))
  obtain ⟨b1, eb1, E1⟩ := Wk.exaOf k1
  obtain ⟨b0, eb0, E0⟩ := Wk.exaOf k3
  have F1 := Wk.fldInt eb1 k2
  have F0 := Wk.fldInt eb0 k4
  have sT := Sta.start eb1 (Or.inl (hsets _ (List.mem_of_getElem? (i := 1) rfl)))
  have sF := Sta.start eb0 (Or.inl (hsets _ (List.mem_of_getElem? (i := 5) rfl)))
  obtain ⟨p0, p1⟩ := and_e hn
  obtain ⟨p1, p2⟩ := and_e p1
  obtain ⟨p2, p3⟩ := and_e p2
  obtain ⟨p3, p4⟩ := and_e p3
  obtain ⟨p4, p5⟩ := and_e p4
  obtain ⟨p5, p6⟩ := and_e p5
  obtain ⟨p6, p7⟩ := and_e p6
  obtain ⟨p7, p8⟩ := and_e p7
  obtain ⟨p8, p9⟩ := and_e p8
  obtain ⟨p9, p10⟩ := and_e p9
  obtain ⟨s0, es0, x0⟩ := Wk.exaOf p0
  obtain ⟨n0, en0, y0⟩ := Wk.exaOf p1
  have Fn := Wk.fldInt en0 p2
  have f0 := Wk.fldV es0 en0
  obtain ⟨s2, es2, x2⟩ := Wk.exaOf p3
  obtain ⟨u2, eu2, y2⟩ := Wk.exaOf p4
  have f2 := Wk.fldV es2 eu2
  have v2 := Wk.fldV eu2 (Wk.eqvR eb1 p5)
  obtain ⟨s1, es1, x1⟩ := Wk.exaOf p6
  obtain ⟨u1, eu1, y1⟩ := Wk.exaOf p7
  have f1 := Wk.fldV es1 eu1
  have v1 := Wk.fldV eu1 (Wk.eqvR eb0 p8)
  obtain ⟨xx, exx, EX⟩ := Wk.exaOf p9
  have z1 := Wk.fldV eu1 exx
  have z2 := Wk.fldV eu2 (Wk.eqvR exx p10)
  have t0 := Sta.start es0 (Or.inr ⟨(wd2 hw), (wd3 hw)⟩)
  have t1 := Sta.start es1 (Or.inr ⟨(wd2 hw), (wd78 hw)⟩)
  have t2 := Sta.start es2 (Or.inr ⟨(wd2 hw), (wd47 hw)⟩)
  obtain ⟨n, o, h1, h2, h3, v, L, H', rfl, rfl, hp, N, hq⟩ := m_law l s _ hw s.heap i0 b0 b1 sT sF E0 E1 F0 F1 s0 s1 s2 n0 u1 u2 xx t0 x0 t1 x1 t2 x2 f0 f1 f2 y0 y1 y2 Fn v1 z1 v2 z2 EX p e ha hc hk s m _ below hf ((Spec.applies_iff_loose hf).mp happ).1 ⟨rfl, State.Warmed39.refl s, Wk.Hp.start s s.heap⟩ trivial
  refine ⟨n, _, h1, h2, h3, hpost _ _ _ _ _ _ ⟨Cond.after_iff.mpr rfl, Cond.after_iff.mpr (eq_i res_at (Term.int_eval (1)) rfl), trivial⟩ ⟨hq.1, hq.2.1, (hq.2.2.sift fun y hy => Or.inr (N y hy)).mono (by decide) (by decide)⟩⟩
theorem main_1_1 : Claimed_1_1 := comes_1 fun _ _ _ _ _ _ h hF => ⟨h.1, hF⟩
theorem main_1_2 : Claimed_1_2 := comes_1 fun _ _ _ _ _ _ h hF => ⟨h.2.1, hF⟩
end Jvm.Pilot.@@N@@
namespace Jvm.Pilot.@@N@@
open Jvm Jvm.ClassFile Sem Op Lib Jvm.Free Jvm.Stand Jvm.Pilot.@@N@@.Jvm.D
/-! MADE BY PROGRAM (witnessworld.py) out of the Statement's table words and the real class files: 22 classes; the members and pool entries that the words name. The judged class is class 1, her method 1. -/
namespace start1
open Jvm.ClassFile
def u (s : String) : CpInfo := .utf8 (stringToUtf16 s)
/-- a pool by its gaps: so many unusable entries, then the entry; so many at the end -/
def gap : Nat → List CpInfo → List CpInfo
  | 0, r => r
  | n + 1, r => .unusable :: gap n r
def poolList (es : List (Nat × CpInfo)) (last : Nat) : List CpInfo := es.foldr (fun e r => gap e.1 (e.2 :: r)) (gap last [])
def pool (es : List (Nat × CpInfo)) (last : Nat) : Array CpInfo := ⟨poolList es last⟩
def fileOf (pool : Array CpInfo) (this : Nat) (attrs : Array Attribute := #[]) (ms : Array MethodInfo := #[]) (fl : Nat := 33) (sup : Nat := 0) (ifs : Array Nat := #[]) (fds : Array FieldInfo := #[]) : ClassFile where
  minorVersion := 0
  majorVersion := 65
  constantPool := pool
  accessFlags := fl
  thisClass := this
  superClass := sup
  interfaces := ifs
  fields := fds
  methods := ms
  attributes := attrs
def plain (name : String) (sup : Option ClassId) : Class where
  name := name
  kind := .ordinary
  loader := none
  accessFlags := 33
  super := sup
  interfaces := #[]
  cf := none
  fields := #[]
  methods := #[]
  instanceTypes := #[]
  staticTypes := #[]
  resolved := #[]
  callSites := []
  init := .initialized
  statics := none
  mirror := none

def pool0 : Array CpInfo := pool [(5, u "<init>"), (0, u "()V"), (1, .class_ 10), (1, u "java/lang/Object"), (81, u "equals"), (0, u "(Ljava/lang/Object;)Z")] 30

def k0m0 : Method := { name := "<init>", desc := "()V", sig := { parameters := [], returnType := none }, accessFlags := 1, code := none }
def k0c1 : Code := { maxStack := 2, maxLocals := 2, code := object_method_4_code, exceptionTable := #[], attributes := #[] }
def k0m1 : Method := { name := "equals", desc := "(Ljava/lang/Object;)Z", sig := { parameters := [(.object "java/lang/Object")], returnType := some .boolean }, accessFlags := 1, code := some k0c1 }
/-- java/lang/Object -/
def k0 : Class := { plain "java/lang/Object" none with
  accessFlags := 33
  interfaces := #[]
  cf := some (fileOf pool0 8 #[] #[{ accessFlags := 1, nameIndex := 5, descriptorIndex := 6, attributes := #[] }, { accessFlags := 1, nameIndex := 92, descriptorIndex := 93, attributes := #[] }] 33 0 #[] #[])
  fields := #[]
  methods := #[k0m0, k0m1]
  instanceTypes := #[]
  staticTypes := #[]
  resolved := Array.replicate 124 none
  statics := none }

def pool1 : Array CpInfo := pool [(2, .class_ 4), (1, u "java/lang/Object"), (0, u "<init>"), (0, u "()V"), (0, .integer 2147483647), (0, .fieldref 9 10), (0, .class_ 11), (0, .nameAndType 12 13), (0, u "com/example/reckon/reckon/core/EvaluationsSemantic"), (0, u "EXECUTE_ALL"), (0, u "Lcom/example/reckon/reckon/core/EvaluationsSemantic;"), (0, .fieldref 9 15), (0, .nameAndType 16 13), (0, u "DENY_ON_FIRST_DENY"), (0, .fieldref 9 18), (0, .nameAndType 19 13), (0, u "PERMIT_ON_FIRST_PERMIT"), (0, .methodref 9 21), (0, .nameAndType 22 23), (0, u "mayEndEarly"), (0, u "()Z"), (0, .methodref 9 25), (0, .nameAndType 26 27), (0, u "endsWith"), (0, u "(Z)Z"), (0, .class_ 29), (0, u "com/example/reckon/reckon/core/EvaluationsSemanticMayEndEarlyPinLaw"), (2, u "law"), (0, u "(I)Z")] 3

def k1m0 : Method := { name := "<init>", desc := "()V", sig := { parameters := [], returnType := none }, accessFlags := 1, code := none }
def k1c1 : Code := { maxStack := 2, maxLocals := 6, code := code, exceptionTable := #[], attributes := #[] }
def k1m1 : Method := { name := "law", desc := "(I)Z", sig := { parameters := [.int], returnType := some .boolean }, accessFlags := 9, code := some k1c1 }
/-- com/example/reckon/reckon/core/EvaluationsSemanticMayEndEarlyPinLaw -/
def k1 : Class := { plain "com/example/reckon/reckon/core/EvaluationsSemanticMayEndEarlyPinLaw" (some 0) with
  accessFlags := 49
  interfaces := #[]
  cf := some (fileOf pool1 28 #[] #[{ accessFlags := 1, nameIndex := 5, descriptorIndex := 6, attributes := #[] }, { accessFlags := 9, nameIndex := 32, descriptorIndex := 33, attributes := #[] }] 49 2 #[] #[])
  fields := #[]
  methods := #[k1m0, k1m1]
  instanceTypes := #[]
  staticTypes := #[]
  resolved := Array.replicate 37 none
  statics := none }

def pool2 : Array CpInfo := pool [(1, .class_ 2), (0, u "java/lang/constant/Constable"), (0, .class_ 4), (0, u "java/lang/Object")] 6

/-- java/lang/constant/Constable -/
def k2 : Class := { plain "java/lang/constant/Constable" (some 0) with
  accessFlags := 1537
  interfaces := #[]
  cf := some (fileOf pool2 1 #[] #[] 1537 3 #[] #[])
  fields := #[]
  methods := #[]
  instanceTypes := #[]
  staticTypes := #[]
  resolved := Array.replicate 11 none
  statics := none }

def pool3 : Array CpInfo := pool [(1, .class_ 2), (0, u "java/lang/Comparable"), (0, .class_ 4), (0, u "java/lang/Object")] 7

/-- java/lang/Comparable -/
def k3 : Class := { plain "java/lang/Comparable" (some 0) with
  accessFlags := 1537
  interfaces := #[]
  cf := some (fileOf pool3 1 #[] #[] 1537 3 #[] #[])
  fields := #[]
  methods := #[]
  instanceTypes := #[]
  staticTypes := #[]
  resolved := Array.replicate 12 none
  statics := none }

def pool4 : Array CpInfo := pool [(1, .class_ 2), (0, u "java/io/Serializable"), (0, .class_ 4), (0, u "java/lang/Object")] 2

/-- java/io/Serializable -/
def k4 : Class := { plain "java/io/Serializable" (some 0) with
  accessFlags := 1537
  interfaces := #[]
  cf := some (fileOf pool4 1 #[] #[] 1537 3 #[] #[])
  fields := #[]
  methods := #[]
  instanceTypes := #[]
  staticTypes := #[]
  resolved := Array.replicate 7 none
  statics := none }

def pool5 : Array CpInfo := pool [(2, .class_ 4), (1, u "java/lang/Enum"), (0, u "name"), (0, u "Ljava/lang/String;"), (2, u "ordinal"), (0, u "I"), (1, .class_ 14), (1, u "java/lang/Object"), (4, u "hash"), (86, .class_ 108), (1, u "java/lang/Enum$EnumDesc"), (2, .class_ 112), (0, u "java/lang/constant/Constable"), (0, .class_ 114), (0, u "java/lang/Comparable"), (0, .class_ 116), (0, u "java/io/Serializable")] 87

/-- java/lang/Enum -/
def k5 : Class := { plain "java/lang/Enum" (some 0) with
  accessFlags := 1057
  interfaces := #[2, 3, 4]
  cf := some (fileOf pool5 2 #[.nestMembers #[106]] #[] 1057 12 #[111, 113, 115] #[{ accessFlags := 18, nameIndex := 5, descriptorIndex := 6, attributes := #[] }, { accessFlags := 18, nameIndex := 9, descriptorIndex := 10, attributes := #[] }, { accessFlags := 2, nameIndex := 19, descriptorIndex := 10, attributes := #[] }])
  fields := #[{ name := "name", type := (.object "java/lang/String"), accessFlags := 18, slot := 0, constantValue := 0 }, { name := "ordinal", type := .int, accessFlags := 18, slot := 1, constantValue := 0 }, { name := "hash", type := .int, accessFlags := 2, slot := 2, constantValue := 0 }]
  methods := #[]
  instanceTypes := #[(.object "java/lang/String"), .int, .int]
  staticTypes := #[]
  resolved := Array.replicate 204 none
  statics := none }

def pool6 : Array CpInfo := pool [(1, .class_ 2), (0, u "com/example/reckon/reckon/core/EvaluationsSemantic"), (2, u "EXECUTE_ALL"), (0, u "Lcom/example/reckon/reckon/core/EvaluationsSemantic;"), (2, u "DENY_ON_FIRST_DENY"), (2, u "PERMIT_ON_FIRST_PERMIT"), (2, u "$VALUES"), (0, u "[Lcom/example/reckon/reckon/core/EvaluationsSemantic;"), (6, .class_ 25), (1, u "java/lang/Enum"), (0, u "valueOf"), (7, u "spelling"), (0, u "Ljava/lang/String;"), (0, .fieldref 1 37), (0, .nameAndType 38 39), (0, u "ending"), (0, u "Ljava/util/Set;"), (0, .methodref 41 42), (0, .class_ 43), (0, .nameAndType 26 44), (0, u "java/lang/Boolean"), (0, u "(Z)Ljava/lang/Boolean;"), (0, .interfaceMethodref 46 47), (0, .class_ 48), (0, .nameAndType 49 50), (0, u "java/util/Set"), (0, u "contains"), (0, u "(Ljava/lang/Object;)Z"), (0, .interfaceMethodref 46 52), (0, .nameAndType 53 54), (0, u "isEmpty"), (0, u "()Z"), (31, u "endsWith"), (0, u "(Z)Z"), (0, u "mayEndEarly")] 8

def k6c0 : Code := { maxStack := 2, maxLocals := 2, code := prog_24_method_4_code, exceptionTable := #[], attributes := #[] }
def k6m0 : Method := { name := "endsWith", desc := "(Z)Z", sig := { parameters := [.boolean], returnType := some .boolean }, accessFlags := 0, code := some k6c0 }
def k6c1 : Code := { maxStack := 1, maxLocals := 1, code := prog_24_method_5_code, exceptionTable := #[], attributes := #[] }
def k6m1 : Method := { name := "mayEndEarly", desc := "()Z", sig := { parameters := [], returnType := some .boolean }, accessFlags := 0, code := some k6c1 }
/-- com/example/reckon/reckon/core/EvaluationsSemantic -/
def k6 : Class := { plain "com/example/reckon/reckon/core/EvaluationsSemantic" (some 5) with
  accessFlags := 16433
  interfaces := #[]
  cf := some (fileOf pool6 1 #[] #[{ accessFlags := 0, nameIndex := 86, descriptorIndex := 87, attributes := #[] }, { accessFlags := 0, nameIndex := 88, descriptorIndex := 54, attributes := #[] }] 16433 23 #[] #[{ accessFlags := 16409, nameIndex := 5, descriptorIndex := 6, attributes := #[] }, { accessFlags := 16409, nameIndex := 9, descriptorIndex := 6, attributes := #[] }, { accessFlags := 16409, nameIndex := 12, descriptorIndex := 6, attributes := #[] }, { accessFlags := 18, nameIndex := 34, descriptorIndex := 35, attributes := #[] }, { accessFlags := 18, nameIndex := 38, descriptorIndex := 39, attributes := #[] }, { accessFlags := 4122, nameIndex := 15, descriptorIndex := 16, attributes := #[] }])
  fields := #[{ name := "EXECUTE_ALL", type := (.object "com/example/reckon/reckon/core/EvaluationsSemantic"), accessFlags := 16409, slot := 0, constantValue := 0 }, { name := "DENY_ON_FIRST_DENY", type := (.object "com/example/reckon/reckon/core/EvaluationsSemantic"), accessFlags := 16409, slot := 1, constantValue := 0 }, { name := "PERMIT_ON_FIRST_PERMIT", type := (.object "com/example/reckon/reckon/core/EvaluationsSemantic"), accessFlags := 16409, slot := 2, constantValue := 0 }, { name := "spelling", type := (.object "java/lang/String"), accessFlags := 18, slot := 3, constantValue := 0 }, { name := "ending", type := (.object "java/util/Set"), accessFlags := 18, slot := 4, constantValue := 0 }, { name := "$VALUES", type := (.array (.object "com/example/reckon/reckon/core/EvaluationsSemantic")), accessFlags := 4122, slot := 3, constantValue := 0 }]
  methods := #[k6m0, k6m1]
  instanceTypes := #[(.object "java/lang/String"), .int, .int, (.object "java/lang/String"), (.object "java/util/Set")]
  staticTypes := #[(.object "com/example/reckon/reckon/core/EvaluationsSemantic"), (.object "com/example/reckon/reckon/core/EvaluationsSemantic"), (.object "com/example/reckon/reckon/core/EvaluationsSemantic"), (.array (.object "com/example/reckon/reckon/core/EvaluationsSemantic"))]
  resolved := Array.replicate 97 none
  statics := some 0 }

def pool7 : Array CpInfo := pool [(8, .class_ 10), (1, u "java/lang/Iterable"), (24, .class_ 36), (0, u "java/lang/Object")] 25

/-- java/lang/Iterable -/
def k7 : Class := { plain "java/lang/Iterable" (some 0) with
  accessFlags := 1537
  interfaces := #[]
  cf := some (fileOf pool7 8 #[] #[] 1537 35 #[] #[])
  fields := #[]
  methods := #[]
  instanceTypes := #[]
  staticTypes := #[]
  resolved := Array.replicate 62 none
  statics := none }

def pool8 : Array CpInfo := pool [(10, .class_ 12), (1, u "java/util/Collection"), (47, .class_ 61), (0, u "java/lang/Object"), (0, .class_ 63), (0, u "java/lang/Iterable")] 51

/-- java/util/Collection -/
def k8 : Class := { plain "java/util/Collection" (some 0) with
  accessFlags := 1537
  interfaces := #[7]
  cf := some (fileOf pool8 10 #[] #[] 1537 60 #[62] #[])
  fields := #[]
  methods := #[]
  instanceTypes := #[]
  staticTypes := #[]
  resolved := Array.replicate 115 none
  statics := none }

def pool9 : Array CpInfo := pool [(26, .class_ 27), (0, u "java/lang/Object"), (5, .class_ 34), (0, u "java/util/Set"), (1, .class_ 38), (1, u "java/util/Collection"), (0, u "isEmpty"), (0, u "()Z"), (18, u "contains"), (0, u "(Ljava/lang/Object;)Z")] 83

def k9m0 : Method := { name := "isEmpty", desc := "()Z", sig := { parameters := [], returnType := some .boolean }, accessFlags := 1025, code := none }
def k9m1 : Method := { name := "contains", desc := "(Ljava/lang/Object;)Z", sig := { parameters := [(.object "java/lang/Object")], returnType := some .boolean }, accessFlags := 1025, code := none }
/-- java/util/Set -/
def k9 : Class := { plain "java/util/Set" (some 0) with
  accessFlags := 1537
  interfaces := #[8]
  cf := some (fileOf pool9 33 #[] #[{ accessFlags := 1025, nameIndex := 39, descriptorIndex := 40, attributes := #[] }, { accessFlags := 1025, nameIndex := 59, descriptorIndex := 60, attributes := #[] }] 1537 26 #[36] #[])
  fields := #[]
  methods := #[k9m0, k9m1]
  instanceTypes := #[]
  staticTypes := #[]
  resolved := Array.replicate 144 none
  statics := none }

def pool10 : Array CpInfo := pool [(2, .class_ 4), (1, u "java/lang/Object"), (0, u "<init>"), (0, u "()V"), (1, .class_ 10), (1, u "java/util/AbstractCollection"), (66, .class_ 78), (0, u "java/util/Collection")] 81

def k10m0 : Method := { name := "<init>", desc := "()V", sig := { parameters := [], returnType := none }, accessFlags := 4, code := none }
/-- java/util/AbstractCollection -/
def k10 : Class := { plain "java/util/AbstractCollection" (some 0) with
  accessFlags := 1057
  interfaces := #[8]
  cf := some (fileOf pool10 8 #[] #[{ accessFlags := 4, nameIndex := 5, descriptorIndex := 6, attributes := #[] }] 1057 2 #[77] #[])
  fields := #[]
  methods := #[k10m0]
  instanceTypes := #[]
  staticTypes := #[]
  resolved := Array.replicate 160 none
  statics := none }

def pool11 : Array CpInfo := pool [(2, .class_ 4), (1, u "java/util/AbstractCollection"), (0, u "<init>"), (0, u "()V"), (1, .class_ 10), (1, u "java/util/ImmutableCollections"), (2, .class_ 14), (0, u "java/util/ImmutableCollections$AbstractImmutableCollection")] 41

def k11m0 : Method := { name := "<init>", desc := "()V", sig := { parameters := [], returnType := none }, accessFlags := 0, code := none }
/-- java/util/ImmutableCollections$AbstractImmutableCollection -/
def k11 : Class := { plain "java/util/ImmutableCollections$AbstractImmutableCollection" (some 10) with
  accessFlags := 1056
  interfaces := #[]
  cf := some (fileOf pool11 13 #[.nestHost 8] #[{ accessFlags := 0, nameIndex := 5, descriptorIndex := 6, attributes := #[] }] 1056 2 #[] #[])
  fields := #[]
  methods := #[k11m0]
  instanceTypes := #[]
  staticTypes := #[]
  resolved := Array.replicate 56 none
  statics := none }

def pool12 : Array CpInfo := pool [(2, .class_ 4), (1, u "java/util/ImmutableCollections$AbstractImmutableCollection"), (0, u "<init>"), (0, u "()V"), (0, .class_ 8), (0, u "java/util/Set"), (7, .class_ 17), (0, u "java/util/ImmutableCollections$AbstractImmutableSet"), (43, .class_ 62), (0, u "java/util/ImmutableCollections")] 3

def k12m0 : Method := { name := "<init>", desc := "()V", sig := { parameters := [], returnType := none }, accessFlags := 0, code := none }
/-- java/util/ImmutableCollections$AbstractImmutableSet -/
def k12 : Class := { plain "java/util/ImmutableCollections$AbstractImmutableSet" (some 11) with
  accessFlags := 1056
  interfaces := #[9]
  cf := some (fileOf pool12 16 #[.nestHost 61] #[{ accessFlags := 0, nameIndex := 5, descriptorIndex := 6, attributes := #[] }] 1056 2 #[7] #[])
  fields := #[]
  methods := #[k12m0]
  instanceTypes := #[]
  staticTypes := #[]
  resolved := Array.replicate 66 none
  statics := none }

def pool13 : Array CpInfo := pool [(1, .class_ 2), (0, u "java/util/ImmutableCollections"), (1, .class_ 6), (1, u "java/util/ImmutableCollections$AbstractImmutableSet"), (2, .fieldref 10 11), (0, .class_ 12), (0, .nameAndType 13 14), (0, u "java/util/ImmutableCollections$SetN"), (0, u "size"), (0, u "I"), (4, u "elements"), (0, u "[Ljava/lang/Object;"), (25, .methodref 47 48), (0, .class_ 49), (0, .nameAndType 50 51), (0, u "java/util/Objects"), (0, u "requireNonNull"), (0, u "(Ljava/lang/Object;)Ljava/lang/Object;"), (18, u "(Ljava/lang/Object;)Z"), (36, .class_ 108), (0, u "java/io/Serializable"), (21, u "isEmpty"), (0, u "()Z"), (0, u "contains")] 35

def k13c0 : Code := { maxStack := 1, maxLocals := 1, code := jdk_132_method_3_code, exceptionTable := #[], attributes := #[] }
def k13m0 : Method := { name := "isEmpty", desc := "()Z", sig := { parameters := [], returnType := some .boolean }, accessFlags := 1, code := some k13c0 }
def k13c1 : Code := { maxStack := 2, maxLocals := 2, code := jdk_132_method_4_code, exceptionTable := #[], attributes := #[] }
def k13m1 : Method := { name := "contains", desc := "(Ljava/lang/Object;)Z", sig := { parameters := [(.object "java/lang/Object")], returnType := some .boolean }, accessFlags := 1, code := some k13c1 }
/-- java/util/ImmutableCollections$SetN -/
def k13 : Class := { plain "java/util/ImmutableCollections$SetN" (some 12) with
  accessFlags := 48
  interfaces := #[4]
  cf := some (fileOf pool13 10 #[.nestHost 1] #[{ accessFlags := 1, nameIndex := 130, descriptorIndex := 131, attributes := #[] }, { accessFlags := 1, nameIndex := 132, descriptorIndex := 70, attributes := #[] }] 48 4 #[107] #[{ accessFlags := 16, nameIndex := 19, descriptorIndex := 20, attributes := #[] }, { accessFlags := 16, nameIndex := 13, descriptorIndex := 14, attributes := #[] }])
  fields := #[{ name := "elements", type := (.array (.object "java/lang/Object")), accessFlags := 16, slot := 0, constantValue := 0 }, { name := "size", type := .int, accessFlags := 16, slot := 1, constantValue := 0 }]
  methods := #[k13m0, k13m1]
  instanceTypes := #[(.array (.object "java/lang/Object")), .int]
  staticTypes := #[]
  resolved := Array.replicate 168 none
  statics := none }

def pool14 : Array CpInfo := pool [(2, .class_ 4), (1, u "java/lang/Object"), (2, .fieldref 8 9), (0, .class_ 10), (0, .nameAndType 11 12), (0, u "java/lang/Boolean"), (0, u "value"), (0, u "Z"), (14, .fieldref 8 28), (0, .nameAndType 29 30), (0, u "TRUE"), (0, u "Ljava/lang/Boolean;"), (0, .fieldref 8 32), (0, .nameAndType 33 30), (0, u "FALSE"), (2, u "valueOf"), (5, .methodref 8 43), (0, .nameAndType 44 45), (0, u "booleanValue"), (0, u "()Z"), (41, u "TYPE"), (0, u "Ljava/lang/Class;"), (0, .class_ 90), (0, u "java/io/Serializable"), (0, .class_ 92), (0, u "java/lang/Comparable"), (0, .class_ 94), (0, u "java/lang/constant/Constable"), (2, u "serialVersionUID"), (0, u "J"), (18, u "(Z)Ljava/lang/Boolean;"), (6, u "equals"), (0, u "(Ljava/lang/Object;)Z")] 26

def k14c0 : Code := { maxStack := 1, maxLocals := 1, code := jdk_2055_method_4_code, exceptionTable := #[], attributes := #[] }
def k14m0 : Method := { name := "booleanValue", desc := "()Z", sig := { parameters := [], returnType := some .boolean }, accessFlags := 1, code := some k14c0 }
def k14c1 : Code := { maxStack := 1, maxLocals := 1, code := jdk_2055_method_5_code, exceptionTable := #[], attributes := #[] }
def k14m1 : Method := { name := "valueOf", desc := "(Z)Ljava/lang/Boolean;", sig := { parameters := [.boolean], returnType := some (.object "java/lang/Boolean") }, accessFlags := 9, code := some k14c1 }
def k14c2 : Code := { maxStack := 2, maxLocals := 2, code := jdk_2055_method_11_code, exceptionTable := #[], attributes := #[] }
def k14m2 : Method := { name := "equals", desc := "(Ljava/lang/Object;)Z", sig := { parameters := [(.object "java/lang/Object")], returnType := some .boolean }, accessFlags := 1, code := some k14c2 }
/-- java/lang/Boolean -/
def k14 : Class := { plain "java/lang/Boolean" (some 0) with
  accessFlags := 49
  interfaces := #[4, 3, 2]
  cf := some (fileOf pool14 8 #[] #[{ accessFlags := 1, nameIndex := 44, descriptorIndex := 45, attributes := #[] }, { accessFlags := 9, nameIndex := 36, descriptorIndex := 117, attributes := #[] }, { accessFlags := 1, nameIndex := 124, descriptorIndex := 125, attributes := #[] }] 49 2 #[89, 91, 93] #[{ accessFlags := 25, nameIndex := 29, descriptorIndex := 30, attributes := #[] }, { accessFlags := 25, nameIndex := 33, descriptorIndex := 30, attributes := #[] }, { accessFlags := 25, nameIndex := 87, descriptorIndex := 88, attributes := #[] }, { accessFlags := 18, nameIndex := 11, descriptorIndex := 12, attributes := #[] }, { accessFlags := 26, nameIndex := 97, descriptorIndex := 98, attributes := #[] }])
  fields := #[{ name := "TRUE", type := (.object "java/lang/Boolean"), accessFlags := 25, slot := 0, constantValue := 0 }, { name := "FALSE", type := (.object "java/lang/Boolean"), accessFlags := 25, slot := 1, constantValue := 0 }, { name := "TYPE", type := (.object "java/lang/Class"), accessFlags := 25, slot := 2, constantValue := 0 }, { name := "value", type := .boolean, accessFlags := 18, slot := 0, constantValue := 0 }, { name := "serialVersionUID", type := .long, accessFlags := 26, slot := 3, constantValue := 0 }]
  methods := #[k14m0, k14m1, k14m2]
  instanceTypes := #[.boolean]
  staticTypes := #[(.object "java/lang/Boolean"), (.object "java/lang/Boolean"), (.object "java/lang/Class"), .long]
  resolved := Array.replicate 152 none
  statics := some 1 }

def pool15 : Array CpInfo := pool [(2, .class_ 4), (1, u "java/lang/Object"), (0, u "<init>"), (0, u "()V"), (35, .class_ 44), (1, u "java/util/Objects"), (0, u "requireNonNull"), (0, u "(Ljava/lang/Object;)Ljava/lang/Object;")] 137

def k15m0 : Method := { name := "<init>", desc := "()V", sig := { parameters := [], returnType := none }, accessFlags := 2, code := none }
def k15c1 : Code := { maxStack := 2, maxLocals := 1, code := jdk_31_method_10_code, exceptionTable := #[], attributes := #[] }
def k15m1 : Method := { name := "requireNonNull", desc := "(Ljava/lang/Object;)Ljava/lang/Object;", sig := { parameters := [(.object "java/lang/Object")], returnType := some (.object "java/lang/Object") }, accessFlags := 9, code := some k15c1 }
/-- java/util/Objects -/
def k15 : Class := { plain "java/util/Objects" (some 0) with
  accessFlags := 49
  interfaces := #[]
  cf := some (fileOf pool15 42 #[] #[{ accessFlags := 2, nameIndex := 5, descriptorIndex := 6, attributes := #[] }, { accessFlags := 9, nameIndex := 45, descriptorIndex := 46, attributes := #[] }] 49 2 #[] #[])
  fields := #[]
  methods := #[k15m0, k15m1]
  instanceTypes := #[]
  staticTypes := #[]
  resolved := Array.replicate 184 none
  statics := none }

def pool16 : Array CpInfo := pool [(2, .class_ 4), (1, u "java/util/ImmutableCollections$AbstractImmutableSet"), (8, .fieldref 14 15), (0, .class_ 16), (0, .nameAndType 17 18), (0, u "java/util/ImmutableCollections$Set12"), (0, u "e0"), (0, u "Ljava/lang/Object;"), (1, .class_ 22), (1, u "java/util/ImmutableCollections"), (1, .fieldref 14 25), (0, .nameAndType 26 18), (0, u "e1"), (0, .methodref 28 29), (0, .class_ 30), (0, .nameAndType 31 32), (0, u "java/lang/Object"), (0, u "equals"), (0, u "(Ljava/lang/Object;)Z"), (64, .class_ 98), (0, u "java/io/Serializable"), (16, u "isEmpty"), (0, u "()Z"), (0, u "contains")] 31

def k16c0 : Code := { maxStack := 1, maxLocals := 1, code := jdk_101_method_4_code, exceptionTable := #[], attributes := #[] }
def k16m0 : Method := { name := "isEmpty", desc := "()Z", sig := { parameters := [], returnType := some .boolean }, accessFlags := 1, code := some k16c0 }
def k16c1 : Code := { maxStack := 2, maxLocals := 2, code := jdk_101_method_5_code, exceptionTable := #[], attributes := #[] }
def k16m1 : Method := { name := "contains", desc := "(Ljava/lang/Object;)Z", sig := { parameters := [(.object "java/lang/Object")], returnType := some .boolean }, accessFlags := 1, code := some k16c1 }
/-- java/util/ImmutableCollections$Set12 -/
def k16 : Class := { plain "java/util/ImmutableCollections$Set12" (some 12) with
  accessFlags := 48
  interfaces := #[4]
  cf := some (fileOf pool16 14 #[.nestHost 20] #[{ accessFlags := 1, nameIndex := 115, descriptorIndex := 116, attributes := #[] }, { accessFlags := 1, nameIndex := 117, descriptorIndex := 32, attributes := #[] }] 48 2 #[97] #[{ accessFlags := 18, nameIndex := 17, descriptorIndex := 18, attributes := #[] }, { accessFlags := 18, nameIndex := 26, descriptorIndex := 18, attributes := #[] }])
  fields := #[{ name := "e0", type := (.object "java/lang/Object"), accessFlags := 18, slot := 0, constantValue := 0 }, { name := "e1", type := (.object "java/lang/Object"), accessFlags := 18, slot := 1, constantValue := 0 }]
  methods := #[k16m0, k16m1]
  instanceTypes := #[(.object "java/lang/Object"), (.object "java/lang/Object")]
  staticTypes := #[]
  resolved := Array.replicate 149 none
  statics := none }

def pool17 : Array CpInfo := pool [(1, u "java/lang/Cloneable"), (0, .class_ 1), (0, u "java/lang/Object"), (0, .class_ 3)] 3

/-- java/lang/Cloneable -/
def k17 : Class := { plain "java/lang/Cloneable" (some 0) with
  accessFlags := 1537
  interfaces := #[]
  cf := some (fileOf pool17 2 #[] #[] 1537 4 #[] #[])
  fields := #[]
  methods := #[]
  instanceTypes := #[]
  staticTypes := #[]
  resolved := Array.replicate 8 none
  statics := none }

/-- the primitive byte -/
def k18 : Class := { plain "byte" none with kind := .primitive 'B', accessFlags := 0x411 }
/-- [B -/
def k19 : Class := { plain "[B" (some 0) with kind := .array 18 .byte, interfaces := #[17, 4], accessFlags := 1041 }

/-- the primitive int -/
def k20 : Class := { plain "int" none with kind := .primitive 'I', accessFlags := 0x411 }
/-- [I -/
def k21 : Class := { plain "[I" (some 0) with kind := .array 20 .int, interfaces := #[17, 4], accessFlags := 1041 }

def heap : Heap := #[{ cls := 6, slots := #[.ref 8, .ref 9, .ref 10, .null], vm := .statics 6 },
  { cls := 14, slots := #[.ref 3, .ref 2, .null, .long 0], vm := .statics 14 },
  { cls := 14, slots := #[.int 0], vm := .none },
  { cls := 14, slots := #[.int 1], vm := .none },
  { cls := 0, slots := #[], vm := .none },
  { cls := 13, slots := #[.null, .int 0], vm := .none },
  { cls := 16, slots := #[.ref 2, .ref 4], vm := .none },
  { cls := 16, slots := #[.ref 3, .ref 4], vm := .none },
  { cls := 6, slots := #[.null, .int 0, .int 0, .null, .ref 5], vm := .none },
  { cls := 6, slots := #[.null, .int 1, .int 0, .null, .ref 6], vm := .none },
  { cls := 6, slots := #[.null, .int 2, .int 0, .null, .ref 7], vm := .none }]
def classes : Array Class := #[k0, k1, k2, k3, k4, k5, k6, k7, k8, k9, k10, k11, k12, k13, k14, k15, k16, k17, k18, k19, k20, k21]
def interned : List (Array UInt16 × Addr) := []
def slotsUsed : Nat := 31
def theMethod : MethodId := ⟨1, 1⟩
def args0 : Array Value := #[.int 4]
def aboutOver (below : List Frame) : State where
  vm := { classes := classes, interned := interned.toArray }
  heap := heap
  slotsUsed := slotsUsed
  threads := #[{ frames := .invoking theMethod args0 :: below }]
def below0 : List Frame := [.native { method := ⟨0, 0⟩, args := #[] }]
def about1 : State := aboutOver below0
def p0 : Program := .bare "" "" ""
def e0 : Env := launch0.env 0 0 0
theorem w_frames : about1.frames = Frame.invoking theMethod args0 :: below0 := rfl
set_option maxRecDepth 65536 in
theorem w_args : argsFit about1.vm theMethod args0 = true := by decide +kernel
set_option maxRecDepth 65536 in
theorem w_heap : heapFits about1 = true := by decide +kernel
set_option maxRecDepth 65536 in
theorem w_runnable : about1.curStatus? = some .runnable := by decide +kernel
set_option maxRecDepth 65536 in
theorem w_alone : about1.alone = true := by decide +kernel
set_option maxRecDepth 65536 in
theorem w_named : about1.methodNamed? x = some theMethod := by decide +kernel
set_option maxRecDepth 65536 in
theorem w_hears : about1.hears theMethod below0 = true := by decide +kernel
set_option maxRecDepth 65536 in
theorem w_ripe : about1.ripe theMethod args0 below0 = true := by decide +kernel
theorem w_running : about1.status = .running := rfl
set_option maxRecDepth 65536 in
theorem w_room : about1.hasRoom e0.platform room_1 = true :=
  launch0.hasRoom_least _ room_1 (by decide +kernel) (by decide +kernel) (by decide +kernel) (by decide +kernel) (by decide +kernel) (by decide +kernel)
theorem allAtoms_all (ts : List Jvm.Cond) (a : Array Jvm.Value) (st : Jvm.State) : (allAtoms ts).before a st = ts.all (fun c => c.before a st) := by
  induction ts with
  | nil => rfl
  | cons c t ih =>
    show (Jvm.Cond.and c (allAtoms t)).before a st = _
    rw [Jvm.Cond.before_and, ih, List.all_cons]
def words1 : List Jvm.Cond := Jvm.Cond.code x code maxLocals ret :: tables_1
/-- a 'code' word, met by the world's own term for the bytes: nothing is compared byte by byte -/
theorem code_word {y : MethodName} {bytes : ByteArray} {mx : Nat} {rt : Option FieldType} {a : Array Value} {s : State} {m : MethodId} {meth : Method} {c : Code} (h1 : s.methodNamed? y = some m) (h2 : s.vm.method? m = some meth) (h3 : meth.code = some c) (h4 : c.code = bytes)
    (h5 : (c.maxLocals == mx && c.exceptionTable.isEmpty && decide (c.maxStack ≤ mostOperands) && decide (meth.sig.returnType = rt) && !meth.locks && decide (parseMethodDescriptor y.desc = some meth.sig)) = true) : (Jvm.Cond.code y bytes mx rt).before a s = true := by
  simp only [Bool.and_eq_true, beq_iff_eq, Bool.not_eq_true', decide_eq_true_eq] at h5
  obtain ⟨⟨⟨⟨⟨g1, g2⟩, g3⟩, g4⟩, g5⟩, g6⟩ := h5
  simp [Cond.before, Cond.holds, Cond.value, h1, h2, h3, h4, g1, g2, g3, g4, g5, g6]
def isCode : Jvm.Cond → Bool
  | .code _ _ _ _ => true
  | _ => false
theorem all_split {L : List Jvm.Cond} {P : Jvm.Cond → Bool} (h1 : L.all (fun c => isCode c || P c) = true) (h2 : ∀ c ∈ L.filter isCode, P c = true) : L.all P = true := by
  refine List.all_eq_true.mpr fun c hc => ?_
  have h := List.all_eq_true.mp h1 c hc
  rcases Bool.eq_false_or_eq_true (isCode c) with hi | hi
  · exact h2 c (List.mem_filter.mpr ⟨hc, hi⟩)
  · simpa [hi] using h
set_option maxRecDepth 65536 in
theorem w_c0 : (Jvm.Cond.code x code maxLocals ret).before args0 about1 = true := code_word (m := ⟨1, 1⟩) (meth := k1m1) (c := k1c1) (by decide +kernel) rfl rfl rfl (by decide +kernel)
set_option maxRecDepth 65536 in
theorem w_c1 : (Jvm.Cond.code ({ cls := "com/example/reckon/reckon/core/EvaluationsSemantic", name := "mayEndEarly", desc := "()Z" } : Jvm.MethodName) prog_24_method_5_code (1 : Nat) (Option.some Jvm.ClassFile.FieldType.boolean)).before args0 about1 = true := code_word (m := ⟨6, 1⟩) (meth := k6m1) (c := k6c1) (by decide +kernel) rfl rfl rfl (by decide +kernel)
set_option maxRecDepth 65536 in
theorem w_c2 : (Jvm.Cond.code ({ cls := "java/util/ImmutableCollections$SetN", name := "isEmpty", desc := "()Z" } : Jvm.MethodName) jdk_132_method_3_code (1 : Nat) (Option.some Jvm.ClassFile.FieldType.boolean)).before args0 about1 = true := code_word (m := ⟨13, 0⟩) (meth := k13m0) (c := k13c0) (by decide +kernel) rfl rfl rfl (by decide +kernel)
set_option maxRecDepth 65536 in
theorem w_c3 : (Jvm.Cond.code ({ cls := "com/example/reckon/reckon/core/EvaluationsSemantic", name := "endsWith", desc := "(Z)Z" } : Jvm.MethodName) prog_24_method_4_code (2 : Nat) (Option.some Jvm.ClassFile.FieldType.boolean)).before args0 about1 = true := code_word (m := ⟨6, 0⟩) (meth := k6m0) (c := k6c0) (by decide +kernel) rfl rfl rfl (by decide +kernel)
set_option maxRecDepth 65536 in
theorem w_c4 : (Jvm.Cond.code ({ cls := "java/lang/Boolean", name := "valueOf", desc := "(Z)Ljava/lang/Boolean;" } : Jvm.MethodName) jdk_2055_method_5_code (1 : Nat) (Option.some (Jvm.ClassFile.FieldType.object "java/lang/Boolean"))).before args0 about1 = true := code_word (m := ⟨14, 1⟩) (meth := k14m1) (c := k14c1) (by decide +kernel) rfl rfl rfl (by decide +kernel)
set_option maxRecDepth 65536 in
theorem w_c5 : (Jvm.Cond.code ({ cls := "java/util/ImmutableCollections$SetN", name := "contains", desc := "(Ljava/lang/Object;)Z" } : Jvm.MethodName) jdk_132_method_4_code (2 : Nat) (Option.some Jvm.ClassFile.FieldType.boolean)).before args0 about1 = true := code_word (m := ⟨13, 1⟩) (meth := k13m1) (c := k13c1) (by decide +kernel) rfl rfl rfl (by decide +kernel)
set_option maxRecDepth 65536 in
theorem w_c6 : (Jvm.Cond.code ({ cls := "java/util/Objects", name := "requireNonNull", desc := "(Ljava/lang/Object;)Ljava/lang/Object;" } : Jvm.MethodName) jdk_31_method_10_code (1 : Nat) (Option.some (Jvm.ClassFile.FieldType.object "java/lang/Object"))).before args0 about1 = true := code_word (m := ⟨15, 1⟩) (meth := k15m1) (c := k15c1) (by decide +kernel) rfl rfl rfl (by decide +kernel)
set_option maxRecDepth 65536 in
theorem w_c7 : (Jvm.Cond.code ({ cls := "java/util/ImmutableCollections$Set12", name := "isEmpty", desc := "()Z" } : Jvm.MethodName) jdk_101_method_4_code (1 : Nat) (Option.some Jvm.ClassFile.FieldType.boolean)).before args0 about1 = true := code_word (m := ⟨16, 0⟩) (meth := k16m0) (c := k16c0) (by decide +kernel) rfl rfl rfl (by decide +kernel)
set_option maxRecDepth 65536 in
theorem w_c8 : (Jvm.Cond.code ({ cls := "java/util/ImmutableCollections$Set12", name := "contains", desc := "(Ljava/lang/Object;)Z" } : Jvm.MethodName) jdk_101_method_5_code (2 : Nat) (Option.some Jvm.ClassFile.FieldType.boolean)).before args0 about1 = true := code_word (m := ⟨16, 1⟩) (meth := k16m1) (c := k16c1) (by decide +kernel) rfl rfl rfl (by decide +kernel)
set_option maxRecDepth 65536 in
theorem w_c9 : (Jvm.Cond.code ({ cls := "java/lang/Boolean", name := "equals", desc := "(Ljava/lang/Object;)Z" } : Jvm.MethodName) jdk_2055_method_11_code (2 : Nat) (Option.some Jvm.ClassFile.FieldType.boolean)).before args0 about1 = true := code_word (m := ⟨14, 2⟩) (meth := k14m2) (c := k14c2) (by decide +kernel) rfl rfl rfl (by decide +kernel)
set_option maxRecDepth 65536 in
theorem w_c10 : (Jvm.Cond.code ({ cls := "java/lang/Boolean", name := "booleanValue", desc := "()Z" } : Jvm.MethodName) jdk_2055_method_4_code (1 : Nat) (Option.some Jvm.ClassFile.FieldType.boolean)).before args0 about1 = true := code_word (m := ⟨14, 0⟩) (meth := k14m0) (c := k14c0) (by decide +kernel) rfl rfl rfl (by decide +kernel)
set_option maxRecDepth 65536 in
theorem w_c11 : (Jvm.Cond.code ({ cls := "java/lang/Object", name := "equals", desc := "(Ljava/lang/Object;)Z" } : Jvm.MethodName) object_method_4_code (2 : Nat) (Option.some Jvm.ClassFile.FieldType.boolean)).before args0 about1 = true := code_word (m := ⟨0, 1⟩) (meth := k0m1) (c := k0c1) (by decide +kernel) rfl rfl rfl (by decide +kernel)
def codes1 : List Jvm.Cond := [Jvm.Cond.code x code maxLocals ret, Jvm.Cond.code ({ cls := "com/example/reckon/reckon/core/EvaluationsSemantic", name := "mayEndEarly", desc := "()Z" } : Jvm.MethodName) prog_24_method_5_code (1 : Nat) (Option.some Jvm.ClassFile.FieldType.boolean), Jvm.Cond.code ({ cls := "java/util/ImmutableCollections$SetN", name := "isEmpty", desc := "()Z" } : Jvm.MethodName) jdk_132_method_3_code (1 : Nat) (Option.some Jvm.ClassFile.FieldType.boolean), Jvm.Cond.code ({ cls := "com/example/reckon/reckon/core/EvaluationsSemantic", name := "endsWith", desc := "(Z)Z" } : Jvm.MethodName) prog_24_method_4_code (2 : Nat) (Option.some Jvm.ClassFile.FieldType.boolean), Jvm.Cond.code ({ cls := "java/lang/Boolean", name := "valueOf", desc := "(Z)Ljava/lang/Boolean;" } : Jvm.MethodName) jdk_2055_method_5_code (1 : Nat) (Option.some (Jvm.ClassFile.FieldType.object "java/lang/Boolean")), Jvm.Cond.code ({ cls := "java/util/ImmutableCollections$SetN", name := "contains", desc := "(Ljava/lang/Object;)Z" } : Jvm.MethodName) jdk_132_method_4_code (2 : Nat) (Option.some Jvm.ClassFile.FieldType.boolean), Jvm.Cond.code ({ cls := "java/util/Objects", name := "requireNonNull", desc := "(Ljava/lang/Object;)Ljava/lang/Object;" } : Jvm.MethodName) jdk_31_method_10_code (1 : Nat) (Option.some (Jvm.ClassFile.FieldType.object "java/lang/Object")), Jvm.Cond.code ({ cls := "java/util/ImmutableCollections$Set12", name := "isEmpty", desc := "()Z" } : Jvm.MethodName) jdk_101_method_4_code (1 : Nat) (Option.some Jvm.ClassFile.FieldType.boolean), Jvm.Cond.code ({ cls := "java/util/ImmutableCollections$Set12", name := "contains", desc := "(Ljava/lang/Object;)Z" } : Jvm.MethodName) jdk_101_method_5_code (2 : Nat) (Option.some Jvm.ClassFile.FieldType.boolean), Jvm.Cond.code ({ cls := "java/lang/Boolean", name := "equals", desc := "(Ljava/lang/Object;)Z" } : Jvm.MethodName) jdk_2055_method_11_code (2 : Nat) (Option.some Jvm.ClassFile.FieldType.boolean), Jvm.Cond.code ({ cls := "java/lang/Boolean", name := "booleanValue", desc := "()Z" } : Jvm.MethodName) jdk_2055_method_4_code (1 : Nat) (Option.some Jvm.ClassFile.FieldType.boolean), Jvm.Cond.code ({ cls := "java/lang/Object", name := "equals", desc := "(Ljava/lang/Object;)Z" } : Jvm.MethodName) object_method_4_code (2 : Nat) (Option.some Jvm.ClassFile.FieldType.boolean)]
set_option maxRecDepth 65536 in
theorem codes_eq : words1.filter isCode = codes1 := rfl
theorem w_codes : ∀ c ∈ words1.filter isCode, c.before args0 about1 = true := by
  rw [codes_eq]
  intro c hc
  simp only [codes1, List.mem_cons, List.not_mem_nil, or_false] at hc
  rcases hc with rfl | rfl | rfl | rfl | rfl | rfl | rfl | rfl | rfl | rfl | rfl | rfl
  · exact w_c0
  · exact w_c1
  · exact w_c2
  · exact w_c3
  · exact w_c4
  · exact w_c5
  · exact w_c6
  · exact w_c7
  · exact w_c8
  · exact w_c9
  · exact w_c10
  · exact w_c11
set_option maxRecDepth 65536 in
theorem w_t1 : (words1.take 24).all (fun c => isCode c || c.before args0 about1) = true := by decide +kernel
set_option maxRecDepth 65536 in
theorem w_t2 : ((words1.drop 24).take 24).all (fun c => isCode c || c.before args0 about1) = true := by decide +kernel
set_option maxRecDepth 65536 in
theorem w_t3 : (((words1.drop 24).drop 24).take 24).all (fun c => isCode c || c.before args0 about1) = true := by decide +kernel
set_option maxRecDepth 65536 in
theorem w_t4 : (((words1.drop 24).drop 24).drop 24).all (fun c => isCode c || c.before args0 about1) = true := by decide +kernel
theorem w_tables : (allAtoms (Jvm.Cond.code x code maxLocals ret :: tables_1)).before args0 about1 = true := by
  rw [allAtoms_all]
  show words1.all (fun c => c.before args0 about1) = true
  refine all_split ?_ w_codes
  rw [← List.take_append_drop 24 words1, List.all_append, w_t1, ← List.take_append_drop 24 (words1.drop 24), List.all_append, w_t2, ← List.take_append_drop 24 ((words1.drop 24).drop 24), List.all_append, w_t3, w_t4]
  rfl
set_option maxRecDepth 65536 in
theorem w_rest : rest_1_c.before args0 about1 = true := by decide +kernel
set_option maxRecDepth 65536 in
theorem w_case : (Jvm.Cond.and given_1 narrow_1).before args0 about1 = true := by decide +kernel
theorem w_applies : (headSpec (Jvm.Cond.code x code maxLocals ret :: tables_1) room_1).applies x e0.platform about1 = true :=
  (Spec.applies_iff w_frames).mpr ⟨w_running, w_runnable, w_alone, w_named, w_hears, w_ripe, w_room, w_tables⟩
theorem atStart : AtStart classFile x code maxLocals ret World_1 tables_1 room_1 Calls_1 rest_1 Pre_1 launch0 p0 e0 about1 theMethod args0 below0 :=
  ⟨lists_1, trivial, launch0.admits_env _ _ _, launch0.least_env, fairChoices_fair.cas, fairChoices_fair.clock, w_frames, w_args, w_heap, w_applies, trivial, w_rest, w_case⟩
end start1
theorem witness_1 : WitnessClaimed_1 := ⟨start1.p0, start1.e0, start1.about1, start1.theMethod, start1.args0, start1.below0, start1.atStart⟩
end Jvm.Pilot.@@N@@
