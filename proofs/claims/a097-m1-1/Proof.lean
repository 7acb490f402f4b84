import JvmDerived
import JvmDerived.Pilot.@@N@@Statement
import JvmDerived.Pilot.@@N@@Code
set_option linter.unusedVariables false
set_option linter.unusedSimpArgs false
namespace Jvm.Wk
open Sem ClassFile Op Lib Jvm.Stand Jvm.Free Jvm.LawKit Jvm.RoadKit
/-! A small logic of walks: the heap above the law's start is a list of records, a walk is a predicate over (records, pc, locals, stack). -/
abbrev Key := String × String × String
abbrev Rec := (String × List Key × List Value) ⊕ (FieldType × List Value)
abbrev obj (C : String) (ks : List Key) (vs : List Value) : Rec := Sum.inl (C, ks, vs)
abbrev arr (t : FieldType) (vs : List Value) : Rec := Sum.inr (t, vs)
abbrev ints (xs : List Int32) : Rec := arr .int (xs.map Value.int)
abbrev longs (xs : List Int64) : Rec := arr .long (xs.map Value.long)
abbrev rf (hB : Heap) (i : Nat) : Value := .ref (hB.size + i)
def kslot (Z : State) (k : Key) : Nat := Jvm.RoadKit.slotOf Z k.1 k.2.1 k.2.2
def OvrT (Z : State) (cA : ClassId) (t : FieldType) : Prop := (∀ C, t = .object C → Ovr Z cA C) ∧ (∀ ty, t = .array ty → OvrA Z cA ty (FieldType.array ty).toString)
def RecAt (Z : State) (h : Heap) (a : Addr) : Rec → Prop
  | .inl (C, ks, vs) => Exa Z h a C ∧ Unt h a ∧ (∀ (i : Nat) (k : Key) (v : Value), ks[i]? = some k → vs[i]? = some v → Fld Z h a k.1 k.2.1 k.2.2 v) ∧ (∀ (i j : Nat) (k k' : Key), ks[i]? = some k → ks[j]? = some k' → i ≠ j → kslot Z k ≠ kslot Z k')
  | .inr (t, vs) => ∃ c : Cell, Arr Z h a c t ∧ c.slots = vs.toArray ∧ c.vm = .none ∧ Exa Z h a ("[" ++ t.toString) ∧ OvrT Z c.cls t ∧ ∀ v ∈ vs, fits t v = true
def Hp (Z : State) (hB h : Heap) (H : List Rec) : Prop := h.size = hB.size + H.length ∧ (∀ (a : Addr) (c : Cell), hB[a]? = some c → h[a]? = some c) ∧ ∀ (i : Nat) (r : Rec), H[i]? = some r → RecAt Z h (hB.size + i) r
section Heaps
variable {Z : State} {hB h h' : Heap} {H : List Rec} {a b : Addr} {r : Rec} {sl : Nat} {v : Value}
theorem RecAt.ext (E : Ext h h') : ∀ {r : Rec}, RecAt Z h a r → RecAt Z h' a r
  | .inl _, F => ⟨F.1.ext E, F.2.1.ext E, fun i k v h1 h2 => (F.2.2.1 i k v h1 h2).ext E, F.2.2.2⟩
  | .inr _, F => by
    obtain ⟨c, h1, h2, h3, h5, h6⟩ := F
    exact ⟨c, h1.ext E, h2, h3, h5.ext E, h6⟩
theorem RecAt.other (W : Wr h h' b sl v) (hne : a ≠ b) : ∀ {r : Rec}, RecAt Z h a r → RecAt Z h' a r
  | .inl _, F => ⟨F.1.wr W, F.2.1.wr W, fun i k v h1 h2 => (F.2.2.1 i k v h1 h2).other W (Or.inl hne), F.2.2.2⟩
  | .inr _, F => by
    obtain ⟨c, h1, h2, h3, h5, h6⟩ := F
    exact ⟨c, h1.other W hne, h2, h3, h5.wr W, h6⟩
theorem RecAt.lt : ∀ {r : Rec}, RecAt Z h a r → a < h.size
  | .inl _, F => F.1.lt
  | .inr _, F => by obtain ⟨c, h1, -⟩ := F; exact h1.lt
theorem Hp.toExt (P : Hp Z hB h H) : Ext hB h := ⟨by rw [P.1]; exact Nat.le_add_right _ _, P.2.1⟩
theorem Hp.start (Z : State) (hB : Heap) : Hp Z hB hB [] := ⟨rfl, fun _ _ q => q, fun i r q => by cases q⟩
theorem Hp.at (P : Hp Z hB h H) {i : Nat} (q : H[i]? = some r) : RecAt Z h (hB.size + i) r := P.2.2 i r q
theorem Hp.setR (P : Hp Z hB h H) {i : Nat} {r r' : Rec} (q : H[i]? = some r) (W : Wr h h' (hB.size + i) sl v) (F : RecAt Z h' (hB.size + i) r') : Hp Z hB h' (H.set i r') := by
  refine ⟨by rw [W.size, P.1, List.length_set], fun a c ha => ?_, fun j r2 hj => ?_⟩
  · obtain ⟨c', e1, -, -, -, e5, -⟩ := wr_at W (P.2.1 a c ha)
    have : a < hB.size := (Array.getElem?_eq_some_iff.mp ha).1
    rw [e1, e5 fun q => absurd this (by rw [q]; exact Nat.not_lt.mpr (Nat.le_add_right _ _))]
  · rw [List.getElem?_set] at hj
    split at hj
    · rename_i e
      subst e
      split at hj
      · cases hj; exact F
      · cases hj
    · rename_i e
      exact (P.2.2 j r2 hj).other W fun q => e (Nat.add_left_cancel q).symm
theorem Hp.wrO (P : Hp Z hB h H) {i j : Nat} {C : String} {ks : List Key} {vs : List Value} {k : Key} (q : H[i]? = some (obj C ks vs)) (hk : ks[j]? = some k) (hj : j < vs.length) (W : Wr h h' (hB.size + i) (kslot Z k) v) : Hp Z hB h' (H.set i (obj C ks (vs.set j v))) := by
  obtain ⟨f1, f2, f3, f4⟩ := P.at q
  refine P.setR q W ⟨f1.wr W, f2.wr W, fun i' k' v' h1 h2 => ?_, f4⟩
  by_cases e : j = i'
  · subst e
    rw [List.getElem?_set_self hj] at h2
    cases h2
    cases hk.symm.trans h1
    exact (f3 j k vs[j] hk (List.getElem?_eq_getElem hj)).same W
  · rw [List.getElem?_set_ne e] at h2
    exact (f3 i' k' v' h1 h2).other W (Or.inr (f4 i' j k' k h1 hk (Ne.symm e)))
theorem Hp.wrA (P : Hp Z hB h H) {i j : Nat} {t : FieldType} {vs : List Value} (q : H[i]? = some (arr t vs)) (hf : fits t v = true) (W : Wr h h' (hB.size + i) j v) : Hp Z hB h' (H.set i (arr t (vs.set j v))) := by
  obtain ⟨c, h1, h2, h3, h5, h6, h7⟩ := P.at q
  refine P.setR q W ⟨c.setSlot j v, h1.same W, ?_, h3, h5.wr W, h6, fun w hw => ?_⟩
  · show c.slots.setIfInBounds j v = _
    rw [h2]; simp
  · rcases List.mem_or_eq_of_mem_set hw with z | z
    · exact h7 w z
    · rw [z]; exact hf
theorem Hp.push (P : Hp Z hB h H) (E : Ext h h') (hs : h'.size ≤ h.size + 1) (F : RecAt Z h' h.size r) : Hp Z hB h' (H ++ [r]) := by
  have hlt : Array.size h < Array.size h' := F.lt
  refine ⟨by rw [List.length_append, List.length_singleton]; have := P.1; omega, fun a c ha => E.2 _ _ (P.2.1 a c ha), fun i r2 hi => ?_⟩
  rw [List.getElem?_append] at hi
  split at hi
  · exact (P.2.2 i r2 hi).ext E
  · rename_i e
    have hl := P.1
    obtain ⟨h1, h2⟩ := List.getElem?_eq_some_iff.mp hi
    simp only [List.length_singleton] at h1
    have e2 : i = H.length := by omega
    subst e2
    simp only [Nat.sub_self, List.getElem_cons_zero] at h2
    subst h2
    rw [← hl]; exact F
theorem Hp.fld (P : Hp Z hB h H) {i j : Nat} {C O n d : String} {ks : List Key} {vs : List Value} (q : H[i]? = some (obj C ks vs)) (hk : ks[j]? = some (O, n, d)) (hv : vs[j]? = some v) : Fld Z h (hB.size + i) O n d v := (P.at q).2.2.1 j _ v hk hv
theorem Hp.exa (P : Hp Z hB h H) {i : Nat} {C : String} {ks : List Key} {vs : List Value} (q : H[i]? = some (obj C ks vs)) : Exa Z h (hB.size + i) C := (P.at q).1
theorem Hp.exaA (P : Hp Z hB h H) {i : Nat} {t : FieldType} {vs : List Value} {C : String} (q : H[i]? = some (arr t vs)) (hC : "[" ++ t.toString = C) : Exa Z h (hB.size + i) C := by
  obtain ⟨c, -, -, -, h5, -⟩ := P.at q
  exact hC ▸ h5
theorem RecAt.congr (e : h'[a]? = h[a]?) : ∀ {r : Rec}, RecAt Z h a r → RecAt Z h' a r
  | .inl _, F => by
    obtain ⟨⟨c1, k1, f1, f2⟩, ⟨c2, g1, g2⟩, F3, F4⟩ := F
    refine ⟨⟨c1, k1, e.trans f1, f2⟩, ⟨c2, e.trans g1, g2⟩, fun i k v h1 h2 => ?_, F4⟩
    obtain ⟨c, cf, kk, i', f, q, r⟩ := F3 i k v h1 h2
    exact ⟨c, cf, kk, i', f, e.trans q, r⟩
  | .inr _, F => by
    obtain ⟨c, ⟨h1, h1'⟩, h2, h3, ⟨c5, k5, h5, h5'⟩, h6⟩ := F
    exact ⟨c, ⟨e.trans h1, h1'⟩, h2, h3, ⟨c5, k5, e.trans h5, h5'⟩, h6⟩
theorem toNat_len {n : Nat} (h : n < 2 ^ 31) : n.toInt32.toNatClampNeg = n ∧ ¬ n.toInt32 < 0 := by
  refine ⟨by simp only [Int32.toNatClampNeg, len_toInt h]; omega, ?_⟩
  rw [Int32.lt_iff_toInt_lt, len_toInt h]; have : (0 : Int32).toInt = 0 := rfl; omega
theorem Hp.arv (P : Hp Z hB h H) {i : Nat} {t : FieldType} {vs : List Value} (q : H[i]? = some (arr t vs)) (hl : vs.length < 2 ^ 31) (d : Value) : ∃ k, Arv Z h (hB.size + i) k t vs.length.toInt32 vs d := by
  obtain ⟨c, h1, h2, h3, h5, h6, h7⟩ := P.at q
  have hs : c.slots.size = vs.length := by rw [h2, List.size_toArray]
  refine ⟨c.cls, c, h1, rfl, by rw [hs, (toNat_len hl).1], (toNat_len hl).2, fun k hk => ?_, fun k hk => ?_⟩
  · rw [hs] at hk
    rw [h2, List.getElem?_toArray, List.getElem?_eq_getElem hk, List.getD_eq_getElem?_getD, List.getElem?_eq_getElem hk]; rfl
  · rw [hs] at hk
    rw [List.getD_eq_getElem?_getD, List.getElem?_eq_getElem hk]; exact h7 _ (List.getElem_mem hk)
theorem Hp.copied (P : Hp Z hB h H) {i : Nat} {t : FieldType} {vs vs' : List Value} {k : ClassId} {d : Value} (q : H[i]? = some (arr t vs)) (hz : h'.size ≤ h.size) (K : Keep h h' [hB.size + i]) (hl : vs.length < 2 ^ 31) (hlen : vs'.length = vs.length) (A : Arv Z h' (hB.size + i) k t vs.length.toInt32 vs' d) : Hp Z hB h' (H.set i (arr t vs')) := by
  refine ⟨by rw [List.length_set, ← P.1]; exact Nat.le_antisymm hz K.1, fun a c ha => ?_, fun j r2 hj => ?_⟩
  · have : a < hB.size := (Array.getElem?_eq_some_iff.mp ha).1
    exact K.2.1 a c (P.2.1 a c ha) (by simp only [List.mem_singleton]; intro e; rw [e] at this; exact absurd this (Nat.not_lt.mpr (Nat.le_add_right _ _)))
  · by_cases e : i = j
    · subst e
      have hi := (List.getElem?_eq_some_iff.mp q).1
      rw [List.getElem?_set_self hi] at hj
      cases hj
      obtain ⟨c, h1, h2, h3, h5, h6, h7⟩ := P.at q
      obtain ⟨c', a1, a2, a3, a4, a5, a6⟩ := A
      obtain ⟨c2, b1, b2, b3, b4⟩ := K.2.2 _ c h1.1
      cases a1.1.symm.trans b1
      have hs : c'.slots.size = vs'.length := by rw [a3, (toNat_len hl).1, hlen]
      refine ⟨c', a1, ?_, b3.trans h3, h5.keep K, b2 ▸ h6, fun v hv => ?_⟩
      · apply Array.ext_getElem?
        intro n
        by_cases hn : n < c'.slots.size
        · rw [a5 n hn, List.getElem?_toArray, List.getD_eq_getElem?_getD, List.getElem?_eq_getElem (hs ▸ hn)]; rfl
        · rw [Array.getElem?_eq_none (Nat.le_of_not_lt hn), List.getElem?_toArray, List.getElem?_eq_none (by omega)]
      · obtain ⟨n, hn, rfl⟩ := List.getElem_of_mem hv
        have := a6 n (by omega)
        rw [List.getD_eq_getElem?_getD, List.getElem?_eq_getElem hn] at this; exact this
    · rw [List.getElem?_set_ne e] at hj
      have R := P.2.2 j r2 hj
      refine R.congr ?_
      obtain ⟨cj, hcj⟩ : ∃ c, h[hB.size + j]? = some c := ⟨_, Array.getElem?_eq_getElem R.lt⟩
      rw [hcj]; exact K.2.1 _ _ hcj (by simp only [List.mem_singleton]; intro q; exact e (Nat.add_left_cancel q).symm)
end Heaps
/-- what an array's place holds; an array with one place set -/
def gI (l : List Int32) (i : Int32) : Option Int32 := if i < 0 then none else l[i.toNatClampNeg]?
def sI (l : List Int32) (i x : Int32) : Option (List Int32) := if i < 0 then none else if i.toNatClampNeg < l.length then some (l.set i.toNatClampNeg x) else none
theorem gI_at {l : List Int32} {i x : Int32} (h : gI l i = some x) : ¬ i < 0 ∧ l[i.toNatClampNeg]? = some x := by
  unfold gI at h; split at h
  · cases h
  · rename_i q; exact ⟨q, h⟩
theorem sI_at {l l' : List Int32} {i x : Int32} (h : sI l i x = some l') : ¬ i < 0 ∧ i.toNatClampNeg < l.length ∧ l' = l.set i.toNatClampNeg x := by
  unfold sI at h; split at h
  · cases h
  · rename_i q; split at h
    · rename_i r; cases h; exact ⟨q, r, rfl⟩
    · cases h
def sJ (l : List Int64) (i : Int32) (x : Int64) : Option (List Int64) := if i < 0 then none else if i.toNatClampNeg < l.length then some (l.set i.toNatClampNeg x) else none
theorem sJ_at {l l' : List Int64} {i : Int32} {x : Int64} (h : sJ l i x = some l') : ¬ i < 0 ∧ i.toNatClampNeg < l.length ∧ l' = l.set i.toNatClampNeg x := by
  unfold sJ at h; split at h
  · cases h
  · rename_i q; split at h
    · rename_i r; cases h; exact ⟨q, r, rfl⟩
    · cases h
/-- one of several rows -/
def gR (l : List (List Int32)) (i : Int32) : Option (List Int32) := if i < 0 then none else l[i.toNatClampNeg]?
theorem gR_at {l : List (List Int32)} {i : Int32} {x : List Int32} (h : gR l i = some x) : ¬ i < 0 ∧ l[i.toNatClampNeg]? = some x := by
  unfold gR at h; split at h
  · cases h
  · rename_i q; exact ⟨q, h⟩
/-! lists of records in parts: F, G, then M -/
theorem getT {F G M : List Rec} {k : Nat} {r : Rec} (h : M[k]? = some r) : (F ++ (G ++ M))[F.length + G.length + k]? = some r := by
  rw [List.getElem?_append_right (by omega), List.getElem?_append_right (by omega)]
  rw [show F.length + G.length + k - F.length - G.length = k from by omega]; exact h
theorem setT {F G M : List Rec} {k : Nat} {r : Rec} : (F ++ (G ++ M)).set (F.length + G.length + k) r = F ++ (G ++ M.set k r) := by
  rw [List.set_append_right _ _ (by omega), List.set_append_right _ _ (by omega)]
  rw [show F.length + G.length + k - F.length - G.length = k from by omega]
theorem pushT {F G M : List Rec} {r : Rec} : F ++ (G ++ M) ++ [r] = F ++ (G ++ (M ++ [r])) := by simp [List.append_assoc]
theorem lenT {F G M : List Rec} : (F ++ (G ++ M)).length = F.length + G.length + M.length := by simp [Nat.add_assoc]
theorem getE {M K : List Rec} {e : Rec} {n : Nat} (h : M.length = n) : (M ++ (K ++ [e]))[K.length + n]? = some e := by
  subst h; rw [List.getElem?_append_right (by omega), show K.length + M.length - M.length = K.length from by omega]; simp
theorem setTE {F G M K : List Rec} {e r : Rec} {n : Nat} (h : M.length = n) : (F ++ (G ++ (M ++ (K ++ [e])))).set (F.length + G.length + (K.length + n)) r = F ++ (G ++ (M ++ (K ++ [r]))) := by
  subst h
  rw [setT, List.set_append_right _ _ (by omega), show K.length + M.length - M.length = K.length from by omega]; simp
theorem pushTK {F G M K : List Rec} {r : Rec} : F ++ (G ++ (M ++ K)) ++ [r] = F ++ (G ++ (M ++ (K ++ [r]))) := by simp [List.append_assoc]
theorem setSelf {H : List Rec} {i : Nat} {r : Rec} (h : H[i]? = some r) : H.set i r = H := by
  obtain ⟨h1, h2⟩ := List.getElem?_eq_some_iff.mp h
  rw [← h2]; exact List.set_getElem_self h1
section Walk
/-- the walk comes to its return -/
def Done (Z : State) (hB : Heap) (R : Room) (Q : Option Value → List Rec → Prop) (p : Program) (e : Env) (s : State) (below : List Frame) (S0 : State) : Prop :=
  ∃ U o, Steps p.tables e below S0 U ∧ U.status = .running ∧ Ended U below o ∧ ∃ v L H', o = .returned v ∧ Q v H' ∧ Hp Z hB U.heap H' ∧ Fr hB.size L ∧ FrameEnd s o U L R.cells R.slots
def Cx (Z : State) (hB : Heap) (y : MethodName) (bytes : ByteArray) (ml : Nat) (ret : Option FieldType) (n1 : Nat) (p : Program) (s : State) (m : MethodId) (meth : Method) (c : Code) : Prop :=
  p.tables.exec = Jvm.exec ∧ Z.Warmed39 s.vm ∧ c.code = bytes ∧ c.maxLocals = ml ∧ s.vm.findClass y.cls = some m.cls ∧ meth.name = y.name ∧ meth.sig.returnType = ret ∧ meth.locks = false ∧ s.heap.size = hB.size + n1
def WP (l : Launch) (Z : State) (hB : Heap) (y : MethodName) (bytes : ByteArray) (ml : Nat) (ret : Option FieldType) (R : Room) (n1 : Nat) (Q : Option Value → List Rec → Prop) (sl : Nat) (H : List Rec) (pc : Nat) (Ls : Array Slot) (st : List Value) : Prop :=
  ∀ p e s m args below meth c, Cx Z hB y bytes ml ret n1 p s m meth c → ∀ T locs cells slots, Stand p l e R s m args below meth c T locs cells slots → Fr hB.size locs → Hp Z hB T.heap H → slots ≤ sl →
    Done Z hB R Q p e s below (T.setTop (mkF m pc Ls st))
/-- a method's contract at given arguments and records -/
def Ctr (l : Launch) (Z : State) (hB : Heap) (y : MethodName) (bytes : ByteArray) (ml : Nat) (ret : Option FieldType) (ws : List Jvm.Cond) (rm : Room) (as' : Array Value) (H : List Rec) (Q : Option Value → List Rec → Prop) : Prop :=
  MetFree l y (head1 (Jvm.Cond.code y bytes ml ret :: ws) rm) (fun a U => a = as' ∧ Z.Warmed39 U.vm ∧ Hp Z hB U.heap H) (fun _ _ _ _ _ => True)
    (fun _ U o U' => ∃ v L H', o = .returned v ∧ Q v H' ∧ Hp Z hB U'.heap H' ∧ Fr hB.size L ∧ FrameEnd U o U' L rm.cells rm.slots)
variable {l : Launch} {Z : State} {hB : Heap} {y : MethodName} {bytes : ByteArray} {ml : Nat} {ret : Option FieldType} {R : Room} {n1 : Nat} {Q : Option Value → List Rec → Prop} {sl : Nat} {H H' : List Rec} {pc pc' : Nat} {Ls Ls' : Array Slot} {st st' rest : List Value} {a0 : Array Value}
theorem exact' {p : Program} {l : Launch} {e : Env} {R : Room} {s : State} {m : MethodId} {args : Array Value} {below : List Frame} {meth : Method} {c : Code} {T : State} {locs : List Loc} {cells slots : Nat} (X : Stand p l e R s m args below meth c T locs cells slots) {k : Nat} (hk : T.heap.size ≤ s.heap.size + k) : Stand p l e R s m args below meth c T locs k slots :=
  { X with same := ⟨X.same.1, X.same.2.1, hk, X.same.2.2.2⟩ }
theorem ctr {ws : List Jvm.Cond} {as' : Array Value} (hpn : plainFor y = true) (ef : ∀ m, entryFrame m as' ml = mkF m 0 Ls []) (h : WP l Z hB y bytes ml ret R H.length Q 0 H 0 Ls []) : Ctr l Z hB y bytes ml ret ws R as' H Q := by
  refine MetFree.of_bodySF hpn hisR ?_
  intro p e s m args below meth c s₁ Bd hml0 hP hK
  obtain ⟨rfl, hZ, hh⟩ := hP
  have X0 := Stand.of_body Bd
  have e0 : s₁.heap = s.heap := by rw [Bd.state]; rfl
  obtain ⟨U, o, st, h1, h2, v, L, H', ho, hq, hp, hf, hfe⟩ := h p e s m _ below meth c ⟨Bd.exec, hZ, Bd.bytes, hml0, findClass_of_methodNamed Bd.named, (name_of_methodNamed Bd.named Bd.method).1, Bd.returns, Bd.notSynchronized, hh.1⟩ s₁ [] 0 0 X0 (Fr.nil _) (by rw [e0]; exact hh) (Nat.zero_le _)
  exact ⟨U, o, castTop (ef m) st, h1, h2, v, L, H', ho, hq, hp, hf, hfe⟩
/-- a step that leaves the state as it is, but for the frame -/
theorem WP.step (k : ∀ (p : Program) (e : Env) (s : State) (m : MethodId) (args : Array Value) (below : List Frame) (meth : Method) (c : Code) (T : State) (locs : List Loc) (cells slots : Nat), Cx Z hB y bytes ml ret n1 p s m meth c → Stand p l e R s m args below meth c T locs cells slots → Hp Z hB T.heap H → ∀ target, Steps p.tables e below (T.setTop (mkF m pc' Ls' st')) target → Steps p.tables e below (T.setTop (mkF m pc Ls st)) target)
    (hr : WP l Z hB y bytes ml ret R n1 Q sl H pc' Ls' st') : WP l Z hB y bytes ml ret R n1 Q sl H pc Ls st := by
  intro p e s m args below meth c C T locs cells slots X N P hs
  obtain ⟨U, o, h1, h2⟩ := hr p e s m args below meth c C T locs cells slots X N P hs
  exact ⟨U, o, k p e s m args below meth c T locs cells slots C X P U h1, h2⟩
/-- a step that warms the tables -/
theorem WP.stepT (k : ∀ (p : Program) (e : Env) (s : State) (m : MethodId) (args : Array Value) (below : List Frame) (meth : Method) (c : Code) (T : State) (locs : List Loc) (cells slots : Nat), Cx Z hB y bytes ml ret n1 p s m meth c → Stand p l e R s m args below meth c T locs cells slots → Hp Z hB T.heap H → ∃ T', Stand p l e R s m args below meth c T' locs cells slots ∧ T'.heap = T.heap ∧ ∀ target, Steps p.tables e below (T'.setTop (mkF m pc' Ls' st')) target → Steps p.tables e below (T.setTop (mkF m pc Ls st)) target)
    (hr : WP l Z hB y bytes ml ret R n1 Q sl H pc' Ls' st') : WP l Z hB y bytes ml ret R n1 Q sl H pc Ls st := by
  intro p e s m args below meth c C T locs cells slots X N P hs
  obtain ⟨T', X', e', k'⟩ := k p e s m args below meth c T locs cells slots C X P
  obtain ⟨U, o, h1, h2⟩ := hr p e s m args below meth c C T' locs cells slots X' N (by rw [e']; exact P) hs
  exact ⟨U, o, k' U h1, h2⟩
/-- a step that moves the heap -/
theorem WP.stepH {sl' : Nat} (k : ∀ (p : Program) (e : Env) (s : State) (m : MethodId) (args : Array Value) (below : List Frame) (meth : Method) (c : Code) (T : State) (locs : List Loc) (cells slots : Nat), Cx Z hB y bytes ml ret n1 p s m meth c → Stand p l e R s m args below meth c T locs cells slots → T.heap.size = s.heap.size + cells → Fr hB.size locs → Hp Z hB T.heap H → slots ≤ sl →
      ∃ T' locs' cells' slots', Stand p l e R s m args below meth c T' locs' cells' slots' ∧ Fr hB.size locs' ∧ Hp Z hB T'.heap H' ∧ slots' ≤ sl' ∧ ∀ target, Steps p.tables e below (T'.setTop (mkF m pc' Ls' st')) target → Steps p.tables e below (T.setTop (mkF m pc Ls st)) target)
    (hr : WP l Z hB y bytes ml ret R n1 Q sl' H' pc' Ls' st') : WP l Z hB y bytes ml ret R n1 Q sl H pc Ls st := by
  intro p e s m args below meth c C T locs cells slots X N P hs
  have hz : T.heap.size = s.heap.size + (T.heap.size - s.heap.size) := by have := X.same.2.1; have : s.heap.size ≤ T.heap.size := this; omega
  obtain ⟨T', locs', cells', slots', X', N', P', hs', k'⟩ := k p e s m args below meth c T locs _ slots C (exact' X (Nat.le_of_eq hz)) hz N P hs
  obtain ⟨U, o, h1, h2⟩ := hr p e s m args below meth c C T' locs' cells' slots' X' N' P' hs'
  exact ⟨U, o, k' U h1, h2⟩
theorem WP.heap (e : H = H') (h : WP l Z hB y bytes ml ret R n1 Q sl H' pc Ls st) : WP l Z hB y bytes ml ret R n1 Q sl H pc Ls st := e ▸ h
theorem WP.monoQ {Q' : Option Value → List Rec → Prop} (hq : ∀ v H, Q v H → Q' v H) (h : WP l Z hB y bytes ml ret R n1 Q sl H pc Ls st) : WP l Z hB y bytes ml ret R n1 Q' sl H pc Ls st := by
  intro p e s m args below meth c C T locs cells slots X N P hs
  obtain ⟨U, o, h1, h2, h3, v, L, H', h4, h5, h6⟩ := h p e s m args below meth c C T locs cells slots X N P hs
  exact ⟨U, o, h1, h2, h3, v, L, H', h4, hq _ _ h5, h6⟩
theorem WP.mono {sl' : Nat} (hs : sl ≤ sl') (h : WP l Z hB y bytes ml ret R n1 Q sl' H pc Ls st) : WP l Z hB y bytes ml ret R n1 Q sl H pc Ls st := by
  intro p e s m args below meth c C T locs cells slots X N P hs'
  exact h p e s m args below meth c C T locs cells slots X N P (Nat.le_trans hs' hs)
theorem aloadN {k : Fin 4} {v : Value} (hd : decode bytes pc = .ok (.aload_n k, 1)) (hl : Ls[k.val]? = some (.val v)) (hv : v.isRef = true) (hp : pc + 1 = pc') (hr : WP l Z hB y bytes ml ret R n1 Q sl H pc' Ls (v :: st)) : WP l Z hB y bytes ml ret R n1 Q sl H pc Ls (st) := by
  subst hp
  exact WP.step (fun p e s m args below meth c T locs cells slots C X _ tgt h => XS.aloadN X.here C.1 rfl (hb C.2.2.1 hd) hl hv h) hr
theorem aload {k : Nat} {v : Value} (hd : decode bytes pc = .ok (.aload k, 2)) (hl : Ls[k]? = some (.val v)) (hv : v.isRef = true) (hp : pc + 2 = pc') (hr : WP l Z hB y bytes ml ret R n1 Q sl H pc' Ls (v :: st)) : WP l Z hB y bytes ml ret R n1 Q sl H pc Ls (st) := by
  subst hp
  exact WP.step (fun p e s m args below meth c T locs cells slots C X _ tgt h => XS.aload X.here C.1 rfl (hb C.2.2.1 hd) hl hv h) hr
theorem iloadN {k : Fin 4} {x : Int32} (hd : decode bytes pc = .ok (.iload_n k, 1)) (hl : Ls[k.val]? = some (.val (.int x))) (hp : pc + 1 = pc') (hr : WP l Z hB y bytes ml ret R n1 Q sl H pc' Ls (.int x :: st)) : WP l Z hB y bytes ml ret R n1 Q sl H pc Ls (st) := by
  subst hp
  exact WP.step (fun p e s m args below meth c T locs cells slots C X _ tgt h => XS.iloadN X.here C.1 rfl (hb C.2.2.1 hd) hl h) hr
theorem iload {k : Nat} {x : Int32} (hd : decode bytes pc = .ok (.iload k, 2)) (hl : Ls[k]? = some (.val (.int x))) (hp : pc + 2 = pc') (hr : WP l Z hB y bytes ml ret R n1 Q sl H pc' Ls (.int x :: st)) : WP l Z hB y bytes ml ret R n1 Q sl H pc Ls (st) := by
  subst hp
  exact WP.step (fun p e s m args below meth c T locs cells slots C X _ tgt h => XS.iload X.here C.1 rfl (hb C.2.2.1 hd) hl h) hr
theorem lloadN {k : Fin 4} {x : Int64} (hd : decode bytes pc = .ok (.lload_n k, 1)) (hl : Ls[k.val]? = some (.val (.long x))) (hp : pc + 1 = pc') (hr : WP l Z hB y bytes ml ret R n1 Q sl H pc' Ls (.long x :: st)) : WP l Z hB y bytes ml ret R n1 Q sl H pc Ls (st) := by
  subst hp
  exact WP.step (fun p e s m args below meth c T locs cells slots C X _ tgt h => XT.lloadN X.here C.1 rfl (hb C.2.2.1 hd) hl h) hr
theorem lload {k : Nat} {x : Int64} (hd : decode bytes pc = .ok (.lload k, 2)) (hl : Ls[k]? = some (.val (.long x))) (hp : pc + 2 = pc') (hr : WP l Z hB y bytes ml ret R n1 Q sl H pc' Ls (.long x :: st)) : WP l Z hB y bytes ml ret R n1 Q sl H pc Ls (st) := by
  subst hp
  exact WP.step (fun p e s m args below meth c T locs cells slots C X _ tgt h => XT.lload X.here C.1 rfl (hb C.2.2.1 hd) hl h) hr
theorem iconst {i : Int} (x : Int32) (hd : decode bytes pc = .ok (.iconst i, 1)) (hv : Int32.ofInt i = x) (hp : pc + 1 = pc') (hr : WP l Z hB y bytes ml ret R n1 Q sl H pc' Ls (.int x :: st)) : WP l Z hB y bytes ml ret R n1 Q sl H pc Ls (st) := by
  subst hp
  exact WP.step (fun p e s m args below meth c T locs cells slots C X _ tgt h => XS.iconst X.here C.1 rfl (hb C.2.2.1 hd) (hv ▸ h)) hr
theorem bipush {i : Int} (x : Int32) (hd : decode bytes pc = .ok (.bipush i, 2)) (hv : (Int8.ofInt i).toInt32 = x) (hp : pc + 2 = pc') (hr : WP l Z hB y bytes ml ret R n1 Q sl H pc' Ls (.int x :: st)) : WP l Z hB y bytes ml ret R n1 Q sl H pc Ls (st) := by
  subst hp
  exact WP.step (fun p e s m args below meth c T locs cells slots C X _ tgt h => XS.bipush X.here C.1 rfl (hb C.2.2.1 hd) (hv ▸ h)) hr
theorem sipush {i : Int} (x : Int32) (hd : decode bytes pc = .ok (.sipush i, 3)) (hv : (Int16.ofInt i).toInt32 = x) (hp : pc + 3 = pc') (hr : WP l Z hB y bytes ml ret R n1 Q sl H pc' Ls (.int x :: st)) : WP l Z hB y bytes ml ret R n1 Q sl H pc Ls (st) := by
  subst hp
  exact WP.step (fun p e s m args below meth c T locs cells slots C X _ tgt h => XT.sipushV X.here C.1 rfl x (hb C.2.2.1 hd) hv h) hr
theorem lconst {k : Fin 2} (x : Int64) (hd : decode bytes pc = .ok (.lconst k, 1)) (hv : Int64.ofNat k = x) (hp : pc + 1 = pc') (hr : WP l Z hB y bytes ml ret R n1 Q sl H pc' Ls (.long x :: st)) : WP l Z hB y bytes ml ret R n1 Q sl H pc Ls (st) := by
  subst hp
  exact WP.step (fun p e s m args below meth c T locs cells slots C X _ tgt h => XT.lconst X.here C.1 rfl (hb C.2.2.1 hd) (hv ▸ h)) hr
theorem aconstNull  (hd : decode bytes pc = .ok (.aconst_null, 1)) (hp : pc + 1 = pc') (hr : WP l Z hB y bytes ml ret R n1 Q sl H pc' Ls (.null :: st)) : WP l Z hB y bytes ml ret R n1 Q sl H pc Ls (st) := by
  subst hp
  exact WP.step (fun p e s m args below meth c T locs cells slots C X _ tgt h => XS.aconstNull X.here C.1 rfl (hb C.2.2.1 hd) h) hr
theorem iadd {x z : Int32} (hd : decode bytes pc = .ok (.iadd, 1)) (hp : pc + 1 = pc') (hr : WP l Z hB y bytes ml ret R n1 Q sl H pc' Ls (.int (x + z) :: st)) : WP l Z hB y bytes ml ret R n1 Q sl H pc Ls (.int z :: .int x :: st) := by
  subst hp
  exact WP.step (fun p e s m args below meth c T locs cells slots C X _ tgt h => XS.iadd X.here C.1 rfl (hb C.2.2.1 hd) rfl h) hr
theorem isub {x z : Int32} (hd : decode bytes pc = .ok (.isub, 1)) (hp : pc + 1 = pc') (hr : WP l Z hB y bytes ml ret R n1 Q sl H pc' Ls (.int (x - z) :: st)) : WP l Z hB y bytes ml ret R n1 Q sl H pc Ls (.int z :: .int x :: st) := by
  subst hp
  exact WP.step (fun p e s m args below meth c T locs cells slots C X _ tgt h => XS.isub X.here C.1 rfl (hb C.2.2.1 hd) rfl h) hr
theorem iand {x z : Int32} (hd : decode bytes pc = .ok (.iand, 1)) (hp : pc + 1 = pc') (hr : WP l Z hB y bytes ml ret R n1 Q sl H pc' Ls (.int (x &&& z) :: st)) : WP l Z hB y bytes ml ret R n1 Q sl H pc Ls (.int z :: .int x :: st) := by
  subst hp
  exact WP.step (fun p e s m args below meth c T locs cells slots C X _ tgt h => XS.iand X.here C.1 rfl (hb C.2.2.1 hd) rfl h) hr
theorem imul {x z : Int32} (hd : decode bytes pc = .ok (.imul, 1)) (hp : pc + 1 = pc') (hr : WP l Z hB y bytes ml ret R n1 Q sl H pc' Ls (.int (x * z) :: st)) : WP l Z hB y bytes ml ret R n1 Q sl H pc Ls (.int z :: .int x :: st) := by
  subst hp
  exact WP.step (fun p e s m args below meth c T locs cells slots C X _ tgt h => XS.imul X.here C.1 rfl (hb C.2.2.1 hd) rfl h) hr
theorem ixor {x z : Int32} (hd : decode bytes pc = .ok (.ixor, 1)) (hp : pc + 1 = pc') (hr : WP l Z hB y bytes ml ret R n1 Q sl H pc' Ls (.int (x ^^^ z) :: st)) : WP l Z hB y bytes ml ret R n1 Q sl H pc Ls (.int z :: .int x :: st) := by
  subst hp
  exact WP.step (fun p e s m args below meth c T locs cells slots C X _ tgt h => XT.ixor X.here C.1 rfl (hb C.2.2.1 hd) rfl h) hr
theorem ior {x z : Int32} (hd : decode bytes pc = .ok (.ior, 1)) (hp : pc + 1 = pc') (hr : WP l Z hB y bytes ml ret R n1 Q sl H pc' Ls (.int (x ||| z) :: st)) : WP l Z hB y bytes ml ret R n1 Q sl H pc Ls (.int z :: .int x :: st) := by
  subst hp
  exact WP.step (fun p e s m args below meth c T locs cells slots C X _ tgt h => XT.ior X.here C.1 rfl (hb C.2.2.1 hd) rfl h) hr
theorem ishl {x z : Int32} (hd : decode bytes pc = .ok (.ishl, 1)) (hp : pc + 1 = pc') (hr : WP l Z hB y bytes ml ret R n1 Q sl H pc' Ls (.int (x <<< (z &&& 31)) :: st)) : WP l Z hB y bytes ml ret R n1 Q sl H pc Ls (.int z :: .int x :: st) := by
  subst hp
  exact WP.step (fun p e s m args below meth c T locs cells slots C X _ tgt h => XT.ishl X.here C.1 rfl (hb C.2.2.1 hd) rfl h) hr
theorem ishr {x z : Int32} (hd : decode bytes pc = .ok (.ishr, 1)) (hp : pc + 1 = pc') (hr : WP l Z hB y bytes ml ret R n1 Q sl H pc' Ls (.int (x >>> (z &&& 31)) :: st)) : WP l Z hB y bytes ml ret R n1 Q sl H pc Ls (.int z :: .int x :: st) := by
  subst hp
  exact WP.step (fun p e s m args below meth c T locs cells slots C X _ tgt h => XT.ishr X.here C.1 rfl (hb C.2.2.1 hd) rfl h) hr
theorem iushr {x z : Int32} (hd : decode bytes pc = .ok (.iushr, 1)) (hp : pc + 1 = pc') (hr : WP l Z hB y bytes ml ret R n1 Q sl H pc' Ls (.int (XT.ushr x z) :: st)) : WP l Z hB y bytes ml ret R n1 Q sl H pc Ls (.int z :: .int x :: st) := by
  subst hp
  exact WP.step (fun p e s m args below meth c T locs cells slots C X _ tgt h => XT.iushr X.here C.1 rfl (hb C.2.2.1 hd) rfl h) hr
theorem ladd {x z : Int64} (hd : decode bytes pc = .ok (.ladd, 1)) (hp : pc + 1 = pc') (hr : WP l Z hB y bytes ml ret R n1 Q sl H pc' Ls (.long (x + z) :: st)) : WP l Z hB y bytes ml ret R n1 Q sl H pc Ls (.long z :: .long x :: st) := by
  subst hp
  exact WP.step (fun p e s m args below meth c T locs cells slots C X _ tgt h => XT.ladd X.here C.1 rfl (hb C.2.2.1 hd) rfl h) hr
theorem lsub {x z : Int64} (hd : decode bytes pc = .ok (.lsub, 1)) (hp : pc + 1 = pc') (hr : WP l Z hB y bytes ml ret R n1 Q sl H pc' Ls (.long (x - z) :: st)) : WP l Z hB y bytes ml ret R n1 Q sl H pc Ls (.long z :: .long x :: st) := by
  subst hp
  exact WP.step (fun p e s m args below meth c T locs cells slots C X _ tgt h => XT.lsub X.here C.1 rfl (hb C.2.2.1 hd) rfl h) hr
theorem land {x z : Int64} (hd : decode bytes pc = .ok (.land, 1)) (hp : pc + 1 = pc') (hr : WP l Z hB y bytes ml ret R n1 Q sl H pc' Ls (.long (x &&& z) :: st)) : WP l Z hB y bytes ml ret R n1 Q sl H pc Ls (.long z :: .long x :: st) := by
  subst hp
  exact WP.step (fun p e s m args below meth c T locs cells slots C X _ tgt h => XT.land X.here C.1 rfl (hb C.2.2.1 hd) rfl h) hr
theorem lmul {x z : Int64} (hd : decode bytes pc = .ok (.lmul, 1)) (hp : pc + 1 = pc') (hr : WP l Z hB y bytes ml ret R n1 Q sl H pc' Ls (.long (x * z) :: st)) : WP l Z hB y bytes ml ret R n1 Q sl H pc Ls (.long z :: .long x :: st) := by
  subst hp
  exact WP.step (fun p e s m args below meth c T locs cells slots C X _ tgt h => XT.lmul X.here C.1 rfl (hb C.2.2.1 hd) rfl h) hr
theorem lushr {x : Int64} {z : Int32} (hd : decode bytes pc = .ok (.lushr, 1)) (hp : pc + 1 = pc') (hr : WP l Z hB y bytes ml ret R n1 Q sl H pc' Ls (.long (XT.ushrL x z) :: st)) : WP l Z hB y bytes ml ret R n1 Q sl H pc Ls (.int z :: .long x :: st) := by
  subst hp
  exact WP.step (fun p e s m args below meth c T locs cells slots C X _ tgt h => XT.lushr X.here C.1 rfl (hb C.2.2.1 hd) rfl h) hr
theorem lcmp {x z : Int64} (hd : decode bytes pc = .ok (.lcmp, 1)) (hp : pc + 1 = pc') (hr : WP l Z hB y bytes ml ret R n1 Q sl H pc' Ls (.int (XT.cmpL x z) :: st)) : WP l Z hB y bytes ml ret R n1 Q sl H pc Ls (.long z :: .long x :: st) := by
  subst hp
  exact WP.step (fun p e s m args below meth c T locs cells slots C X _ tgt h => XT.lcmp X.here C.1 rfl (hb C.2.2.1 hd) rfl h) hr
theorem idiv {x z : Int32} (hd : decode bytes pc = .ok (.idiv, 1)) (hz : z ≠ 0) (hp : pc + 1 = pc') (hr : WP l Z hB y bytes ml ret R n1 Q sl H pc' Ls (.int (x / z) :: st)) : WP l Z hB y bytes ml ret R n1 Q sl H pc Ls (.int z :: .int x :: st) := by
  subst hp
  exact WP.step (fun p e s m args below meth c T locs cells slots C X _ tgt h => XS.idiv X.here C.1 rfl (hb C.2.2.1 hd) rfl hz h) hr
theorem irem {x z : Int32} (hd : decode bytes pc = .ok (.irem, 1)) (hz : z ≠ 0) (hp : pc + 1 = pc') (hr : WP l Z hB y bytes ml ret R n1 Q sl H pc' Ls (.int (x % z) :: st)) : WP l Z hB y bytes ml ret R n1 Q sl H pc Ls (.int z :: .int x :: st) := by
  subst hp
  exact WP.step (fun p e s m args below meth c T locs cells slots C X _ tgt h => iremM X C.1 rfl (hb C.2.2.1 hd) rfl hz h) hr
theorem ineg {x : Int32} (hd : decode bytes pc = .ok (.ineg, 1)) (hp : pc + 1 = pc') (hr : WP l Z hB y bytes ml ret R n1 Q sl H pc' Ls (.int (-x) :: st)) : WP l Z hB y bytes ml ret R n1 Q sl H pc Ls (.int x :: st) := by
  subst hp
  exact WP.step (fun p e s m args below meth c T locs cells slots C X _ tgt h => XS.ineg X.here C.1 rfl (hb C.2.2.1 hd) rfl h) hr
theorem lneg {x : Int64} (hd : decode bytes pc = .ok (.lneg, 1)) (hp : pc + 1 = pc') (hr : WP l Z hB y bytes ml ret R n1 Q sl H pc' Ls (.long (-x) :: st)) : WP l Z hB y bytes ml ret R n1 Q sl H pc Ls (.long x :: st) := by
  subst hp
  exact WP.step (fun p e s m args below meth c T locs cells slots C X _ tgt h => XT.lneg X.here C.1 rfl (hb C.2.2.1 hd) rfl h) hr
theorem i2l {x : Int32} (hd : decode bytes pc = .ok (.i2l, 1)) (hp : pc + 1 = pc') (hr : WP l Z hB y bytes ml ret R n1 Q sl H pc' Ls (.long x.toInt64 :: st)) : WP l Z hB y bytes ml ret R n1 Q sl H pc Ls (.int x :: st) := by
  subst hp
  exact WP.step (fun p e s m args below meth c T locs cells slots C X _ tgt h => XT.i2l X.here C.1 rfl (hb C.2.2.1 hd) rfl h) hr
theorem l2i {x : Int64} (hd : decode bytes pc = .ok (.l2i, 1)) (hp : pc + 1 = pc') (hr : WP l Z hB y bytes ml ret R n1 Q sl H pc' Ls (.int x.toInt32 :: st)) : WP l Z hB y bytes ml ret R n1 Q sl H pc Ls (.long x :: st) := by
  subst hp
  exact WP.step (fun p e s m args below meth c T locs cells slots C X _ tgt h => XT.l2i X.here C.1 rfl (hb C.2.2.1 hd) rfl h) hr
theorem i2c {x : Int32} (hd : decode bytes pc = .ok (.i2c, 1)) (hp : pc + 1 = pc') (hr : WP l Z hB y bytes ml ret R n1 Q sl H pc' Ls (.int x.toUInt32.toUInt16.toUInt32.toInt32 :: st)) : WP l Z hB y bytes ml ret R n1 Q sl H pc Ls (.int x :: st) := by
  subst hp
  exact WP.step (fun p e s m args below meth c T locs cells slots C X _ tgt h => XT.i2c X.here C.1 rfl (hb C.2.2.1 hd) rfl h) hr
theorem i2b {x : Int32} (hd : decode bytes pc = .ok (.i2b, 1)) (hp : pc + 1 = pc') (hr : WP l Z hB y bytes ml ret R n1 Q sl H pc' Ls (.int x.toInt8.toInt32 :: st)) : WP l Z hB y bytes ml ret R n1 Q sl H pc Ls (.int x :: st) := by
  subst hp
  exact WP.step (fun p e s m args below meth c T locs cells slots C X _ tgt h => XT.i2b X.here C.1 rfl (hb C.2.2.1 hd) rfl h) hr
theorem dup {v : Value} (hd : decode bytes pc = .ok (.dup, 1)) (hc : v.category = 1) (hp : pc + 1 = pc') (hr : WP l Z hB y bytes ml ret R n1 Q sl H pc' Ls (v :: v :: st)) : WP l Z hB y bytes ml ret R n1 Q sl H pc Ls (v :: st) := by
  subst hp
  exact WP.step (fun p e s m args below meth c T locs cells slots C X _ tgt h => XS.dup X.here C.1 rfl (hb C.2.2.1 hd) rfl hc h) hr
theorem dupX1 {v w : Value} (hd : decode bytes pc = .ok (.dup_x1, 1)) (hc : v.category = 1) (hc2 : w.category = 1) (hp : pc + 1 = pc') (hr : WP l Z hB y bytes ml ret R n1 Q sl H pc' Ls (v :: w :: v :: st)) : WP l Z hB y bytes ml ret R n1 Q sl H pc Ls (v :: w :: st) := by
  subst hp
  exact WP.step (fun p e s m args below meth c T locs cells slots C X _ tgt h => XT.dupX1 X.here C.1 rfl (hb C.2.2.1 hd) rfl hc hc2 h) hr
theorem dup2 {v w : Value} (hd : decode bytes pc = .ok (.dup2, 1)) (hc : v.category = 1) (hc2 : w.category = 1) (hp : pc + 1 = pc') (hr : WP l Z hB y bytes ml ret R n1 Q sl H pc' Ls (v :: w :: v :: w :: st)) : WP l Z hB y bytes ml ret R n1 Q sl H pc Ls (v :: w :: st) := by
  subst hp
  exact WP.step (fun p e s m args below meth c T locs cells slots C X _ tgt h => XT.dup2 X.here C.1 rfl (hb C.2.2.1 hd) rfl hc hc2 h) hr
theorem popV {v : Value} (hd : decode bytes pc = .ok (.pop, 1)) (hc : v.category = 1) (hp : pc + 1 = pc') (hr : WP l Z hB y bytes ml ret R n1 Q sl H pc' Ls (st)) : WP l Z hB y bytes ml ret R n1 Q sl H pc Ls (v :: st) := by
  subst hp
  exact WP.step (fun p e s m args below meth c T locs cells slots C X _ tgt h => XT.pop X.here C.1 rfl (hb C.2.2.1 hd) rfl hc h) hr
theorem istoreN {k : Fin 4} {x : Int32} (hd : decode bytes pc = .ok (.istore_n k, 1)) (hl : storeLocals Ls k.val (.int x) = some Ls') (hp : pc + 1 = pc') (hr : WP l Z hB y bytes ml ret R n1 Q sl H pc' Ls' (st)) : WP l Z hB y bytes ml ret R n1 Q sl H pc Ls (.int x :: st) := by
  subst hp
  exact WP.step (fun p e s m args below meth c T locs cells slots C X _ tgt h => XS.istoreN X.here C.1 rfl (hb C.2.2.1 hd) rfl hl h) hr
theorem istore {k : Nat} {x : Int32} (hd : decode bytes pc = .ok (.istore k, 2)) (hl : storeLocals Ls k (.int x) = some Ls') (hp : pc + 2 = pc') (hr : WP l Z hB y bytes ml ret R n1 Q sl H pc' Ls' (st)) : WP l Z hB y bytes ml ret R n1 Q sl H pc Ls (.int x :: st) := by
  subst hp
  exact WP.step (fun p e s m args below meth c T locs cells slots C X _ tgt h => XS.istore X.here C.1 rfl (hb C.2.2.1 hd) rfl hl h) hr
theorem lstoreN {k : Fin 4} {x : Int64} (hd : decode bytes pc = .ok (.lstore_n k, 1)) (hl : storeLocals Ls k.val (.long x) = some Ls') (hp : pc + 1 = pc') (hr : WP l Z hB y bytes ml ret R n1 Q sl H pc' Ls' (st)) : WP l Z hB y bytes ml ret R n1 Q sl H pc Ls (.long x :: st) := by
  subst hp
  exact WP.step (fun p e s m args below meth c T locs cells slots C X _ tgt h => XT.lstoreN X.here C.1 rfl (hb C.2.2.1 hd) rfl hl h) hr
theorem lstore {k : Nat} {x : Int64} (hd : decode bytes pc = .ok (.lstore k, 2)) (hl : storeLocals Ls k (.long x) = some Ls') (hp : pc + 2 = pc') (hr : WP l Z hB y bytes ml ret R n1 Q sl H pc' Ls' (st)) : WP l Z hB y bytes ml ret R n1 Q sl H pc Ls (.long x :: st) := by
  subst hp
  exact WP.step (fun p e s m args below meth c T locs cells slots C X _ tgt h => XT.lstore X.here C.1 rfl (hb C.2.2.1 hd) rfl hl h) hr
theorem astoreN {k : Fin 4} {v : Value} (hd : decode bytes pc = .ok (.astore_n k, 1)) (hv : v.isRef = true) (hl : storeLocals Ls k.val v = some Ls') (hp : pc + 1 = pc') (hr : WP l Z hB y bytes ml ret R n1 Q sl H pc' Ls' (st)) : WP l Z hB y bytes ml ret R n1 Q sl H pc Ls (v :: st) := by
  subst hp
  exact WP.step (fun p e s m args below meth c T locs cells slots C X _ tgt h => XS.astoreN X.here C.1 rfl (hb C.2.2.1 hd) rfl hv hl h) hr
theorem astore {k : Nat} {v : Value} (hd : decode bytes pc = .ok (.astore k, 2)) (hv : v.isRef = true) (hl : storeLocals Ls k v = some Ls') (hp : pc + 2 = pc') (hr : WP l Z hB y bytes ml ret R n1 Q sl H pc' Ls' (st)) : WP l Z hB y bytes ml ret R n1 Q sl H pc Ls (v :: st) := by
  subst hp
  exact WP.step (fun p e s m args below meth c T locs cells slots C X _ tgt h => XS.astore X.here C.1 rfl (hb C.2.2.1 hd) rfl hv hl h) hr
theorem iinc {k : Nat} {cst : Int} {x : Int32} (z : Int32) (hd : decode bytes pc = .ok (.iinc k cst, 3)) (hl : Ls[k]? = some (.val (.int x))) (hz : x + Int32.ofInt cst = z) (hl' : storeLocals Ls k (.int z) = some Ls') (hp : pc + 3 = pc') (hr : WP l Z hB y bytes ml ret R n1 Q sl H pc' Ls' (st)) : WP l Z hB y bytes ml ret R n1 Q sl H pc Ls (st) := by
  subst hp
  exact WP.step (fun p e s m args below meth c T locs cells slots C X _ tgt h => XS.iinc X.here C.1 rfl (hb C.2.2.1 hd) hl (hz ▸ hl') h) hr
theorem goTo  {o : Int} (hd : decode bytes pc = .ok (.goto o, 3)) (ho : 0 ≤ (pc : Int) + o) (hp : ((pc : Int) + o).toNat = pc') (hr : WP l Z hB y bytes ml ret R n1 Q sl H pc' Ls st) : WP l Z hB y bytes ml ret R n1 Q sl H pc Ls (st) :=
  WP.step (fun p e s m args below meth c T locs cells slots C X _ tgt h => XS.goto X.here C.1 rfl rfl (hb C.2.2.1 hd) ho hp h) hr
theorem ifY {cd : ClassFile.Cond} {x : Int32} {o : Int} (hd : decode bytes pc = .ok (.ifCond cd o, 3)) (hc : ifCond.holds cd x = true) (ho : 0 ≤ (pc : Int) + o) (hp : ((pc : Int) + o).toNat = pc') (hr : WP l Z hB y bytes ml ret R n1 Q sl H pc' Ls st) : WP l Z hB y bytes ml ret R n1 Q sl H pc Ls (.int x :: st) :=
  WP.step (fun p e s m args below meth c T locs cells slots C X _ tgt h => XS.ifYes X.here C.1 rfl rfl (hb C.2.2.1 hd) rfl hc ho hp h) hr
theorem ifN {cd : ClassFile.Cond} {x : Int32} {o : Int} (hd : decode bytes pc = .ok (.ifCond cd o, 3)) (hc : ifCond.holds cd x = false) (hp : pc + 3 = pc') (hr : WP l Z hB y bytes ml ret R n1 Q sl H pc' Ls st) : WP l Z hB y bytes ml ret R n1 Q sl H pc Ls (.int x :: st) := by
  subst hp
  exact WP.step (fun p e s m args below meth c T locs cells slots C X _ tgt h => XS.ifNo X.here C.1 rfl (hb C.2.2.1 hd) rfl hc h) hr
theorem icY {cd : ClassFile.Cond} {x z : Int32} {o : Int} (hd : decode bytes pc = .ok (.if_icmp cd o, 3)) (hc : if_icmp.holds cd x z = true) (ho : 0 ≤ (pc : Int) + o) (hp : ((pc : Int) + o).toNat = pc') (hr : WP l Z hB y bytes ml ret R n1 Q sl H pc' Ls st) : WP l Z hB y bytes ml ret R n1 Q sl H pc Ls (.int z :: .int x :: st) :=
  WP.step (fun p e s m args below meth c T locs cells slots C X _ tgt h => XS.icmpYes X.here C.1 rfl rfl (hb C.2.2.1 hd) rfl hc ho hp h) hr
theorem icN {cd : ClassFile.Cond} {x z : Int32} {o : Int} (hd : decode bytes pc = .ok (.if_icmp cd o, 3)) (hc : if_icmp.holds cd x z = false) (hp : pc + 3 = pc') (hr : WP l Z hB y bytes ml ret R n1 Q sl H pc' Ls st) : WP l Z hB y bytes ml ret R n1 Q sl H pc Ls (.int z :: .int x :: st) := by
  subst hp
  exact WP.step (fun p e s m args below meth c T locs cells slots C X _ tgt h => XS.icmpNo X.here C.1 rfl (hb C.2.2.1 hd) rfl hc h) hr
theorem nullY  {o : Int} (hd : decode bytes pc = .ok (.ifnull o, 3)) (ho : 0 ≤ (pc : Int) + o) (hp : ((pc : Int) + o).toNat = pc') (hr : WP l Z hB y bytes ml ret R n1 Q sl H pc' Ls st) : WP l Z hB y bytes ml ret R n1 Q sl H pc Ls (.null :: st) :=
  WP.step (fun p e s m args below meth c T locs cells slots C X _ tgt h => XS.ifnullYes X.here C.1 rfl rfl (hb C.2.2.1 hd) rfl ho hp h) hr
theorem nullN {b : Addr} {o : Int} (hd : decode bytes pc = .ok (.ifnull o, 3)) (hp : pc + 3 = pc') (hr : WP l Z hB y bytes ml ret R n1 Q sl H pc' Ls st) : WP l Z hB y bytes ml ret R n1 Q sl H pc Ls (.ref b :: st) := by
  subst hp
  exact WP.step (fun p e s m args below meth c T locs cells slots C X _ tgt h => XS.ifnullNo X.here C.1 rfl (hb C.2.2.1 hd) rfl h) hr
theorem nonnullY {b : Addr} {o : Int} (hd : decode bytes pc = .ok (.ifnonnull o, 3)) (ho : 0 ≤ (pc : Int) + o) (hp : ((pc : Int) + o).toNat = pc') (hr : WP l Z hB y bytes ml ret R n1 Q sl H pc' Ls st) : WP l Z hB y bytes ml ret R n1 Q sl H pc Ls (.ref b :: st) :=
  WP.step (fun p e s m args below meth c T locs cells slots C X _ tgt h => XT.ifnonnullYes X.here C.1 rfl rfl (hb C.2.2.1 hd) rfl ho hp h) hr
theorem nonnullN  {o : Int} (hd : decode bytes pc = .ok (.ifnonnull o, 3)) (hp : pc + 3 = pc') (hr : WP l Z hB y bytes ml ret R n1 Q sl H pc' Ls st) : WP l Z hB y bytes ml ret R n1 Q sl H pc Ls (.null :: st) := by
  subst hp
  exact WP.step (fun p e s m args below meth c T locs cells slots C X _ tgt h => XT.ifnonnullNo X.here C.1 rfl (hb C.2.2.1 hd) rfl h) hr
theorem acY {cd : ClassFile.ACond} {v w : Value} {o : Int} (hd : decode bytes pc = .ok (.if_acmp cd o, 3)) (hv : v.isRef = true) (hw : w.isRef = true) (hc : XT.acmp cd v w = true) (ho : 0 ≤ (pc : Int) + o) (hp : ((pc : Int) + o).toNat = pc') (hr : WP l Z hB y bytes ml ret R n1 Q sl H pc' Ls st) : WP l Z hB y bytes ml ret R n1 Q sl H pc Ls (w :: v :: st) :=
  WP.step (fun p e s m args below meth c T locs cells slots C X _ tgt h => XT.acmpYes X.here C.1 rfl rfl (hb C.2.2.1 hd) rfl hv hw hc ho hp h) hr
theorem acN {cd : ClassFile.ACond} {v w : Value} {o : Int} (hd : decode bytes pc = .ok (.if_acmp cd o, 3)) (hv : v.isRef = true) (hw : w.isRef = true) (hc : XT.acmp cd v w = false) (hp : pc + 3 = pc') (hr : WP l Z hB y bytes ml ret R n1 Q sl H pc' Ls st) : WP l Z hB y bytes ml ret R n1 Q sl H pc Ls (w :: v :: st) := by
  subst hp
  exact WP.step (fun p e s m args below meth c T locs cells slots C X _ tgt h => XT.acmpNo X.here C.1 rfl (hb C.2.2.1 hd) rfl hv hw hc h) hr
theorem tswIn {dflt low high : Int} {offs : Array Int} {len : Nat} {o : Int} {i : Int32} (hd : decode bytes pc = .ok (.tableswitch dflt low high offs, len)) (hin : ¬ (i.toInt < low ∨ i.toInt > high)) (hoff : offs[(i.toInt - low).toNat]? = some o) (ho : 0 ≤ (pc : Int) + o) (hp : ((pc : Int) + o).toNat = pc') (hr : WP l Z hB y bytes ml ret R n1 Q sl H pc' Ls st) : WP l Z hB y bytes ml ret R n1 Q sl H pc Ls (.int i :: st) :=
  WP.step (fun p e s m args below meth c T locs cells slots C X _ tgt h => XS.tswIn X.here C.1 rfl rfl (hb C.2.2.1 hd) rfl hin hoff ho hp h) hr
theorem dupX2 {u v w : Value} (hd : decode bytes pc = .ok (.dup_x2, 1)) (h1 : u.category = 1) (h2 : v.category = 1) (h3 : w.category = 1) (hp : pc + 1 = pc') (hr : WP l Z hB y bytes ml ret R n1 Q sl H pc' Ls (u :: v :: w :: u :: st)) : WP l Z hB y bytes ml ret R n1 Q sl H pc Ls (u :: v :: w :: st) := by
  subst hp
  refine WP.step (fun p e s m args below meth c T locs cells slots C X _ tgt h => ?_) hr
  have hx := C.1
  have hd' := (hb C.2.2.1 hd)
  jvm_step X.here [X.here.top, hx, hd', h1, h2, h3]
  exact h
theorem pop2L {x : Int64} (hd : decode bytes pc = .ok (.pop2, 1)) (hp : pc + 1 = pc') (hr : WP l Z hB y bytes ml ret R n1 Q sl H pc' Ls st) : WP l Z hB y bytes ml ret R n1 Q sl H pc Ls (.long x :: st) := by
  subst hp
  refine WP.step (fun p e s m args below meth c T locs cells slots C X _ tgt h => ?_) hr
  have hx := C.1
  have hd' := (hb C.2.2.1 hd)
  jvm_step X.here [X.here.top, hx, hd', Value.category]
  exact h
theorem getFl {a : Addr} {R0 O n d host : String} {v : Value} {index : Nat} (hd : decode bytes pc = .ok (.getfield index, 3)) (w : (Jvm.Cond.fieldLink y.cls index R0 n d).before a0 Z = true ∨ (Jvm.Cond.fieldLinkNest y.cls index R0 n d host).before a0 Z = true) (via : Via Z R0 O n d) (F : ∀ h, Hp Z hB h H → Fld Z h a O n d v) (hp : pc + 3 = pc') (hr : WP l Z hB y bytes ml ret R n1 Q sl H pc' Ls (v :: st)) : WP l Z hB y bytes ml ret R n1 Q sl H pc Ls (.ref a :: st) := by
  subst hp
  exact WP.stepT (fun p e s m args below meth c T locs cells slots C X P => getF X C.1 C.2.1 C.2.2.2.2.1 w via rfl (F _ P) (g := mkF m pc Ls (.ref a :: st)) rfl rfl (hb C.2.2.1 hd)) hr
theorem getF0 {O n d : String} {v : Value} {index i j : Nat} {C : String} {ks : List Key} {vs : List Value} (hd : decode bytes pc = .ok (.getfield index, 3)) (w : (Jvm.Cond.fieldLink y.cls index O n d).before a0 Z = true) (hi : H[i]? = some (obj C ks vs)) (hk : ks[j]? = some (O, n, d)) (hv : vs[j]? = some v) (hp : pc + 3 = pc') (hr : WP l Z hB y bytes ml ret R n1 Q sl H pc' Ls (v :: st)) : WP l Z hB y bytes ml ret R n1 Q sl H pc Ls (rf hB i :: st) :=
  getFl (host := "") hd (Or.inl w) Via.refl (fun _ P => P.fld hi hk hv) hp hr
theorem getFold {a : Addr} {O n d : String} {v : Value} {index : Nat} (hd : decode bytes pc = .ok (.getfield index, 3)) (w : (Jvm.Cond.fieldLink y.cls index O n d).before a0 Z = true) (F : Fld Z hB a O n d v) (hp : pc + 3 = pc') (hr : WP l Z hB y bytes ml ret R n1 Q sl H pc' Ls (v :: st)) : WP l Z hB y bytes ml ret R n1 Q sl H pc Ls (.ref a :: st) :=
  getFl (host := "") hd (Or.inl w) Via.refl (fun _ P => F.ext P.toExt) hp hr
theorem getSt {O n d : String} {v : Value} {index : Nat} (hd : decode bytes pc = .ok (.getstatic index, 3)) (w : (Jvm.Cond.fieldLink y.cls index O n d).before a0 Z = true) (F : Sta Z hB O n d v) (hp : pc + 3 = pc') (hr : WP l Z hB y bytes ml ret R n1 Q sl H pc' Ls (v :: st)) : WP l Z hB y bytes ml ret R n1 Q sl H pc Ls st := by
  subst hp
  exact WP.stepT (fun p e s m args below meth c T locs cells slots C X P => getS2 X C.1 C.2.1 C.2.2.2.2.1 (host := "") (Or.inl w) Via.refl rfl (F.ext P.toExt) (g := mkF m pc Ls st) rfl (hb C.2.2.1 hd)) hr
theorem putF0 {O n d : String} {v : Value} {ty : FieldType} {index i j kk : Nat} {C : String} {ks : List Key} {vs : List Value} (hd : decode bytes pc = .ok (.putfield index, 3)) (w : (Jvm.Cond.fieldLink y.cls index O n d).before a0 Z = true) (hi : H[i]? = some (obj C ks vs)) (hk : ks[j]? = some (O, n, d)) (hj : j < vs.length)
    (L : (Jvm.Cond.lays C O n d).before a0 Z = true ∨ ((Jvm.Cond.laysFinal C O n d).before a0 Z = true ∧ y.cls = O ∧ y.name = "<init>")) (wi : (Jvm.Cond.instantiable C kk).before a0 Z = true) (hty : parseFieldDescriptor d = some ty) (hn : narrow ty v = v) (hf : fits ty v = true) (hH : H.set i (obj C ks (vs.set j v)) = H') (hp : pc + 3 = pc') (hr : WP l Z hB y bytes ml ret R n1 Q sl H' pc' Ls st) : WP l Z hB y bytes ml ret R n1 Q sl H pc Ls (v :: rf hB i :: st) := by
  subst hp; subst hH
  refine WP.stepH (fun p e s m args below meth c T locs cells slots C X hz N P hs => ?_) hr
  obtain ⟨T', h', X', e', W, k⟩ := putF X C.1 C.2.1 C.2.2.2.2.1 (host := "") (Or.inl w) Via.refl rfl (P.fld hi hk (List.getElem?_eq_getElem hj)) (P.exa hi) (L.imp id fun q => ⟨q.1, q.2.1, C.2.2.2.2.2.1.trans q.2.2⟩) wi hty hn hf (g := mkF m pc Ls (v :: rf hB i :: st)) rfl rfl (hb C.2.2.1 hd)
  exact ⟨T', _, _, _, X', Fr.snoc X' N (Nat.le_add_right _ _), by rw [e']; exact P.wrO hi hk hj W, hs, k⟩
theorem getF1 {R0 O n d : String} {v : Value} {index i j : Nat} {C : String} {ks : List Key} {vs : List Value} (hd : decode bytes pc = .ok (.getfield index, 3)) (w : (Jvm.Cond.fieldLink y.cls index R0 n d).before a0 Z = true) (ws : (Jvm.Cond.sameField R0 O n d).before a0 Z = true) (hi : H[i]? = some (obj C ks vs)) (hk : ks[j]? = some (O, n, d)) (hv : vs[j]? = some v) (hp : pc + 3 = pc') (hr : WP l Z hB y bytes ml ret R n1 Q sl H pc' Ls (v :: st)) : WP l Z hB y bytes ml ret R n1 Q sl H pc Ls (rf hB i :: st) :=
  getFl (host := "") hd (Or.inl w) (Via.of ws) (fun _ P => P.fld hi hk hv) hp hr
theorem putF1 {R0 O n d : String} {v : Value} {ty : FieldType} {index i j kk : Nat} {C : String} {ks : List Key} {vs : List Value} (hd : decode bytes pc = .ok (.putfield index, 3)) (w : (Jvm.Cond.fieldLink y.cls index R0 n d).before a0 Z = true) (ws : (Jvm.Cond.sameField R0 O n d).before a0 Z = true) (hi : H[i]? = some (obj C ks vs)) (hk : ks[j]? = some (O, n, d)) (hj : j < vs.length)
    (L : (Jvm.Cond.lays C O n d).before a0 Z = true ∨ ((Jvm.Cond.laysFinal C O n d).before a0 Z = true ∧ y.cls = O ∧ y.name = "<init>")) (wi : (Jvm.Cond.instantiable C kk).before a0 Z = true) (hty : parseFieldDescriptor d = some ty) (hn : narrow ty v = v) (hf : fits ty v = true) (hH : H.set i (obj C ks (vs.set j v)) = H') (hp : pc + 3 = pc') (hr : WP l Z hB y bytes ml ret R n1 Q sl H' pc' Ls st) : WP l Z hB y bytes ml ret R n1 Q sl H pc Ls (v :: rf hB i :: st) := by
  subst hp; subst hH
  refine WP.stepH (fun p e s m args below meth c T locs cells slots C X hz N P hs => ?_) hr
  obtain ⟨T', h', X', e', W, k⟩ := putF X C.1 C.2.1 C.2.2.2.2.1 (host := "") (Or.inl w) (Via.of ws) rfl (P.fld hi hk (List.getElem?_eq_getElem hj)) (P.exa hi) (L.imp id fun q => ⟨q.1, q.2.1, C.2.2.2.2.2.1.trans q.2.2⟩) wi hty hn hf (g := mkF m pc Ls (v :: rf hB i :: st)) rfl rfl (hb C.2.2.1 hd)
  exact ⟨T', _, _, _, X', Fr.snoc X' N (Nat.le_add_right _ _), by rw [e']; exact P.wrO hi hk hj W, hs, k⟩
theorem initObj {i' : Addr} {index : Nat} (hd : decode bytes pc = .ok (.invokespecial index, 3)) (w1 : (Jvm.Cond.methodLink y.cls index Lib.objectInit).before a0 Z = true) (w2 : (Jvm.Cond.instanceMethod Lib.objectInit).before a0 Z = true) (w3 : (Jvm.Cond.code Lib.objectInit ⟨#[0xb1]⟩ 1 none).before a0 Z = true) (hml : Ls.size = ml) (hf : 1 ≤ R.frames) (hl : (st.map fun v => v.category).sum + 12 ≤ R.locals) (hp : pc + 3 = pc') (hr : WP l Z hB y bytes ml ret R n1 Q sl H pc' Ls st) : WP l Z hB y bytes ml ret R n1 Q sl H pc Ls (.ref i' :: st) := by
  subst hp
  exact WP.stepT (fun p e s m args below meth c T locs cells slots C X P => initO X C.1 C.2.1 C.2.2.2.2.1 w1 w2 w3 rfl (g := mkF m pc Ls (.ref i' :: st)) rfl (hml.trans C.2.2.2.1.symm) rfl (hb C.2.2.1 hd) hf (W := (st.map fun v => v.category).sum) (by show 2 * 0 + _ ≤ _; omega) hl) hr
theorem newObj {C : String} {index n : Nat} {ks : List Key} {vs : List Value} (hd : decode bytes pc = .ok (.new index, 3)) (w : (Jvm.Cond.classLink y.cls index C).before a0 Z = true) (wi : (Jvm.Cond.instantiable C n).before a0 Z = true) (wz : (Jvm.Cond.initialized C).before a0 Z = true)
    (hlaid : ∀ (i : Nat) (k : Key) (v : Value), ks[i]? = some k → vs[i]? = some v → Laid Z a0 C k.1 k.2.1 k.2.2 ∧ ∃ ty, parseFieldDescriptor k.2.2 = some ty ∧ v = defaultValue ty) (hdist : ∀ (i j : Nat) (k k' : Key), ks[i]? = some k → ks[j]? = some k' → i ≠ j → kslot Z k ≠ kslot Z k')
    (hc : H.length + 1 ≤ n1 + R.cells) (hsl : sl + n ≤ R.slots) (hH : H ++ [obj C ks vs] = H') (hlen : H.length = i) (hp : pc + 3 = pc') (hr : WP l Z hB y bytes ml ret R n1 Q (sl + n) H' pc' Ls (rf hB i :: st)) : WP l Z hB y bytes ml ret R n1 Q sl H pc Ls st := by
  subst hp; subst hH; subst hlen
  refine WP.stepH (fun p e s m args below meth c T locs cells slots Cx X hz N P hs => ?_) hr
  have hsz := Cx.2.2.2.2.2.2.2.2
  have hp1 := P.1
  obtain ⟨T', h', X', e', E, A, D, U, k⟩ := newO X Cx.1 Cx.2.1 Cx.2.2.2.2.1 w wi wz rfl (g := mkF m pc Ls st) rfl (hb Cx.2.2.1 hd) (by omega) (by omega)
  subst e'
  have hle := X'.heapSize
  refine ⟨T', _, _, _, X', N, P.push E (by omega) ⟨A, U, fun i k v h1 h2 => ?_, hdist⟩, by omega, by rw [show rf hB H.length = .ref T.heap.size from by show Value.ref _ = _; rw [hp1]]; exact k⟩
  obtain ⟨q1, ty, q2, rfl⟩ := hlaid i k v h1 h2
  exact D q1 q2
theorem newArr {aty : ArrayType} {i : Nat} {n : Int32} {nn : Nat} (hd : decode bytes pc = .ok (.newarray aty, 2)) (w : (Jvm.Cond.arrayClass (newarray.typeOf aty)).before a0 Z = true) (hn : ¬ n < 0) (hnn : n.toNatClampNeg = nn) (hb8 : nn * 8 ≤ 536870912) (hdf : fits (newarray.typeOf aty) (defaultValue (newarray.typeOf aty)) = true) (hnr : (∀ C, newarray.typeOf aty ≠ .object C) ∧ ∀ t, newarray.typeOf aty ≠ .array t)
    (hc : H.length + 1 ≤ n1 + R.cells) (hsl : sl + nn ≤ R.slots) (hH : H ++ [arr (newarray.typeOf aty) (List.replicate nn (defaultValue (newarray.typeOf aty)))] = H') (hlen : H.length = i) (hp : pc + 2 = pc') (hr : WP l Z hB y bytes ml ret R n1 Q (sl + nn) H' pc' Ls (rf hB i :: st)) : WP l Z hB y bytes ml ret R n1 Q sl H pc Ls (.int n :: st) := by
  subst hp; subst hH; subst hlen; subst hnn
  refine WP.stepH (fun p e s m args below meth c T locs cells slots Cx X hz N P hs => ?_) hr
  have hsz := Cx.2.2.2.2.2.2.2.2
  have hp1 := P.1
  obtain ⟨T', h', cA, X', e', E, A, Ex, k⟩ := newPE X Cx.1 Cx.2.1 w rfl (g := mkF m pc Ls (.int n :: st)) rfl (hb Cx.2.2.1 hd) rfl hn (cap := n.toNatClampNeg) (Nat.le_refl _) hb8 (by omega) (by omega) rfl
  subst e'
  have hle := X'.heapSize
  refine ⟨T', _, _, _, X', N, P.push E (by omega) ⟨_, A, by simp [newA], rfl, Ex, ⟨fun C q => absurd q (hnr.1 C), fun t q => absurd q (hnr.2 t)⟩, fun v hv => by rw [List.eq_of_mem_replicate hv]; exact hdf⟩, by omega, by rw [show rf hB H.length = .ref T.heap.size from by show Value.ref _ = _; rw [hp1]]; exact k⟩
theorem newRef {C : String} {index i : Nat} {n : Int32} {nn : Nat} (hd : decode bytes pc = .ok (.anewarray index, 3)) (w1 : (Jvm.Cond.classLink y.cls index C).before a0 Z = true) (w2 : (Jvm.Cond.arrayOver (.object C)).before a0 Z = true) (hn : ¬ n < 0) (hnn : n.toNatClampNeg = nn) (hb8 : nn * 8 ≤ 536870912)
    (hc : H.length + 1 ≤ n1 + R.cells) (hsl : sl + nn ≤ R.slots) (hH : H ++ [arr (.object C) (List.replicate nn .null)] = H') (hlen : H.length = i) (hp : pc + 3 = pc') (hr : WP l Z hB y bytes ml ret R n1 Q (sl + nn) H' pc' Ls (rf hB i :: st)) : WP l Z hB y bytes ml ret R n1 Q sl H pc Ls (.int n :: st) := by
  subst hp; subst hH; subst hlen; subst hnn
  refine WP.stepH (fun p e s m args below meth c T locs cells slots Cx X hz N P hs => ?_) hr
  have hsz := Cx.2.2.2.2.2.2.2.2
  have hp1 := P.1
  obtain ⟨T', h', cA, X', e', E, A, Ex, O, k⟩ := newRE X Cx.1 Cx.2.1 Cx.2.2.2.2.1 w1 w2 rfl (g := mkF m pc Ls (.int n :: st)) rfl (hb Cx.2.2.1 hd) rfl hn (cap := n.toNatClampNeg) (Nat.le_refl _) hb8 (by omega) (by omega) rfl
  subst e'
  have hle := X'.heapSize
  refine ⟨T', _, _, _, X', N, P.push E (by omega) ⟨_, A, by simp [newA, defaultValue], rfl, Ex, ⟨fun C' q => (by cases q; exact O), fun t q => (by cases q)⟩, fun v hv => by rw [List.eq_of_mem_replicate hv]; rfl⟩, by omega, by rw [show rf hB H.length = .ref T.heap.size from by show Value.ref _ = _; rw [hp1]]; exact k⟩
theorem newRefA {ty : FieldType} {C : String} {index i : Nat} {n : Int32} {nn : Nat} (hd : decode bytes pc = .ok (.anewarray index, 3)) (hC : (FieldType.array ty).toString = C) (w1 : (Jvm.Cond.classLink y.cls index C).before a0 Z = true) (w2 : (Jvm.Cond.arrayOver (.array ty)).before a0 Z = true) (hn : ¬ n < 0) (hnn : n.toNatClampNeg = nn) (hb8 : nn * 8 ≤ 536870912)
    (hc : H.length + 1 ≤ n1 + R.cells) (hsl : sl + nn ≤ R.slots) (hH : H ++ [arr (.array ty) (List.replicate nn .null)] = H') (hlen : H.length = i) (hp : pc + 3 = pc') (hr : WP l Z hB y bytes ml ret R n1 Q (sl + nn) H' pc' Ls (rf hB i :: st)) : WP l Z hB y bytes ml ret R n1 Q sl H pc Ls (.int n :: st) := by
  subst hp; subst hH; subst hlen; subst hnn; subst hC
  refine WP.stepH (fun p e s m args below meth c T locs cells slots Cx X hz N P hs => ?_) hr
  have hsz := Cx.2.2.2.2.2.2.2.2
  have hp1 := P.1
  obtain ⟨T', h', cA, X', e', E, A, Ex, O, k⟩ := newRA X Cx.1 Cx.2.1 Cx.2.2.2.2.1 rfl w1 w2 rfl (g := mkF m pc Ls (.int n :: st)) rfl (hb Cx.2.2.1 hd) rfl hn (cap := n.toNatClampNeg) (Nat.le_refl _) hb8 (by omega) (by omega) rfl
  subst e'
  have hle := X'.heapSize
  refine ⟨T', _, _, _, X', N, P.push E (by omega) ⟨_, A, by simp [newA, defaultValue], rfl, Ex, ⟨fun C' q => (by cases q), fun t q => (by cases q; exact O)⟩, fun v hv => by rw [List.eq_of_mem_replicate hv]; rfl⟩, by omega, by rw [show rf hB H.length = .ref T.heap.size from by show Value.ref _ = _; rw [hp1]]; exact k⟩
theorem inb {c : Cell} {vs : List Value} {j : Int32} {v : Value} (hc : c.slots = vs.toArray) (h0 : ¬ j < 0) (hv : vs[j.toNatClampNeg]? = some v) : ¬ (j < 0 ∨ c.slots.size ≤ j.toNatClampNeg) ∧ c.slots[j.toNatClampNeg]? = some v := by
  have := (List.getElem?_eq_some_iff.mp hv).1
  refine ⟨fun q => q.elim h0 fun z => ?_, by rw [hc]; simpa using hv⟩
  rw [hc, List.size_toArray] at z; omega
theorem arrLen {i : Nat} {t : FieldType} {vs : List Value} {z : Int32} (hd : decode bytes pc = .ok (.arraylength, 1)) (hi : H[i]? = some (arr t vs)) (hz : vs.length.toInt32 = z) (hp : pc + 1 = pc') (hr : WP l Z hB y bytes ml ret R n1 Q sl H pc' Ls (.int z :: st)) : WP l Z hB y bytes ml ret R n1 Q sl H pc Ls (rf hB i :: st) := by
  subst hp
  refine WP.step (fun p e s m args below meth c T locs cells slots C X P tgt h => ?_) hr
  obtain ⟨cl, h1, h2, -⟩ := P.at hi
  exact X.arraylength C.1 h1.1 (State.isArrayOf_alike C.2.1.alike h1.2.1) (g := mkF m pc Ls (rf hB i :: st)) rfl rfl (hb C.2.2.1 hd) _ (by rw [h2, List.size_toArray, hz]; exact h)
theorem arrLenOld {a : Addr} {t : FieldType} {cl : Cell} {z : Int32} (hd : decode bytes pc = .ok (.arraylength, 1)) (A : Arr Z hB a cl t) (hz : cl.slots.size.toInt32 = z) (hp : pc + 1 = pc') (hr : WP l Z hB y bytes ml ret R n1 Q sl H pc' Ls (.int z :: st)) : WP l Z hB y bytes ml ret R n1 Q sl H pc Ls (.ref a :: st) := by
  subst hp
  refine WP.step (fun p e s m args below meth c T locs cells slots C X P tgt h => ?_) hr
  have h1 := A.ext P.toExt
  exact X.arraylength C.1 h1.1 (State.isArrayOf_alike C.2.1.alike h1.2.1) (g := mkF m pc Ls (.ref a :: st)) rfl rfl (hb C.2.2.1 hd) _ (by rw [hz]; exact h)
theorem iaload {i : Nat} {vs : List Value} {j : Int32} {v : Value} {jn : Nat} (hd : decode bytes pc = .ok (.iaload, 1)) (hi : H[i]? = some (arr .int vs)) (h0 : ¬ j < 0) (hjn : j.toNatClampNeg = jn) (hv : vs[jn]? = some v) (hp : pc + 1 = pc') (hr : WP l Z hB y bytes ml ret R n1 Q sl H pc' Ls (v :: st)) : WP l Z hB y bytes ml ret R n1 Q sl H pc Ls (.int j :: rf hB i :: st) := by
  subst hp; subst hjn
  refine WP.step (fun p e s m args below meth c T locs cells slots C X P tgt h => ?_) hr
  obtain ⟨cl, h1, h2, -⟩ := P.at hi
  exact X.iaload C.1 h1.1 (State.isArrayOf_alike C.2.1.alike h1.2.1) h1.2.2 (inb h2 h0 hv).1 (inb h2 h0 hv).2 (g := mkF m pc Ls (.int j :: rf hB i :: st)) rfl rfl (hb C.2.2.1 hd) _ h
theorem laload {i : Nat} {vs : List Value} {j : Int32} {v : Value} {jn : Nat} (hd : decode bytes pc = .ok (.laload, 1)) (hi : H[i]? = some (arr .long vs)) (h0 : ¬ j < 0) (hjn : j.toNatClampNeg = jn) (hv : vs[jn]? = some v) (hp : pc + 1 = pc') (hr : WP l Z hB y bytes ml ret R n1 Q sl H pc' Ls (v :: st)) : WP l Z hB y bytes ml ret R n1 Q sl H pc Ls (.int j :: rf hB i :: st) := by
  subst hp; subst hjn
  refine WP.step (fun p e s m args below meth c T locs cells slots C X P tgt h => ?_) hr
  obtain ⟨cl, h1, h2, -⟩ := P.at hi
  exact X.laload C.1 h1.1 (State.isArrayOf_alike C.2.1.alike h1.2.1) h1.2.2 (inb h2 h0 hv).1 (inb h2 h0 hv).2 (g := mkF m pc Ls (.int j :: rf hB i :: st)) rfl rfl (hb C.2.2.1 hd) _ h
theorem caload {i : Nat} {vs : List Value} {j : Int32} {v : Value} {jn : Nat} (hd : decode bytes pc = .ok (.caload, 1)) (hi : H[i]? = some (arr .char vs)) (h0 : ¬ j < 0) (hjn : j.toNatClampNeg = jn) (hv : vs[jn]? = some v) (hp : pc + 1 = pc') (hr : WP l Z hB y bytes ml ret R n1 Q sl H pc' Ls (v :: st)) : WP l Z hB y bytes ml ret R n1 Q sl H pc Ls (.int j :: rf hB i :: st) := by
  subst hp; subst hjn
  refine WP.step (fun p e s m args below meth c T locs cells slots C X P tgt h => ?_) hr
  obtain ⟨cl, h1, h2, -⟩ := P.at hi
  exact X.caload C.1 h1.1 (State.isArrayOf_alike C.2.1.alike h1.2.1) h1.2.2 (inb h2 h0 hv).1 (inb h2 h0 hv).2 (g := mkF m pc Ls (.int j :: rf hB i :: st)) rfl rfl (hb C.2.2.1 hd) _ h
theorem baload {i : Nat} {vs : List Value} {j : Int32} {v : Value} {jn : Nat} (hd : decode bytes pc = .ok (.baload, 1)) (hi : H[i]? = some (arr .byte vs)) (h0 : ¬ j < 0) (hjn : j.toNatClampNeg = jn) (hv : vs[jn]? = some v) (hp : pc + 1 = pc') (hr : WP l Z hB y bytes ml ret R n1 Q sl H pc' Ls (v :: st)) : WP l Z hB y bytes ml ret R n1 Q sl H pc Ls (.int j :: rf hB i :: st) := by
  subst hp; subst hjn
  refine WP.step (fun p e s m args below meth c T locs cells slots C X P tgt h => ?_) hr
  obtain ⟨cl, h1, h2, -⟩ := P.at hi
  exact X.baloadBytes C.1 h1.1 (State.isArrayOf_alike C.2.1.alike h1.2.1) h1.2.2 (inb h2 h0 hv).1 (inb h2 h0 hv).2 (g := mkF m pc Ls (.int j :: rf hB i :: st)) rfl rfl (hb C.2.2.1 hd) _ h
theorem zaload {i : Nat} {vs : List Value} {j : Int32} {v : Value} {jn : Nat} (hd : decode bytes pc = .ok (.baload, 1)) (hi : H[i]? = some (arr .boolean vs)) (h0 : ¬ j < 0) (hjn : j.toNatClampNeg = jn) (hv : vs[jn]? = some v) (hp : pc + 1 = pc') (hr : WP l Z hB y bytes ml ret R n1 Q sl H pc' Ls (v :: st)) : WP l Z hB y bytes ml ret R n1 Q sl H pc Ls (.int j :: rf hB i :: st) := by
  subst hp; subst hjn
  refine WP.step (fun p e s m args below meth c T locs cells slots C X P tgt h => ?_) hr
  obtain ⟨cl, h1, h2, -⟩ := P.at hi
  exact X.baloadBooleans C.1 h1.1 (State.isArrayOf_alike C.2.1.alike h1.2.1) h1.2.2 (inb h2 h0 hv).1 (inb h2 h0 hv).2 (g := mkF m pc Ls (.int j :: rf hB i :: st)) rfl rfl (hb C.2.2.1 hd) _ h
theorem aaload {i : Nat} {t : FieldType} {vs : List Value} {j : Int32} {v : Value} {jn : Nat} (hd : decode bytes pc = .ok (.aaload, 1)) (hi : H[i]? = some (arr t vs)) (ht : t.isReference = true) (h0 : ¬ j < 0) (hjn : j.toNatClampNeg = jn) (hv : vs[jn]? = some v) (hp : pc + 1 = pc') (hr : WP l Z hB y bytes ml ret R n1 Q sl H pc' Ls (v :: st)) : WP l Z hB y bytes ml ret R n1 Q sl H pc Ls (.int j :: rf hB i :: st) := by
  subst hp; subst hjn
  refine WP.step (fun p e s m args below meth c T locs cells slots C X P tgt h => ?_) hr
  obtain ⟨cl, h1, h2, -⟩ := P.at hi
  exact X.aaload C.1 h1.1 (State.isArrayOf_alike C.2.1.alike h1.2.1) ht h1.2.2 (inb h2 h0 hv).1 (inb h2 h0 hv).2 (g := mkF m pc Ls (.int j :: rf hB i :: st)) rfl rfl (hb C.2.2.1 hd) _ h
theorem baloadOld {a : Addr} {cl : Cell} {j : Int32} {v : Value} (hd : decode bytes pc = .ok (.baload, 1)) (A : Arr Z hB a cl .byte) (h0 : ¬ (j < 0 ∨ cl.slots.size ≤ j.toNatClampNeg)) (hv : cl.slots[j.toNatClampNeg]? = some v) (hp : pc + 1 = pc') (hr : WP l Z hB y bytes ml ret R n1 Q sl H pc' Ls (v :: st)) : WP l Z hB y bytes ml ret R n1 Q sl H pc Ls (.int j :: .ref a :: st) := by
  subst hp
  refine WP.step (fun p e s m args below meth c T locs cells slots C X P tgt h => ?_) hr
  have h1 := A.ext P.toExt
  exact X.baloadBytes C.1 h1.1 (State.isArrayOf_alike C.2.1.alike h1.2.1) h1.2.2 h0 hv (g := mkF m pc Ls (.int j :: .ref a :: st)) rfl rfl (hb C.2.2.1 hd) _ h
theorem ialoadOld {a : Addr} {cl : Cell} {j : Int32} {v : Value} (hd : decode bytes pc = .ok (.iaload, 1)) (A : Arr Z hB a cl .int) (h0 : ¬ (j < 0 ∨ cl.slots.size ≤ j.toNatClampNeg)) (hv : cl.slots[j.toNatClampNeg]? = some v) (hp : pc + 1 = pc') (hr : WP l Z hB y bytes ml ret R n1 Q sl H pc' Ls (v :: st)) : WP l Z hB y bytes ml ret R n1 Q sl H pc Ls (.int j :: .ref a :: st) := by
  subst hp
  refine WP.step (fun p e s m args below meth c T locs cells slots C X P tgt h => ?_) hr
  have h1 := A.ext P.toExt
  exact X.iaload C.1 h1.1 (State.isArrayOf_alike C.2.1.alike h1.2.1) h1.2.2 h0 hv (g := mkF m pc Ls (.int j :: .ref a :: st)) rfl rfl (hb C.2.2.1 hd) _ h
theorem aaloadOld {a : Addr} {t : FieldType} {cl : Cell} {j : Int32} {v : Value} (hd : decode bytes pc = .ok (.aaload, 1)) (A : Arr Z hB a cl t) (ht : t.isReference = true) (h0 : ¬ (j < 0 ∨ cl.slots.size ≤ j.toNatClampNeg)) (hv : cl.slots[j.toNatClampNeg]? = some v) (hp : pc + 1 = pc') (hr : WP l Z hB y bytes ml ret R n1 Q sl H pc' Ls (v :: st)) : WP l Z hB y bytes ml ret R n1 Q sl H pc Ls (.int j :: .ref a :: st) := by
  subst hp
  refine WP.step (fun p e s m args below meth c T locs cells slots C X P tgt h => ?_) hr
  have h1 := A.ext P.toExt
  exact X.aaload C.1 h1.1 (State.isArrayOf_alike C.2.1.alike h1.2.1) ht h1.2.2 h0 hv (g := mkF m pc Ls (.int j :: .ref a :: st)) rfl rfl (hb C.2.2.1 hd) _ h
theorem iastore {i : Nat} {vs : List Value} {j : Int32} {x : Int32} {jn : Nat} (hd : decode bytes pc = .ok (.iastore, 1)) (hi : H[i]? = some (arr .int vs)) (h0 : ¬ j < 0) (hjn : j.toNatClampNeg = jn) (hlt : jn < vs.length) (hH : H.set i (arr .int (vs.set jn (.int x))) = H') (hp : pc + 1 = pc') (hr : WP l Z hB y bytes ml ret R n1 Q sl H' pc' Ls st) : WP l Z hB y bytes ml ret R n1 Q sl H pc Ls (.int x :: .int j :: rf hB i :: st) := by
  subst hp; subst hH; subst hjn
  refine WP.stepH (fun p e s m args below meth c T locs cells slots C X hz N P hs => ?_) hr
  obtain ⟨cl, h1, h2, -⟩ := P.at hi
  obtain ⟨T', h', X', e', W, k⟩ := stI X C.1 C.2.1 rfl h1 (inb h2 h0 (List.getElem?_eq_getElem hlt)).1 (g := mkF m pc Ls (.int x :: .int j :: rf hB i :: st)) rfl rfl (hb C.2.2.1 hd)
  exact ⟨T', _, _, _, X', Fr.snoc X' N (Nat.le_add_right _ _), by rw [e']; exact P.wrA hi (rfl) W, hs, k⟩
theorem lastore {i : Nat} {vs : List Value} {j : Int32} {x : Int64} {jn : Nat} (hd : decode bytes pc = .ok (.lastore, 1)) (hi : H[i]? = some (arr .long vs)) (h0 : ¬ j < 0) (hjn : j.toNatClampNeg = jn) (hlt : jn < vs.length) (hH : H.set i (arr .long (vs.set jn (.long x))) = H') (hp : pc + 1 = pc') (hr : WP l Z hB y bytes ml ret R n1 Q sl H' pc' Ls st) : WP l Z hB y bytes ml ret R n1 Q sl H pc Ls (.long x :: .int j :: rf hB i :: st) := by
  subst hp; subst hH; subst hjn
  refine WP.stepH (fun p e s m args below meth c T locs cells slots C X hz N P hs => ?_) hr
  obtain ⟨cl, h1, h2, -⟩ := P.at hi
  obtain ⟨T', h', X', e', W, k⟩ := stJ X C.1 C.2.1 rfl h1 (inb h2 h0 (List.getElem?_eq_getElem hlt)).1 (g := mkF m pc Ls (.long x :: .int j :: rf hB i :: st)) rfl rfl (hb C.2.2.1 hd)
  exact ⟨T', _, _, _, X', Fr.snoc X' N (Nat.le_add_right _ _), by rw [e']; exact P.wrA hi (rfl) W, hs, k⟩
theorem castore {i : Nat} {vs : List Value} {j : Int32} {x : Int32} {jn : Nat} (hd : decode bytes pc = .ok (.castore, 1)) (hi : H[i]? = some (arr .char vs)) (h0 : ¬ j < 0) (hjn : j.toNatClampNeg = jn) (hlt : jn < vs.length) (hH : H.set i (arr .char (vs.set jn (.int (nar .char x)))) = H') (hp : pc + 1 = pc') (hr : WP l Z hB y bytes ml ret R n1 Q sl H' pc' Ls st) : WP l Z hB y bytes ml ret R n1 Q sl H pc Ls (.int x :: .int j :: rf hB i :: st) := by
  subst hp; subst hH; subst hjn
  refine WP.stepH (fun p e s m args below meth c T locs cells slots C X hz N P hs => ?_) hr
  obtain ⟨cl, h1, h2, -⟩ := P.at hi
  obtain ⟨T', h', X', e', W, k⟩ := stC X C.1 C.2.1 rfl h1 (inb h2 h0 (List.getElem?_eq_getElem hlt)).1 (g := mkF m pc Ls (.int x :: .int j :: rf hB i :: st)) rfl rfl (hb C.2.2.1 hd)
  exact ⟨T', _, _, _, X', Fr.snoc X' N (Nat.le_add_right _ _), by rw [e']; exact P.wrA hi (fits_nar_char x) W, hs, k⟩
theorem bastore {i : Nat} {vs : List Value} {j : Int32} {x : Int32} {jn : Nat} (hd : decode bytes pc = .ok (.bastore, 1)) (hi : H[i]? = some (arr .byte vs)) (h0 : ¬ j < 0) (hjn : j.toNatClampNeg = jn) (hlt : jn < vs.length) (hH : H.set i (arr .byte (vs.set jn (.int (nar .byte x)))) = H') (hp : pc + 1 = pc') (hr : WP l Z hB y bytes ml ret R n1 Q sl H' pc' Ls st) : WP l Z hB y bytes ml ret R n1 Q sl H pc Ls (.int x :: .int j :: rf hB i :: st) := by
  subst hp; subst hH; subst hjn
  refine WP.stepH (fun p e s m args below meth c T locs cells slots C X hz N P hs => ?_) hr
  obtain ⟨cl, h1, h2, -⟩ := P.at hi
  obtain ⟨T', h', X', e', W, k⟩ := stB X C.1 C.2.1 rfl h1 (inb h2 h0 (List.getElem?_eq_getElem hlt)).1 (g := mkF m pc Ls (.int x :: .int j :: rf hB i :: st)) rfl rfl (hb C.2.2.1 hd)
  exact ⟨T', _, _, _, X', Fr.snoc X' N (Nat.le_add_right _ _), by rw [e']; exact P.wrA hi (fits_nar_byte x) W, hs, k⟩
theorem zastore {i : Nat} {vs : List Value} {j : Int32} {x : Int32} {jn : Nat} (hd : decode bytes pc = .ok (.bastore, 1)) (hi : H[i]? = some (arr .boolean vs)) (h0 : ¬ j < 0) (hjn : j.toNatClampNeg = jn) (hlt : jn < vs.length) (hH : H.set i (arr .boolean (vs.set jn (.int (nar .boolean x)))) = H') (hp : pc + 1 = pc') (hr : WP l Z hB y bytes ml ret R n1 Q sl H' pc' Ls st) : WP l Z hB y bytes ml ret R n1 Q sl H pc Ls (.int x :: .int j :: rf hB i :: st) := by
  subst hp; subst hH; subst hjn
  refine WP.stepH (fun p e s m args below meth c T locs cells slots C X hz N P hs => ?_) hr
  obtain ⟨cl, h1, h2, -⟩ := P.at hi
  obtain ⟨T', h', X', e', W, k⟩ := stZ X C.1 C.2.1 rfl h1 (inb h2 h0 (List.getElem?_eq_getElem hlt)).1 (g := mkF m pc Ls (.int x :: .int j :: rf hB i :: st)) rfl rfl (hb C.2.2.1 hd)
  exact ⟨T', _, _, _, X', Fr.snoc X' N (Nat.le_add_right _ _), by rw [e']; exact P.wrA hi (fits_nar_bool x) W, hs, k⟩
theorem aastore {i : Nat} {t : FieldType} {vs : List Value} {j : Int32} {v : Value} {jn : Nat} (hd : decode bytes pc = .ok (.aastore, 1)) (hi : H[i]? = some (arr t vs)) (ht : t.isReference = true) (F : ∀ h, Hp Z hB h H → Sto Z h (hB.size + i) v) (hf : fits t v = true) (h0 : ¬ j < 0) (hjn : j.toNatClampNeg = jn) (hlt : jn < vs.length) (hH : H.set i (arr t (vs.set jn v)) = H') (hp : pc + 1 = pc') (hr : WP l Z hB y bytes ml ret R n1 Q sl H' pc' Ls st) : WP l Z hB y bytes ml ret R n1 Q sl H pc Ls (v :: .int j :: rf hB i :: st) := by
  subst hp; subst hH; subst hjn
  refine WP.stepH (fun p e s m args below meth c T locs cells slots C X hz N P hs => ?_) hr
  obtain ⟨cl, h1, h2, -⟩ := P.at hi
  obtain ⟨T', h', X', e', W, k⟩ := stR X C.1 C.2.1 rfl h1 (inb h2 h0 (List.getElem?_eq_getElem hlt)).1 ht (F _ P) (g := mkF m pc Ls (v :: .int j :: rf hB i :: st)) rfl rfl (hb C.2.2.1 hd)
  exact ⟨T', _, _, _, X', Fr.snoc X' N (Nat.le_add_right _ _), by rw [e']; exact P.wrA hi hf W, hs, k⟩
theorem ialoadI {i : Nat} {xs : List Int32} {j x : Int32} {jn : Nat} (hd : decode bytes pc = .ok (.iaload, 1)) (hi : H[i]? = some (ints xs)) (h0 : ¬ j < 0) (hjn : j.toNatClampNeg = jn) (hv : xs[jn]? = some x) (hp : pc + 1 = pc') (hr : WP l Z hB y bytes ml ret R n1 Q sl H pc' Ls (.int x :: st)) : WP l Z hB y bytes ml ret R n1 Q sl H pc Ls (.int j :: rf hB i :: st) :=
  iaload hd hi h0 hjn (by rw [List.getElem?_map, hv]; rfl) hp hr
theorem iastoreI {i : Nat} {xs : List Int32} {j x : Int32} {jn : Nat} (hd : decode bytes pc = .ok (.iastore, 1)) (hi : H[i]? = some (ints xs)) (h0 : ¬ j < 0) (hjn : j.toNatClampNeg = jn) (hlt : jn < xs.length) (hH : H.set i (ints (xs.set jn x)) = H') (hp : pc + 1 = pc') (hr : WP l Z hB y bytes ml ret R n1 Q sl H' pc' Ls st) : WP l Z hB y bytes ml ret R n1 Q sl H pc Ls (.int x :: .int j :: rf hB i :: st) :=
  iastore hd hi h0 hjn (by rw [List.length_map]; exact hlt) (by rw [← hH]; show H.set i (arr .int ((xs.map Value.int).set jn (Value.int x))) = H.set i (arr .int ((xs.set jn x).map Value.int)); rw [List.map_set]) hp hr
theorem ialoadG {i : Nat} {xs : List Int32} {j x : Int32} (hd : decode bytes pc = .ok (.iaload, 1)) (hi : H[i]? = some (ints xs)) (hg : gI xs j = some x) (hp : pc + 1 = pc') (hr : WP l Z hB y bytes ml ret R n1 Q sl H pc' Ls (.int x :: st)) : WP l Z hB y bytes ml ret R n1 Q sl H pc Ls (.int j :: rf hB i :: st) :=
  ialoadI hd hi (gI_at hg).1 rfl (gI_at hg).2 hp hr
theorem iastoreG {i : Nat} {xs xs' : List Int32} {j x : Int32} (hd : decode bytes pc = .ok (.iastore, 1)) (hi : H[i]? = some (ints xs)) (hg : sI xs j x = some xs') (hH : H.set i (ints xs') = H') (hp : pc + 1 = pc') (hr : WP l Z hB y bytes ml ret R n1 Q sl H' pc' Ls st) : WP l Z hB y bytes ml ret R n1 Q sl H pc Ls (.int x :: .int j :: rf hB i :: st) :=
  iastoreI hd hi (sI_at hg).1 rfl (sI_at hg).2.1 (by rw [← hH, (sI_at hg).2.2]) hp hr
theorem lastoreG {i : Nat} {xs xs' : List Int64} {j : Int32} {x : Int64} (hd : decode bytes pc = .ok (.lastore, 1)) (hi : H[i]? = some (longs xs)) (hg : sJ xs j x = some xs') (hH : H.set i (longs xs') = H') (hp : pc + 1 = pc') (hr : WP l Z hB y bytes ml ret R n1 Q sl H' pc' Ls st) : WP l Z hB y bytes ml ret R n1 Q sl H pc Ls (.long x :: .int j :: rf hB i :: st) :=
  lastore hd hi (sJ_at hg).1 rfl (by rw [List.length_map]; exact (sJ_at hg).2.1) (by rw [← hH, (sJ_at hg).2.2]; show H.set i (arr .long ((xs.map Value.long).set j.toNatClampNeg (Value.long x))) = H.set i (arr .long ((xs.set j.toNatClampNeg x).map Value.long)); rw [List.map_set]) hp hr
theorem stoO {h : Heap} (P : Hp Z hB h H) {i : Nat} {C : String} {vs : List Value} {b : Addr} (hi : H[i]? = some (arr (.object C) vs)) (I : Ins Z h b C true) : Sto Z h (hB.size + i) (.ref b) := by
  obtain ⟨cl, h1, -, -, -, h6, -⟩ := P.at hi
  exact Sto.of h1 (h6.1 _ rfl) I
theorem stoA {h : Heap} (P : Hp Z hB h H) {i : Nat} {ty : FieldType} {C : String} {vs : List Value} {b : Addr} (hi : H[i]? = some (arr (.array ty) vs)) (hC : (FieldType.array ty).toString = C) (I : Ins Z h b C true) : Sto Z h (hB.size + i) (.ref b) := by
  subst hC
  obtain ⟨cl, h1, -, -, -, h6, -⟩ := P.at hi
  obtain ⟨k, comp, o1, o2, o3⟩ := h6.2 _ rfl
  obtain ⟨cv, cT, i1, i2, i3⟩ := I
  cases o3.symm.trans i2
  simp only [Bool.and_eq_true, Bool.not_eq_true'] at i3
  obtain ⟨kc, q⟩ := Vm.classAt_of_findClass o3
  obtain ⟨kv, q2⟩ := Vm.classAt_of_assignable i3.2 ⟨kc, q⟩
  exact Or.inr ⟨cl, cv, k, kv, kc, _, _, b, h1.1, o1, o2, q, rfl, i1, i3.1, q2, i3.2⟩
/-- System.arraycopy into an array made since -/
theorem arraycopy {a : Addr} {i index : Nat} {t t' : FieldType} {vs vd us : List Value} {z sp dp nn : Int32} {spn dpn n : Nat} {dv : Value} (hd : decode bytes pc = .ok (.invokestatic index, 3)) (w1 : (Jvm.Cond.methodLink y.cls index Jvm.Stand.acN).before a0 Z = true) (w2 : (Jvm.Cond.native Jvm.Stand.acN).before a0 Z = true) (w3 : (Jvm.Cond.static Jvm.Stand.acN).before a0 Z = true) (w4 : (Jvm.Cond.initialized "java/lang/System").before a0 Z = true)
    (A : ∀ h, Hp Z hB h H → ∃ k, Arv Z h a k t z vs dv) (hi : H[i]? = some (arr t' vd)) (hty : (t = t' ∧ refKind t = false) ∨ (refKind t = true ∧ refKind t' = true ∧ ∀ h, Hp Z hB h H → StoL Z h (hB.size + i) us)) (h1 : ¬ sp < 0) (h2 : ¬ dp < 0) (h3 : ¬ nn < 0) (e1 : sp.toNatClampNeg = spn) (e2 : dp.toNatClampNeg = dpn) (e3 : nn.toNatClampNeg = n) (h4 : spn + n ≤ z.toNatClampNeg) (h5 : dpn + n ≤ vd.length) (hl : vd.length < 2 ^ 31)
    (hus : us = (List.range n).map fun j => vs.getD (spn + j) dv) (hml : Ls.size = ml) (hf : 1 ≤ R.frames) (hlo : (st.map fun v => v.category).sum + (nativeFrameWords "java/lang/System" "arraycopy" 5 + 11) ≤ R.locals) (hH : H.set i (arr t' (vd.take dpn ++ us ++ vd.drop (dpn + n))) = H') (hp : pc + 3 = pc') (hr : WP l Z hB y bytes ml ret R n1 Q sl H' pc' Ls st) : WP l Z hB y bytes ml ret R n1 Q sl H pc Ls (.int nn :: .int dp :: rf hB i :: .int sp :: .ref a :: st) := by
  subst hp; subst hH; subst e1; subst e2; subst e3
  refine WP.stepH (fun p e s m args below meth c T locs cells slots C X hz N P hs => ?_) hr
  obtain ⟨k, A⟩ := A _ P
  obtain ⟨k', B⟩ := P.arv hi hl .null
  obtain ⟨T', h', L, X', e', N', K, B', stp⟩ := cpA X C.1 C.2.1 C.2.2.2.2.1 w1 w2 w3 w4 rfl A B (hty.imp id fun q => ⟨q.1, q.2.1, q.2.2 _ P⟩) h1 h2 h3 h4 (by rw [(toNat_len hl).1]; exact h5) hus h5 N (Nat.le_add_right _ _) (g := mkF m pc Ls (.int nn :: .int dp :: rf hB i :: .int sp :: .ref a :: st)) rfl (hml.trans C.2.2.2.1.symm) rfl (hb C.2.2.1 hd) hf (W := (st.map fun v => v.category).sum) (by show 2 * 0 + _ ≤ _; omega) hlo
  subst e'
  have hle := X'.heapSize
  have ul : us.length = nn.toNatClampNeg := by rw [hus]; simp
  exact ⟨T', L, cells, slots, X', N', P.copied hi (by omega) K hl (by simp only [List.length_append, List.length_take, List.length_drop, ul]; omega) B', hs, stp⟩
theorem ldcInt {index : Nat} {x : Int32} (hd : decode bytes pc = .ok (.ldc index, 2)) (w : (Jvm.Cond.constant y.cls index x).before a0 Z = true) (hp : pc + 2 = pc') (hr : WP l Z hB y bytes ml ret R n1 Q sl H pc' Ls (.int x :: st)) : WP l Z hB y bytes ml ret R n1 Q sl H pc Ls st := by
  subst hp
  exact WP.step (fun p e s m args below meth c T locs cells slots C X P tgt h => X.ldcInt C.1 C.2.2.2.2.1 (mvT C.2.1 w) (g := mkF m pc Ls st) rfl (hb C.2.2.1 hd) _ h) hr
theorem ldc2Long {index : Nat} {x : Int64} (hd : decode bytes pc = .ok (.ldc2_w index, 3)) (w : (Jvm.Cond.constantLong y.cls index x).before a0 Z = true) (hp : pc + 3 = pc') (hr : WP l Z hB y bytes ml ret R n1 Q sl H pc' Ls (.long x :: st)) : WP l Z hB y bytes ml ret R n1 Q sl H pc Ls st := by
  subst hp
  exact WP.step (fun p e s m args below meth c T locs cells slots C X P tgt h => X.ldc2Long C.1 C.2.2.2.2.1 (mvT C.2.1 w) (g := mkF m pc Ls st) rfl (hb C.2.2.1 hd) _ h) hr
theorem getCls {a mr : Addr} {C : String} {index : Nat} (hd : decode bytes pc = .ok (.invokevirtual index, 3)) (w1 : (Jvm.Cond.methodLink y.cls index Jvm.Stand.gcN).before a0 Z = true) (w2 : (Jvm.Cond.declares Jvm.Stand.gcN).before a0 Z = true) (hnf : ∀ s : State, Z.Warmed39 s.vm → NotFace s Jvm.Stand.gcN) (w4 : (Jvm.Cond.selects C Jvm.Stand.gcN Jvm.Stand.gcN).before a0 Z = true) (w5 : (Jvm.Cond.instanceMethod Jvm.Stand.gcN).before a0 Z = true) (w6 : (Jvm.Cond.native Jvm.Stand.gcN).before a0 Z = true) (E : ∀ h, Hp Z hB h H → Exa Z h a C) (M : Mir Z C mr) (hml : Ls.size = ml) (hf : 1 ≤ R.frames) (hlo : (st.map fun v => v.category).sum + (nativeFrameWords "java/lang/Object" "getClass" 1 + 11) ≤ R.locals) (hp : pc + 3 = pc') (hr : WP l Z hB y bytes ml ret R n1 Q sl H pc' Ls (.ref mr :: st)) : WP l Z hB y bytes ml ret R n1 Q sl H pc Ls (.ref a :: st) := by
  subst hp
  refine WP.stepT (fun p e s m args below meth c T locs cells slots C' X P => ?_) hr
  obtain ⟨cB, kB, i1, i2, i3⟩ := isOf (s := s) (T := T) C'.2.1 rfl (E _ P)
  obtain ⟨cc, kc, m1, m2, m3, -⟩ := M
  rw [C'.2.1.alike.findClass] at i1
  cases i1.symm.trans m1
  obtain ⟨k', q, ek⟩ := C'.2.1.alike.2.2 _ _ m2
  obtain ⟨vm', X', st⟩ := X.getClassOf C'.1 C'.2.2.2.2.1 (mvT C'.2.1 w1) (mvT C'.2.1 w2) (hnf s C'.2.1) (mvT C'.2.1 w4) (mvT C'.2.1 w5) (mvT C'.2.1 w6) (by rw [C'.2.1.alike.findClass]; exact m1) i3 q (by rw [ek]; exact m3) (g := mkF m pc Ls (.ref a :: st)) rfl (hml.trans C'.2.2.2.1.symm) rfl (hb C'.2.2.1 hd) hf (by show 2 * 0 + _ + _ ≤ _; omega)
  exact ⟨_, X', rfl, st⟩
theorem ldcMir {mr : Addr} {C : String} {index : Nat} (hd : decode bytes pc = .ok (.ldc index, 2)) (w : (Jvm.Cond.classLink y.cls index C).before a0 Z = true) (M : Mir Z C mr) (hp : pc + 2 = pc') (hr : WP l Z hB y bytes ml ret R n1 Q sl H pc' Ls (.ref mr :: st)) : WP l Z hB y bytes ml ret R n1 Q sl H pc Ls st := by
  subst hp
  refine WP.stepT (fun p e s m args below meth c T locs cells slots C' X P => ?_) hr
  obtain ⟨cc, kc, m1, m2, m3, -⟩ := M
  obtain ⟨k', q, ek⟩ := C'.2.1.alike.2.2 _ _ m2
  have f1 : s.vm.findClass C = some cc := by rw [C'.2.1.alike.findClass]; exact m1
  have hm : k'.mirror = some mr := by rw [ek]; exact m3
  have hev : (Term.mirror C).eval args s none [] s = some (.ref mr) := by simp [Term.eval, f1, q, hm]
  obtain ⟨vm', X', st⟩ := X.ldcMirror C'.1 C'.2.2.2.2.1 (mvT C'.2.1 w) hev (g := mkF m pc Ls st) rfl (hb C'.2.2.1 hd)
  exact ⟨_, X', rfl, st⟩
theorem castTo {K : String} {index : Nat} {a : Addr} (hd : decode bytes pc = .ok (.checkcast index, 3)) (w : (Jvm.Cond.classLink y.cls index K).before a0 Z = true) (F : ∀ h, Hp Z hB h H → Ins Z h a K true) (hp : pc + 3 = pc') (hr : WP l Z hB y bytes ml ret R n1 Q sl H pc' Ls (.ref a :: st)) : WP l Z hB y bytes ml ret R n1 Q sl H pc Ls (.ref a :: st) := by
  subst hp
  exact WP.stepT (fun p e s m args below meth c T locs cells slots C X P => castY X C.1 C.2.1 C.2.2.2.2.1 w rfl (F _ P) (g := mkF m pc Ls (.ref a :: st)) rfl rfl (hb C.2.2.1 hd)) hr
theorem instYes {K : String} {index : Nat} {a : Addr} (hd : decode bytes pc = .ok (.instanceof index, 3)) (w : (Jvm.Cond.classLink y.cls index K).before a0 Z = true) (F : ∀ h, Hp Z hB h H → Ins Z h a K true) (hp : pc + 3 = pc') (hr : WP l Z hB y bytes ml ret R n1 Q sl H pc' Ls (.int 1 :: st)) : WP l Z hB y bytes ml ret R n1 Q sl H pc Ls (.ref a :: st) := by
  subst hp
  exact WP.stepT (fun p e s m args below meth c T locs cells slots C X P => instY X C.1 C.2.1 C.2.2.2.2.1 w rfl (F _ P) (g := mkF m pc Ls (.ref a :: st)) rfl rfl (hb C.2.2.1 hd)) hr
theorem instNot {K C : String} {index : Nat} {a : Addr} (hd : decode bytes pc = .ok (.instanceof index, 3)) (w : (Jvm.Cond.classLink y.cls index K).before a0 Z = true) (E : ∀ h, Hp Z hB h H → Exa Z h a C) (F : ∃ c t, Z.vm.findClass C = some c ∧ Z.vm.findClass K = some t ∧ Z.vm.assignable c t = false) (hp : pc + 3 = pc') (hr : WP l Z hB y bytes ml ret R n1 Q sl H pc' Ls (.int 0 :: st)) : WP l Z hB y bytes ml ret R n1 Q sl H pc Ls (.ref a :: st) := by
  subst hp
  exact WP.stepT (fun p e s m args below meth c T locs cells slots C X P => instNo X C.1 C.2.1 C.2.2.2.2.1 w rfl (E _ P) F (g := mkF m pc Ls (.ref a :: st)) rfl rfl (hb C.2.2.1 hd)) hr
theorem instNull {index : Nat} (hd : decode bytes pc = .ok (.instanceof index, 3)) (hp : pc + 3 = pc') (hr : WP l Z hB y bytes ml ret R n1 Q sl H pc' Ls (.int 0 :: st)) : WP l Z hB y bytes ml ret R n1 Q sl H pc Ls (.null :: st) := by
  subst hp
  exact WP.step (fun p e s m args below meth c T locs cells slots C X P tgt h => X.instanceofNull C.1 (g := mkF m pc Ls (.null :: st)) rfl rfl (hb C.2.2.1 hd) _ h) hr
theorem castNull {index : Nat} (hd : decode bytes pc = .ok (.checkcast index, 3)) (hp : pc + 3 = pc') (hr : WP l Z hB y bytes ml ret R n1 Q sl H pc' Ls (.null :: st)) : WP l Z hB y bytes ml ret R n1 Q sl H pc Ls (.null :: st) := by
  subst hp
  exact WP.step (fun p e s m args below meth c T locs cells slots C X P tgt h => X.checkcastNull C.1 (g := mkF m pc Ls (.null :: st)) rfl rfl (hb C.2.2.1 hd) _ h) hr
/-! returns -/
theorem retV {w : Value} {t : FieldType} {i : Instr} (hd : decode bytes pc = .ok (i, 1)) (hret : ret = some t) (hn : narrow t w = w)
    (hi : (i = .ireturn ∧ (t = .int ∨ t = .boolean ∨ t = .byte ∨ t = .char ∨ t = .short) ∧ ∃ z, w = .int z) ∨ (i = .lreturn ∧ t = .long ∧ ∃ z, w = .long z) ∨ (i = .dreturn ∧ t = .double ∧ ∃ z, w = .double z) ∨ (i = .freturn ∧ t = .float ∧ ∃ z, w = .float z) ∨ (i = .areturn ∧ t.isReference = true ∧ w.isRef = true))
    (hc : H.length ≤ n1 + R.cells) (hs : sl ≤ R.slots) (hQ : Q (some w) H) : WP l Z hB y bytes ml ret R n1 Q sl H pc Ls (w :: st) := by
  intro p e s m args below meth c C T locs cells slots X N P hs'
  have hr := C.2.2.2.2.2.2.1.trans hret
  have hsz := C.2.2.2.2.2.2.2.2
  have hp1 := P.1
  obtain ⟨fs, hl, hrun, hended, hW, hsame⟩ := (exact' X (k := R.cells) (by omega)).leave (v := some w) (fun h => by rw [hr] at h; cases h) C.2.2.2.2.2.2.2.1
  exact ⟨_, _, retOut X C.1 hr hn hi (hb C.2.2.1 hd) hl, hrun, hended, some w, locs, H, rfl, hQ, P, N, ⟨_, rfl⟩, hW, hsame.mono (Nat.le_refl _) (Nat.le_trans hs' hs)⟩
theorem iret {x : Int32} {t : FieldType} (hd : decode bytes pc = .ok (.ireturn, 1)) (hret : ret = some t) (ht : t = .int ∨ t = .boolean ∨ t = .byte ∨ t = .char ∨ t = .short) (hn : narrow t (.int x) = .int x) (hc : H.length ≤ n1 + R.cells) (hs : sl ≤ R.slots) (hQ : Q (some (.int x)) H) : WP l Z hB y bytes ml ret R n1 Q sl H pc Ls (.int x :: st) :=
  retV hd hret hn (Or.inl ⟨rfl, ht, _, rfl⟩) hc hs hQ
theorem iretN {x : Int32} {t : FieldType} (hd : decode bytes pc = .ok (.ireturn, 1)) (hret : ret = some t) (ht : t = .boolean ∨ t = .byte ∨ t = .char ∨ t = .short) (hc : H.length ≤ n1 + R.cells) (hs : sl ≤ R.slots) (hQ : Q (some (.int (nar t x))) H) : WP l Z hB y bytes ml ret R n1 Q sl H pc Ls (.int x :: st) := by
  intro p e s m args below meth c C T locs cells slots X N P hs'
  have hr := C.2.2.2.2.2.2.1.trans hret
  have hsz := C.2.2.2.2.2.2.2.2
  have hp1 := P.1
  obtain ⟨fs, hl, hrun, hended, hW, hsame⟩ := (exact' X (k := R.cells) (by omega)).leave (v := some (.int (nar t x))) (fun h => by rw [hr] at h; cases h) C.2.2.2.2.2.2.2.1
  exact ⟨_, _, retN X C.1 hr ht (hb C.2.2.1 hd) hl, hrun, hended, _, locs, H, rfl, hQ, P, N, ⟨_, rfl⟩, hW, hsame.mono (Nat.le_refl _) (Nat.le_trans hs' hs)⟩
theorem lret {x : Int64} (hd : decode bytes pc = .ok (.lreturn, 1)) (hret : ret = some .long) (hc : H.length ≤ n1 + R.cells) (hs : sl ≤ R.slots) (hQ : Q (some (.long x)) H) : WP l Z hB y bytes ml ret R n1 Q sl H pc Ls (.long x :: st) :=
  retV hd hret rfl (Or.inr (Or.inl ⟨rfl, rfl, _, rfl⟩)) hc hs hQ
theorem aret {w : Value} {t : FieldType} (hd : decode bytes pc = .ok (.areturn, 1)) (hret : ret = some t) (ht : t.isReference = true) (hw : w.isRef = true) (hc : H.length ≤ n1 + R.cells) (hs : sl ≤ R.slots) (hQ : Q (some w) H) : WP l Z hB y bytes ml ret R n1 Q sl H pc Ls (w :: st) :=
  retV hd hret (by rcases ref_cases hw with rfl | ⟨a, rfl⟩ <;> cases t <;> first | rfl | cases ht) (Or.inr (Or.inr (Or.inr (Or.inr ⟨rfl, ht, hw⟩)))) hc hs hQ
theorem vret (hd : decode bytes pc = .ok (.return_, 1)) (hret : ret = none) (hc : H.length ≤ n1 + R.cells) (hs : sl ≤ R.slots) (hQ : Q none H) : WP l Z hB y bytes ml ret R n1 Q sl H pc Ls [] := by
  intro p e s m args below meth c C T locs cells slots X N P hs'
  have hr := C.2.2.2.2.2.2.1.trans hret
  have hsz := C.2.2.2.2.2.2.2.2
  have hp1 := P.1
  obtain ⟨fs, hl, hrun, hended, hW, hsame⟩ := (exact' X (k := R.cells) (by omega)).leave (v := none) (fun _ => rfl) C.2.2.2.2.2.2.2.1
  exact ⟨_, _, X.returnOut C.1 hr (hb C.2.2.1 hd) hl, hrun, hended, none, locs, H, rfl, hQ, P, N, ⟨_, rfl⟩, hW, hsame.mono (Nat.le_refl _) (Nat.le_trans hs' hs)⟩
/-! calls -/
section Calls
variable {y' z' : MethodName} {bytes' : ByteArray} {ml' : Nat} {ret' : Option FieldType} {rm : Room} {Q' : Option Value → List Rec → Prop} {index : Nat} {argsL st0 : List Value}
theorem mkBack {p : Program} {e : Env} {s : State} {args : Array Value} {below : List Frame} {h : Heap} {len W : Nat} {as' : Array Value} (hC : Ctr l Z hB y' bytes' ml' ret' [] rm as' H Q') (P : Hp Z hB h H) (hZ : Z.Warmed39 s.vm) (w4 : (Jvm.Cond.code y' bytes' ml' ret').before a0 Z = true) (w3 : (Jvm.Cond.initialized y'.cls).before a0 Z = true) (hfr : rm.frames + 1 ≤ R.frames) (hlo : W + (ml' + 11) + rm.locals ≤ R.locals) :
    Back l R p e below s args y' len W (fun A a => a = as' ∧ A.U.heap = h ∧ A.cells + rm.cells ≤ R.cells ∧ A.slots + rm.slots ≤ R.slots)
      (fun A _ v B => ∃ L, (∃ H', Q' v H' ∧ Hp Z hB B.U.heap H' ∧ Fr hB.size L) ∧ B.locs = A.locs ++ L ∧ B.cells = A.cells + rm.cells ∧ B.slots = A.slots + rm.slots) :=
  backOf (Q := fun v h L => ∃ H', Q' v H' ∧ Hp Z hB h H' ∧ Fr hB.size L) (MetFree.mono hC (fun a s h => ⟨h.1, h.2.1, by rw [h.2.2]; exact P⟩) (fun _ _ _ _ _ h => h) (fun a s o s' _ ⟨v, L, H', h1, h2, h3, h4, h5⟩ => ⟨v, L, h1, ⟨H', h2, h3, h4⟩, h5⟩)) hZ w4 w3 hfr hlo
theorem callS (hd : decode bytes pc = .ok (.invokestatic index, 3)) (w1 : (Jvm.Cond.methodLink y.cls index y').before a0 Z = true) (w2 : (Jvm.Cond.static y').before a0 Z = true) (w3 : (Jvm.Cond.initialized y'.cls).before a0 Z = true) (w4 : (Jvm.Cond.code y' bytes' ml' ret').before a0 Z = true) (hy : y'.cls ≠ "java/lang/invoke/MethodHandle" ∧ y'.cls ≠ "java/lang/invoke/VarHandle") (hlen : ∀ sig, parseMethodDescriptor y'.desc = some sig → argsL.length = sig.parameters.length)
    (hC : Ctr l Z hB y' bytes' ml' ret' [] rm argsL.toArray H Q') (hml : Ls.size = ml) (hfr : rm.frames + 1 ≤ R.frames) (hlo : (st.map fun v => v.category).sum + (ml' + 11) + rm.locals ≤ R.locals) (hcl : H.length + rm.cells ≤ n1 + R.cells) (hsl : sl + rm.slots ≤ R.slots) (hst : argsL.reverse ++ st = st0) (hp : pc + 3 = pc')
    (hr : ∀ v H', Q' v H' → WP l Z hB y bytes ml ret R n1 Q (sl + rm.slots) H' pc' Ls (v.toList ++ st)) : WP l Z hB y bytes ml ret R n1 Q sl H pc Ls st0 := by
  subst hp; subst hst
  intro p e s m args below meth c C T locs cells slots X N P hs
  have hsz := C.2.2.2.2.2.2.2.2
  have hp1 := P.1
  have hz : T.heap.size = s.heap.size + (T.heap.size - s.heap.size) := by have := X.same.2.1; have : s.heap.size ≤ T.heap.size := this; omega
  obtain ⟨v, vm1, ⟨U', ls, cc, ss⟩, -, X', ⟨L, hq, e1, e2, e3⟩, stp⟩ := Jvm.LawKit.callS (exact' X (Nat.le_of_eq hz)) C.1 (y := y') C.2.2.2.2.1 (mvT C.2.1 w1) (mvT C.2.1 w2) (mvT C.2.1 w3) (mvT C.2.1 w4) hy (mkBack (W := (st.map fun v => v.category).sum) hC P C.2.1 w4 w3 hfr hlo) (g := mkF m pc Ls (argsL.reverse ++ st)) rfl (hml.trans C.2.2.2.1.symm) (argsL := argsL) (rest := st) hlen rfl (by show 2 * 0 + _ ≤ _; omega) (hb C.2.2.1 hd) (fun _ _ => ⟨rfl, rfl, by show T.heap.size - s.heap.size + _ ≤ _; omega, by show slots + _ ≤ _; omega⟩)
  dsimp only [Pt.U, Pt.locs, Pt.cells, Pt.slots] at X' e1 e2 e3 stp hq
  subst e1 e2 e3
  obtain ⟨H', q1, q2, q3⟩ := hq
  obtain ⟨U, o, h1, h2⟩ := hr v H' q1 p e s m args below meth c C U' _ _ _ X' (Fr.app N q3) q2 (by omega)
  exact ⟨U, o, stp U h1, h2⟩
theorem callI {a : Addr} (hd : decode bytes pc = .ok (.invokespecial index, 3)) (hy1 : y'.name = "<init>") (w1 : (Jvm.Cond.methodLink y.cls index y').before a0 Z = true) (w2 : (Jvm.Cond.instanceMethod y').before a0 Z = true) (w3 : (Jvm.Cond.initialized y'.cls).before a0 Z = true) (w4 : (Jvm.Cond.code y' bytes' ml' none).before a0 Z = true) (hy : y'.cls ≠ "java/lang/invoke/MethodHandle" ∧ y'.cls ≠ "java/lang/invoke/VarHandle") (hlen : ∀ sig, parseMethodDescriptor y'.desc = some sig → argsL.length = sig.parameters.length)
    (hC : Ctr l Z hB y' bytes' ml' none [] rm (.ref a :: argsL).toArray H Q') (hml : Ls.size = ml) (hfr : rm.frames + 1 ≤ R.frames) (hlo : (st.map fun v => v.category).sum + (ml' + 11) + rm.locals ≤ R.locals) (hcl : H.length + rm.cells ≤ n1 + R.cells) (hsl : sl + rm.slots ≤ R.slots) (hst : argsL.reverse ++ .ref a :: st = st0) (hp : pc + 3 = pc')
    (hr : ∀ v H', Q' v H' → WP l Z hB y bytes ml ret R n1 Q (sl + rm.slots) H' pc' Ls (v.toList ++ st)) : WP l Z hB y bytes ml ret R n1 Q sl H pc Ls st0 := by
  subst hp; subst hst
  intro p e s m args below meth c C T locs cells slots X N P hs
  have hsz := C.2.2.2.2.2.2.2.2
  have hp1 := P.1
  have hz : T.heap.size = s.heap.size + (T.heap.size - s.heap.size) := by have := X.same.2.1; have : s.heap.size ≤ T.heap.size := this; omega
  obtain ⟨v, vm1, ⟨U', ls, cc, ss⟩, -, X', ⟨L, hq, e1, e2, e3⟩, stp⟩ := (exact' X (Nat.le_of_eq hz)).specialBack C.1 (y := y') hy1 C.2.2.2.2.1 (mvT C.2.1 w1) (mvT C.2.1 w2) (mvT C.2.1 w4) hy (mkBack (W := (st.map fun v => v.category).sum) hC P C.2.1 w4 w3 hfr hlo) (g := mkF m pc Ls (argsL.reverse ++ .ref a :: st)) rfl (hml.trans C.2.2.2.1.symm) (Steps.refl _) (a := a) (argsL := argsL) (rest := st) hlen rfl (by show 2 * 0 + _ ≤ _; omega) (hb C.2.2.1 hd) (fun _ _ => ⟨rfl, rfl, by show T.heap.size - s.heap.size + _ ≤ _; omega, by show slots + _ ≤ _; omega⟩)
  dsimp only [Pt.U, Pt.locs, Pt.cells, Pt.slots] at X' e1 e2 e3 stp hq
  subst e1 e2 e3
  obtain ⟨H', q1, q2, q3⟩ := hq
  obtain ⟨U, o, h1, h2⟩ := hr v H' q1 p e s m args below meth c C U' _ _ _ X' (Fr.app N q3) q2 (by omega)
  exact ⟨U, o, stp.trans h1, h2⟩
theorem nfSel {C : String} (w : (Jvm.Cond.selects C y' y').before a0 Z = true) : ∀ s : State, Z.Warmed39 s.vm → NotFace s y' := fun s hZ => notFace_of_selects (args := #[]) (mvT hZ w)
theorem callV {a : Addr} {C : String} (hd : decode bytes pc = .ok (.invokevirtual index, 3)) (w1 : (Jvm.Cond.methodLink y.cls index y').before a0 Z = true) (w2 : (Jvm.Cond.declares y').before a0 Z = true) (hnf : ∀ s : State, Z.Warmed39 s.vm → NotFace s y') (w5 : (Jvm.Cond.selects C y' z').before a0 Z = true) (w6 : (Jvm.Cond.instanceMethod z').before a0 Z = true) (w3 : (Jvm.Cond.initialized z'.cls).before a0 Z = true) (w4 : (Jvm.Cond.code z' bytes' ml' ret').before a0 Z = true) (hy : y'.cls ≠ "java/lang/invoke/MethodHandle" ∧ y'.cls ≠ "java/lang/invoke/VarHandle") (hlen : ∀ sig, parseMethodDescriptor y'.desc = some sig → argsL.length = sig.parameters.length)
    (E : ∀ h, Hp Z hB h H → Exa Z h a C) (hC : Ctr l Z hB z' bytes' ml' ret' [] rm (.ref a :: argsL).toArray H Q') (hml : Ls.size = ml) (hfr : rm.frames + 1 ≤ R.frames) (hlo : (st.map fun v => v.category).sum + (ml' + 11) + rm.locals ≤ R.locals) (hcl : H.length + rm.cells ≤ n1 + R.cells) (hsl : sl + rm.slots ≤ R.slots) (hst : argsL.reverse ++ .ref a :: st = st0) (hp : pc + 3 = pc')
    (hr : ∀ v H', Q' v H' → WP l Z hB y bytes ml ret R n1 Q (sl + rm.slots) H' pc' Ls (v.toList ++ st)) : WP l Z hB y bytes ml ret R n1 Q sl H pc Ls st0 := by
  subst hp; subst hst
  intro p e s m args below meth c C' T locs cells slots X N P hs
  have hsz := C'.2.2.2.2.2.2.2.2
  have hp1 := P.1
  have hz : T.heap.size = s.heap.size + (T.heap.size - s.heap.size) := by have := X.same.2.1; have : s.heap.size ≤ T.heap.size := this; omega
  obtain ⟨cq, kq, qa, qb, qc⟩ := isOf (s := s) (T := T) C'.2.1 rfl (E _ P)
  obtain ⟨v, vm1, ⟨U', ls, cc, ss⟩, -, X', ⟨L, hq, e1, e2, e3⟩, stp⟩ := (exact' X (Nat.le_of_eq hz)).virtualBack C'.1 (y := y') (z := z') C'.2.2.2.2.1 (mvT C'.2.1 w1) (mvT C'.2.1 w2) (hnf s C'.2.1) (mvT C'.2.1 w5) (mvT C'.2.1 w6) hy (mkBack (W := (st.map fun v => v.category).sum) hC P C'.2.1 w4 w3 hfr hlo) qa qc (g := mkF m pc Ls (argsL.reverse ++ .ref a :: st)) rfl (hml.trans C'.2.2.2.1.symm) (Steps.refl _) (argsL := argsL) (rest := st) hlen rfl (by show 2 * 0 + _ ≤ _; omega) (hb C'.2.2.1 hd) (fun _ _ => ⟨rfl, rfl, by show T.heap.size - s.heap.size + _ ≤ _; omega, by show slots + _ ≤ _; omega⟩)
  dsimp only [Pt.U, Pt.locs, Pt.cells, Pt.slots] at X' e1 e2 e3 stp hq
  subst e1 e2 e3
  obtain ⟨H', q1, q2, q3⟩ := hq
  obtain ⟨U, o, h1, h2⟩ := hr v H' q1 p e s m args below meth c C' U' _ _ _ X' (Fr.app N q3) q2 (by omega)
  exact ⟨U, o, stp.trans h1, h2⟩
/-- through a subclass's name: the class 'owner' declares it -/
theorem callU {a : Addr} {C owner : String} (hd : decode bytes pc = .ok (.invokevirtual index, 3)) (w1 : (Jvm.Cond.methodLink y.cls index y').before a0 Z = true) (w7 : (Jvm.Cond.sameMethod y'.cls owner y'.name y'.desc).before a0 Z = true) (w2 : (Jvm.Cond.declares ⟨owner, y'.name, y'.desc⟩).before a0 Z = true) (w5 : (Jvm.Cond.selects C y' z').before a0 Z = true) (w6 : (Jvm.Cond.instanceMethod z').before a0 Z = true) (w3 : (Jvm.Cond.initialized z'.cls).before a0 Z = true) (w4 : (Jvm.Cond.code z' bytes' ml' ret').before a0 Z = true) (hy : owner ≠ "java/lang/invoke/MethodHandle" ∧ owner ≠ "java/lang/invoke/VarHandle") (hlen : ∀ sig, parseMethodDescriptor y'.desc = some sig → argsL.length = sig.parameters.length)
    (E : ∀ h, Hp Z hB h H → Exa Z h a C) (hC : Ctr l Z hB z' bytes' ml' ret' [] rm (.ref a :: argsL).toArray H Q') (hml : Ls.size = ml) (hfr : rm.frames + 1 ≤ R.frames) (hlo : (st.map fun v => v.category).sum + (ml' + 11) + rm.locals ≤ R.locals) (hcl : H.length + rm.cells ≤ n1 + R.cells) (hsl : sl + rm.slots ≤ R.slots) (hst : argsL.reverse ++ .ref a :: st = st0) (hp : pc + 3 = pc')
    (hr : ∀ v H', Q' v H' → WP l Z hB y bytes ml ret R n1 Q (sl + rm.slots) H' pc' Ls (v.toList ++ st)) : WP l Z hB y bytes ml ret R n1 Q sl H pc Ls st0 := by
  subst hp; subst hst
  intro p e s m args below meth c C' T locs cells slots X N P hs
  have hsz := C'.2.2.2.2.2.2.2.2
  have hp1 := P.1
  have hz : T.heap.size = s.heap.size + (T.heap.size - s.heap.size) := by have := X.same.2.1; have : s.heap.size ≤ T.heap.size := this; omega
  obtain ⟨cq, kq, qa, qb, qc⟩ := isOf (s := s) (T := T) C'.2.1 rfl (E _ P)
  obtain ⟨v, vm1, ⟨U', ls, cc, ss⟩, -, X', ⟨L, hq, e1, e2, e3⟩, stp⟩ := (exact' X (Nat.le_of_eq hz)).virtualBackUp C'.1 (x := y') (y := z') C'.2.2.2.2.1 (mvT C'.2.1 w1) (mvT C'.2.1 w7) (mvT C'.2.1 w2) hy (mvT C'.2.1 w5) (mvT C'.2.1 w6) (mkBack (W := (st.map fun v => v.category).sum) hC P C'.2.1 w4 w3 hfr hlo) qa qc (g := mkF m pc Ls (argsL.reverse ++ .ref a :: st)) rfl (hml.trans C'.2.2.2.1.symm) (Steps.refl _) (argsL := argsL) (rest := st) hlen rfl (by show 2 * 0 + _ ≤ _; omega) (hb C'.2.2.1 hd) (fun _ _ => ⟨rfl, rfl, by show T.heap.size - s.heap.size + _ ≤ _; omega, by show slots + _ ≤ _; omega⟩)
  dsimp only [Pt.U, Pt.locs, Pt.cells, Pt.slots] at X' e1 e2 e3 stp hq
  subst e1 e2 e3
  obtain ⟨H', q1, q2, q3⟩ := hq
  obtain ⟨U, o, h1, h2⟩ := hr v H' q1 p e s m args below meth c C' U' _ _ _ X' (Fr.app N q3) q2 (by omega)
  exact ⟨U, o, stp.trans h1, h2⟩
/-- a private method, by invokevirtual -/
theorem callP {a : Addr} {C : String} (hd : decode bytes pc = .ok (.invokevirtual index, 3)) (w1 : (Jvm.Cond.methodLink y.cls index y').before a0 Z = true) (w6 : (Jvm.Cond.instanceMethod y').before a0 Z = true) (w5 : (Jvm.Cond.selects y'.cls y' y').before a0 Z = true) (w8 : (Jvm.Cond.privateMethod y').before a0 Z = true) (w3 : (Jvm.Cond.initialized y'.cls).before a0 Z = true) (w4 : (Jvm.Cond.code y' bytes' ml' ret').before a0 Z = true) (hy : y'.cls ≠ "java/lang/invoke/MethodHandle" ∧ y'.cls ≠ "java/lang/invoke/VarHandle") (hlen : ∀ sig, parseMethodDescriptor y'.desc = some sig → argsL.length = sig.parameters.length)
    (E : ∀ h, Hp Z hB h H → Exa Z h a C) (hC : Ctr l Z hB y' bytes' ml' ret' [] rm (.ref a :: argsL).toArray H Q') (hml : Ls.size = ml) (hfr : rm.frames + 1 ≤ R.frames) (hlo : (st.map fun v => v.category).sum + (ml' + 11) + rm.locals ≤ R.locals) (hcl : H.length + rm.cells ≤ n1 + R.cells) (hsl : sl + rm.slots ≤ R.slots) (hst : argsL.reverse ++ .ref a :: st = st0) (hp : pc + 3 = pc')
    (hr : ∀ v H', Q' v H' → WP l Z hB y bytes ml ret R n1 Q (sl + rm.slots) H' pc' Ls (v.toList ++ st)) : WP l Z hB y bytes ml ret R n1 Q sl H pc Ls st0 := by
  subst hp; subst hst
  intro p e s m args below meth c C' T locs cells slots X N P hs
  have hsz := C'.2.2.2.2.2.2.2.2
  have hp1 := P.1
  have hz : T.heap.size = s.heap.size + (T.heap.size - s.heap.size) := by have := X.same.2.1; have : s.heap.size ≤ T.heap.size := this; omega
  obtain ⟨cq, qa, qb⟩ := (E _ P).cell
  obtain ⟨v, vm1, ⟨U', ls, cc, ss⟩, -, X', ⟨L, hq, e1, e2, e3⟩, stp⟩ := (exact' X (Nat.le_of_eq hz)).privateBack C'.1 (y := y') C'.2.2.2.2.1 (mvT C'.2.1 w1) (mvT C'.2.1 w6) (mvT C'.2.1 w5) (Cond.privateMethod_at (mvP C'.2.1 w8 (args := #[]))) (mvT C'.2.1 w4) hy (mkBack (W := (st.map fun v => v.category).sum) hC P C'.2.1 w4 w3 hfr hlo) (g := mkF m pc Ls (argsL.reverse ++ .ref a :: st)) rfl (hml.trans C'.2.2.2.1.symm) (Steps.refl _) (a := a) qa qb (argsL := argsL) (rest := st) hlen rfl (by show 2 * 0 + _ ≤ _; omega) (hb C'.2.2.1 hd) (fun _ _ => ⟨rfl, rfl, by show T.heap.size - s.heap.size + _ ≤ _; omega, by show slots + _ ≤ _; omega⟩)
  dsimp only [Pt.U, Pt.locs, Pt.cells, Pt.slots] at X' e1 e2 e3 stp hq
  subst e1 e2 e3
  obtain ⟨H', q1, q2, q3⟩ := hq
  obtain ⟨U, o, h1, h2⟩ := hr v H' q1 p e s m args below meth c C' U' _ _ _ X' (Fr.app N q3) q2 (by omega)
  exact ⟨U, o, stp.trans h1, h2⟩
theorem callF {a : Addr} {C : String} {count : Nat} (hfa : (Jvm.Cond.interfaceMethod y'.cls y'.cls y'.name y'.desc).faceAtom = true) (hd : decode bytes pc = .ok (.invokeinterface index count, 5)) (w1 : (Jvm.Cond.methodLink y.cls index y').before a0 Z = true) (w2 : (Jvm.Cond.declares y').before a0 Z = true) (wf : (Jvm.Cond.interfaceMethod y'.cls y'.cls y'.name y'.desc).before a0 Z = true) (w5 : (Jvm.Cond.selects C y' z').before a0 Z = true) (w6 : (Jvm.Cond.instanceMethod z').before a0 Z = true) (wp : (Jvm.Cond.publicMethod z').before a0 Z = true) (wu : (Jvm.Cond.unhidden C y'.name y'.desc).before a0 Z = true) (wc : (Jvm.Cond.castable C y'.cls).before a0 Z = true) (w3 : (Jvm.Cond.initialized z'.cls).before a0 Z = true) (w4 : (Jvm.Cond.code z' bytes' ml' ret').before a0 Z = true) (hy : y'.cls ≠ "java/lang/invoke/MethodHandle" ∧ y'.cls ≠ "java/lang/invoke/VarHandle") (hlen : ∀ sig, parseMethodDescriptor y'.desc = some sig → argsL.length = sig.parameters.length)
    (E : ∀ h, Hp Z hB h H → Exa Z h a C) (hC : Ctr l Z hB z' bytes' ml' ret' [] rm (.ref a :: argsL).toArray H Q') (hml : Ls.size = ml) (hfr : rm.frames + 1 ≤ R.frames) (hlo : (st.map fun v => v.category).sum + (ml' + 11) + rm.locals ≤ R.locals) (hcl : H.length + rm.cells ≤ n1 + R.cells) (hsl : sl + rm.slots ≤ R.slots) (hst : argsL.reverse ++ .ref a :: st = st0) (hp : pc + 5 = pc')
    (hr : ∀ v H', Q' v H' → WP l Z hB y bytes ml ret R n1 Q (sl + rm.slots) H' pc' Ls (v.toList ++ st)) : WP l Z hB y bytes ml ret R n1 Q sl H pc Ls st0 := by
  subst hp; subst hst
  intro p e s m args below meth c C' T locs cells slots X N P hs
  have hsz := C'.2.2.2.2.2.2.2.2
  have hp1 := P.1
  have hz : T.heap.size = s.heap.size + (T.heap.size - s.heap.size) := by have := X.same.2.1; have : s.heap.size ≤ T.heap.size := this; omega
  obtain ⟨cq, kq, qa, qb, qc⟩ := isOf (s := s) (T := T) C'.2.1 rfl (E _ P)
  obtain ⟨v, vm1, ⟨U', ls, cc, ss⟩, -, X', ⟨L, hq, e1, e2, e3⟩, stp⟩ := (exact' X (Nat.le_of_eq hz)).interfaceBack C'.1 (xi := y') (y := z') C'.2.2.2.2.1 (mvT C'.2.1 w1) (mvT C'.2.1 w2) (mvT C'.2.1 wf (by simp [Cond.onTables, Cond.keepsFace, Cond.keeps, Cond.steady, hfa])) (mvT C'.2.1 w5) (mvT C'.2.1 w6) (mvT C'.2.1 wp) (mvT C'.2.1 wu) (mvT C'.2.1 wc) hy (mkBack (W := (st.map fun v => v.category).sum) hC P C'.2.1 w4 w3 hfr hlo) qa qb qc (g := mkF m pc Ls (argsL.reverse ++ .ref a :: st)) rfl (hml.trans C'.2.2.2.1.symm) (Steps.refl _) (argsL := argsL) (rest := st) hlen rfl (by show 2 * 0 + _ ≤ _; omega) (hb C'.2.2.1 hd) (fun _ _ => ⟨rfl, rfl, by show T.heap.size - s.heap.size + _ ≤ _; omega, by show slots + _ ≤ _; omega⟩)
  dsimp only [Pt.U, Pt.locs, Pt.cells, Pt.slots] at X' e1 e2 e3 stp hq
  subst e1 e2 e3
  obtain ⟨H', q1, q2, q3⟩ := hq
  obtain ⟨U, o, h1, h2⟩ := hr v H' q1 p e s m args below meth c C' U' _ _ _ X' (Fr.app N q3) q2 (by omega)
  exact ⟨U, o, stp.trans h1, h2⟩
end Calls
theorem gsE {H : List Rec} {i : Nat} {r r' : Rec} (h : H[i]? = some r) : (H.set i r')[i]? = some r' := by
  have := (List.getElem?_eq_some_iff.mp h).1
  simp [List.getElem?_set, this]
theorem gsN {H : List Rec} {i j : Nat} {r r' : Rec} (hn : j ≠ i) (h : H[i]? = some r) : (H.set j r')[i]? = some r := by rw [List.getElem?_set_ne hn]; exact h
theorem gaL {H : List Rec} {i : Nat} {r r' : Rec} (h : H[i]? = some r) : (H ++ [r'])[i]? = some r := by
  have := (List.getElem?_eq_some_iff.mp h).1
  rw [List.getElem?_append_left this]; exact h
theorem gaR {H : List Rec} {i : Nat} {r : Rec} (h : H.length = i) : (H ++ [r])[i]? = some r := by subst h; simp
theorem saR {H : List Rec} {a b : Rec} : (H ++ [a]).set H.length b = H ++ [b] := by simp
theorem gaA {H M : List Rec} {i : Nat} {r : Rec} (h : H[i]? = some r) : (H ++ M)[i]? = some r := by
  have := (List.getElem?_eq_some_iff.mp h).1
  rw [List.getElem?_append_left this]; exact h
theorem gaB {H M : List Rec} {k : Nat} {r : Rec} (h : M[k]? = some r) : (H ++ M)[H.length + k]? = some r := by
  rw [List.getElem?_append_right (by omega), show H.length + k - H.length = k from by omega]; exact h
theorem saB {H M : List Rec} {k : Nat} {r : Rec} : (H ++ M).set (H.length + k) r = H ++ M.set k r := by
  rw [List.set_append_right _ _ (by omega), show H.length + k - H.length = k from by omega]
theorem distK {C : String} {ks : List Key} (hl : ∀ (i : Nat) (k : Key), ks[i]? = some k → Laid Z a0 C k.1 k.2.1 k.2.2) (hn : (ks.map fun k => k.2.1).Nodup) (hd : (ks.all fun k => (parseFieldDescriptor k.2.2).isSome) = true) : ∀ (i j : Nat) (k k' : Key), ks[i]? = some k → ks[j]? = some k' → i ≠ j → kslot Z k ≠ kslot Z k' := by
  intro i j k k' h1 h2 hne
  obtain ⟨l1, g1⟩ := List.getElem?_eq_some_iff.mp h1
  obtain ⟨l2, g2⟩ := List.getElem?_eq_some_iff.mp h2
  have p1 := List.all_eq_true.mp hd k (List.mem_of_getElem? h1)
  have p2 := List.all_eq_true.mp hd k' (List.mem_of_getElem? h2)
  obtain ⟨t1, q1⟩ := Option.isSome_iff_exists.mp p1
  obtain ⟨t2, q2⟩ := Option.isSome_iff_exists.mp p2
  refine slot_ne (hl i k h1) (hl j k' h2) (fun e => hne ?_) q1 q2
  have hp := List.pairwise_iff_getElem.mp hn
  rcases Nat.lt_trichotomy i j with z | z | z
  · exact (hp i j (by simpa using l1) (by simpa using l2) z (by rw [List.getElem_map, List.getElem_map, g1, g2, e])).elim
  · exact z
  · exact (hp j i (by simpa using l2) (by simpa using l1) z (by rw [List.getElem_map, List.getElem_map, g1, g2, e])).elim
end Walk
section Start
variable {args : Array Value} {Z : State}
theorem exaOf {t : Term} {C : String} (h : (Jvm.Cond.exactly t C).value args Z none Z [] = some true) : ∃ a, t.eval args Z none [] Z = some (.ref a) ∧ Exa Z Z.heap a C := by
  obtain ⟨a, ha⟩ := exa_v h
  exact ⟨a, ha, Exa.start ha h⟩
theorem fldInt {t : Term} {C n d : String} {a : Addr} {k : Int32} (ha : t.eval args Z none [] Z = some (.ref a)) (h : (Jvm.Cond.eq (.field t C n d) (.int k)).value args Z none Z [] = some true) : Fld Z Z.heap a C n d (.int k) := by
  have e : (Term.field t C n d).eval args Z none [] Z = Z.fieldOf? a C n d := fld_at ha
  cases hf : Z.fieldOf? a C n d with
  | none => simp [Cond.value, e, hf] at h
  | some v =>
    have q : v = .int k := by cases v <;> simp [Cond.value, e, hf] at h <;> simp [Term.eval] at h; rw [h]
    exact q ▸ Fld.start hf
theorem subF {first s : State} {o : Option Outcome} {idx : List Nat} {a b : Term} {x y : Int32} (ha : a.eval args first o idx s = some (.int x)) (hb : b.eval args first o idx s = some (.int y)) : (Term.sub a b).eval args first o idx s = some (.int (x - y)) := by simp [Term.eval, ha, hb]
theorem fldV {t : Term} {C n d : String} {a : Addr} {v : Value} (ha : t.eval args Z none [] Z = some (.ref a)) (h : (Term.field t C n d).eval args Z none [] Z = some v) : Fld Z Z.heap a C n d v := Fld.start ((fld_at ha).symm.trans h)
theorem eqvR {X F : Term} {a : Addr} (hF : F.eval args Z none [] Z = some (.ref a)) (h : (Jvm.Cond.eq X F).value args Z none Z [] = some true) : X.eval args Z none [] Z = some (.ref a) := by
  cases hx : X.eval args Z none [] Z with
  | none => simp [Cond.value, hx] at h
  | some v => cases v <;> simp [Cond.value, hx, hF] at h <;> simp [h]
theorem exaNe {h : Heap} {a b : Addr} {C D : String} (A : Exa Z h a C) (B : Exa Z h b D) (hn : C ≠ D) : ¬ (Value.ref a = Value.ref b) := fun e => by
  cases e
  obtain ⟨c, k, e1, e2, e3, -⟩ := A
  obtain ⟨c', k', f1, f2, f3, -⟩ := B
  cases e1.symm.trans f1
  exact ids_ne e2 f2 hn rfl
theorem lenOfT {t : Term} {a : Addr} {cl : Cell} {k : Int32} (ht : t.eval args Z none [] Z = some (.ref a)) (ha : Z.arrayAt? a = some cl) (h : (Jvm.Cond.eq (.length t) (.int k)).value args Z none Z [] = some true) : cl.slots.size < 2 ^ 31 ∧ cl.slots.size.toInt32 = k := by
  have e := eqv_i (show (Term.int k).eval args Z none [] Z = some (.int k) from rfl) h
  by_cases hl : cl.slots.size < 2 ^ 31
  · exact ⟨hl, Value.int.inj (Option.some.inj ((len_f ht ha hl).symm.trans e))⟩
  · simp [Term.eval, ht, ha] at e; omega
theorem elemI {t : Term} {a : Addr} {cl : Cell} {j k : Int32} (ht : t.eval args Z none [] Z = some (.ref a)) (ha : Z.arrayAt? a = some cl) (hj : ¬ j < 0) (h : (Jvm.Cond.eq (.elem t (.int j)) (.int k)).value args Z none Z [] = some true) : cl.slots[j.toNatClampNeg]? = some (.int k) :=
  (elem_f (a := .int j) ht (show (Term.int j).eval args Z none [] Z = some (.int j) from rfl) ha hj).symm.trans (eqv_i (show (Term.int k).eval args Z none [] Z = some (.int k) from rfl) h)
theorem nsRoot {a0 : Array Value} {O K : String} {n : Nat} (w : (Jvm.Cond.noSuperclass O).before a0 Z = true) (wi : (Jvm.Cond.instantiable K n).before a0 Z = true) (hn : O ≠ K) : NS Z O K := by
  obtain ⟨c, k, h1, h2, h3, -, -⟩ := Cond.noSuperclass_spec w
  obtain ⟨t, kt, g1, -⟩ := Cond.instantiable_spec wi
  have ne := ids_ne h1 g1 hn
  refine ⟨c, t, h1, g1, fun fuel => ?_⟩
  cases fuel with
  | zero => rfl
  | succ f => simp [Vm.isSubclassAux, ne, h2, h3]
theorem nsNo {a0 : Array Value} {C S K : String} {n : Nat} (w : (Jvm.Cond.superclass C S).before a0 Z = true) (wi : (Jvm.Cond.instantiable K n).before a0 Z = true) (q : NS Z C K) (hn : C ≠ K) : ∃ c t, Z.vm.findClass C = some c ∧ Z.vm.findClass K = some t ∧ Z.vm.assignable c t = false := by
  obtain ⟨c, t, h0, g0, n3⟩ := q
  obtain ⟨p, k, kp, h1, h2, h3, h4, h5, -, h7⟩ := Cond.superclass_spec h0 w
  obtain ⟨t', kt, g1, g2, g3, g4, -⟩ := Cond.instantiable_spec wi
  cases g0.symm.trans g1
  have ne := ids_ne h0 g0 hn
  simp only [Bool.or_eq_false_iff] at g4
  refine ⟨c, t, h0, g0, ?_⟩
  show Z.vm.assignableAux (255 + 1) c t = false
  simp [Vm.assignableAux, ne, h2, g2, h5, g3, g4.1, Vm.isSubclass, n3]
end Start
end Jvm.Wk
namespace Jvm.Wk
open Sem ClassFile Op Lib Jvm.Stand Jvm.Free Jvm.LawKit Jvm.RoadKit
section Fl
variable {l : Launch} {Z : State} {hB : Heap} {y : MethodName} {bytes : ByteArray} {ml : Nat} {ret : Option FieldType} {R : Room} {n1 : Nat} {Q : Option Value → List Rec → Prop} {sl : Nat} {H H' : List Rec} {pc pc' : Nat} {Ls Ls' : Array Slot} {st : List Value} {a0 : Array Value}
theorem dloadN {k : Fin 4} {x : UInt64} (hd : decode bytes pc = .ok (.dload_n k, 1)) (hl : Ls[k.val]? = some (.val (.double x))) (hp : pc + 1 = pc') (hr : WP l Z hB y bytes ml ret R n1 Q sl H pc' Ls (.double x :: st)) : WP l Z hB y bytes ml ret R n1 Q sl H pc Ls st := by
  subst hp
  exact WP.step (fun p e s m args below meth c T locs cells slots C X P tgt h => XS.dloadN X.here C.1 rfl (hb C.2.2.1 hd) hl h) hr
theorem dload {k : Nat} {x : UInt64} (hd : decode bytes pc = .ok (.dload k, 2)) (hl : Ls[k]? = some (.val (.double x))) (hp : pc + 2 = pc') (hr : WP l Z hB y bytes ml ret R n1 Q sl H pc' Ls (.double x :: st)) : WP l Z hB y bytes ml ret R n1 Q sl H pc Ls st := by
  subst hp
  exact WP.step (fun p e s m args below meth c T locs cells slots C X P tgt h => XS.dload X.here C.1 rfl (hb C.2.2.1 hd) hl h) hr
theorem dstoreN {k : Fin 4} {x : UInt64} (hd : decode bytes pc = .ok (.dstore_n k, 1)) (hl : storeLocals Ls k.val (.double x) = some Ls') (hp : pc + 1 = pc') (hr : WP l Z hB y bytes ml ret R n1 Q sl H pc' Ls' st) : WP l Z hB y bytes ml ret R n1 Q sl H pc Ls (.double x :: st) := by
  subst hp
  exact WP.step (fun p e s m args below meth c T locs cells slots C X P tgt h => XS.dstoreN X.here C.1 rfl (hb C.2.2.1 hd) rfl hl h) hr
theorem dstore {k : Nat} {x : UInt64} (hd : decode bytes pc = .ok (.dstore k, 2)) (hl : storeLocals Ls k (.double x) = some Ls') (hp : pc + 2 = pc') (hr : WP l Z hB y bytes ml ret R n1 Q sl H pc' Ls' st) : WP l Z hB y bytes ml ret R n1 Q sl H pc Ls (.double x :: st) := by
  subst hp
  exact WP.step (fun p e s m args below meth c T locs cells slots C X P tgt h => XS.dstore X.here C.1 rfl (hb C.2.2.1 hd) rfl hl h) hr
theorem dconst0 (hd : decode bytes pc = .ok (.dconst 0, 1)) (hp : pc + 1 = pc') (hr : WP l Z hB y bytes ml ret R n1 Q sl H pc' Ls (.double 0 :: st)) : WP l Z hB y bytes ml ret R n1 Q sl H pc Ls st := by
  subst hp
  exact WP.step (fun p e s m args below meth c T locs cells slots C X P tgt h => XS.dconst0 X.here C.1 rfl (hb C.2.2.1 hd) rfl h) hr
theorem dconst1 (hd : decode bytes pc = .ok (.dconst 1, 1)) (hp : pc + 1 = pc') (hr : WP l Z hB y bytes ml ret R n1 Q sl H pc' Ls (.double 4607182418800017408 :: st)) : WP l Z hB y bytes ml ret R n1 Q sl H pc Ls st := by
  subst hp
  exact WP.step (fun p e s m args below meth c T locs cells slots C X P tgt h => XS.dconst1 X.here C.1 rfl (hb C.2.2.1 hd) rfl h) hr
theorem i2d {x : Int32} (hd : decode bytes pc = .ok (.i2d, 1)) (hp : pc + 1 = pc') (hr : WP l Z hB y bytes ml ret R n1 Q sl H pc' Ls (.double (FP.i2d x) :: st)) : WP l Z hB y bytes ml ret R n1 Q sl H pc Ls (.int x :: st) := by
  subst hp
  exact WP.step (fun p e s m args below meth c T locs cells slots C X P tgt h => XS.i2dS X.here C.1 rfl (hb C.2.2.1 hd) rfl rfl h) hr
theorem l2d {x : Int64} (hd : decode bytes pc = .ok (.l2d, 1)) (hp : pc + 1 = pc') (hr : WP l Z hB y bytes ml ret R n1 Q sl H pc' Ls (.double (FP.l2d x) :: st)) : WP l Z hB y bytes ml ret R n1 Q sl H pc Ls (.long x :: st) := by
  subst hp
  exact WP.step (fun p e s m args below meth c T locs cells slots C X P tgt h => XS.l2dS X.here C.1 rfl (hb C.2.2.1 hd) rfl rfl h) hr
theorem dneg {x : UInt64} (hd : decode bytes pc = .ok (.dneg, 1)) (hp : pc + 1 = pc') (hr : WP l Z hB y bytes ml ret R n1 Q sl H pc' Ls (.double (FP.dneg x) :: st)) : WP l Z hB y bytes ml ret R n1 Q sl H pc Ls (.double x :: st) := by
  subst hp
  exact WP.step (fun p e s m args below meth c T locs cells slots C X P tgt h => XS.dnegS X.here C.1 rfl (hb C.2.2.1 hd) rfl rfl h) hr
theorem dcmp {op : CmpOp} {x z : UInt64} {v : Int32} (hd : decode bytes pc = .ok (.dcmp op, 1)) (hv : cmpValue (FP.dcmp x z) op = v) (hp : pc + 1 = pc') (hr : WP l Z hB y bytes ml ret R n1 Q sl H pc' Ls (.int v :: st)) : WP l Z hB y bytes ml ret R n1 Q sl H pc Ls (.double z :: .double x :: st) := by
  subst hp
  exact WP.step (fun p e s m args below meth c T locs cells slots C X P tgt h => XS.dcmpS X.here C.1 rfl (hb C.2.2.1 hd) rfl hv h) hr
theorem dadd {x z v : UInt64} (hd : decode bytes pc = .ok (.dadd, 1)) (hn : Jvm.Free.Fl.NoNaN64 (FP.dadd x z)) (hv : FP.dadd x z = v) (hp : pc + 1 = pc') (hr : WP l Z hB y bytes ml ret R n1 Q sl H pc' Ls (.double v :: st)) : WP l Z hB y bytes ml ret R n1 Q sl H pc Ls (.double z :: .double x :: st) := by
  subst hp
  exact WP.step (fun p e s m args below meth c T locs cells slots C X P tgt h => XS.daddS X.here C.1 rfl (hb C.2.2.1 hd) rfl hn hv h) hr
theorem dsub {x z v : UInt64} (hd : decode bytes pc = .ok (.dsub, 1)) (hn : Jvm.Free.Fl.NoNaN64 (FP.dsub x z)) (hv : FP.dsub x z = v) (hp : pc + 1 = pc') (hr : WP l Z hB y bytes ml ret R n1 Q sl H pc' Ls (.double v :: st)) : WP l Z hB y bytes ml ret R n1 Q sl H pc Ls (.double z :: .double x :: st) := by
  subst hp
  exact WP.step (fun p e s m args below meth c T locs cells slots C X P tgt h => XS.dsubS X.here C.1 rfl (hb C.2.2.1 hd) rfl hn hv h) hr
theorem dmul {x z v : UInt64} (hd : decode bytes pc = .ok (.dmul, 1)) (hn : Jvm.Free.Fl.NoNaN64 (FP.dmul x z)) (hv : FP.dmul x z = v) (hp : pc + 1 = pc') (hr : WP l Z hB y bytes ml ret R n1 Q sl H pc' Ls (.double v :: st)) : WP l Z hB y bytes ml ret R n1 Q sl H pc Ls (.double z :: .double x :: st) := by
  subst hp
  exact WP.step (fun p e s m args below meth c T locs cells slots C X P tgt h => XS.dmulS X.here C.1 rfl (hb C.2.2.1 hd) rfl hn hv h) hr
theorem ddiv {x z v : UInt64} (hd : decode bytes pc = .ok (.ddiv, 1)) (hn : Jvm.Free.Fl.NoNaN64 (FP.ddiv x z)) (hv : FP.ddiv x z = v) (hp : pc + 1 = pc') (hr : WP l Z hB y bytes ml ret R n1 Q sl H pc' Ls (.double v :: st)) : WP l Z hB y bytes ml ret R n1 Q sl H pc Ls (.double z :: .double x :: st) := by
  subst hp
  exact WP.step (fun p e s m args below meth c T locs cells slots C X P tgt h => XS.ddivS X.here C.1 rfl (hb C.2.2.1 hd) rfl hn hv h) hr
theorem ldc2D {index : Nat} {x : UInt64} (hd : decode bytes pc = .ok (.ldc2_w index, 3)) (w : (Jvm.Cond.constantDouble y.cls index x).before a0 Z = true) (hp : pc + 3 = pc') (hr : WP l Z hB y bytes ml ret R n1 Q sl H pc' Ls (.double x :: st)) : WP l Z hB y bytes ml ret R n1 Q sl H pc Ls st := by
  subst hp
  exact WP.step (fun p e s m args below meth c T locs cells slots C X P tgt h => X.ldc2DoubleC C.1 C.2.2.2.2.1 (mvT C.2.1 w) (g := mkF m pc Ls st) rfl (hb C.2.2.1 hd) _ h) hr
theorem daload {i : Nat} {vs : List Value} {j : Int32} {v : Value} {jn : Nat} (hd : decode bytes pc = .ok (.daload, 1)) (hi : H[i]? = some (arr .double vs)) (h0 : ¬ j < 0) (hjn : j.toNatClampNeg = jn) (hv : vs[jn]? = some v) (hp : pc + 1 = pc') (hr : WP l Z hB y bytes ml ret R n1 Q sl H pc' Ls (v :: st)) : WP l Z hB y bytes ml ret R n1 Q sl H pc Ls (.int j :: rf hB i :: st) := by
  subst hp; subst hjn
  refine WP.step (fun p e s m args below meth c T locs cells slots C X P tgt h => ?_) hr
  obtain ⟨cl, h1, h2, -⟩ := P.at hi
  exact X.daload C.1 h1.1 (State.isArrayOf_alike C.2.1.alike h1.2.1) h1.2.2 (inb h2 h0 hv).1 (inb h2 h0 hv).2 (g := mkF m pc Ls (.int j :: rf hB i :: st)) rfl rfl (hb C.2.2.1 hd) _ h
theorem dastore {i : Nat} {vs : List Value} {j : Int32} {x : UInt64} {jn : Nat} (hd : decode bytes pc = .ok (.dastore, 1)) (hi : H[i]? = some (arr .double vs)) (h0 : ¬ j < 0) (hjn : j.toNatClampNeg = jn) (hlt : jn < vs.length) (hH : H.set i (arr .double (vs.set jn (.double x))) = H') (hp : pc + 1 = pc') (hr : WP l Z hB y bytes ml ret R n1 Q sl H' pc' Ls st) : WP l Z hB y bytes ml ret R n1 Q sl H pc Ls (.double x :: .int j :: rf hB i :: st) := by
  subst hp; subst hH; subst hjn
  refine WP.stepH (fun p e s m args below meth c T locs cells slots C X hz N P hs => ?_) hr
  obtain ⟨cl, h1, h2, -⟩ := P.at hi
  obtain ⟨T', h', X', e', W, k⟩ := stD X C.1 C.2.1 rfl h1 (inb h2 h0 (List.getElem?_eq_getElem hlt)).1 (g := mkF m pc Ls (.double x :: .int j :: rf hB i :: st)) rfl rfl (hb C.2.2.1 hd)
  exact ⟨T', _, _, _, X', Fr.snoc X' N (Nat.le_add_right _ _), by rw [e']; exact P.wrA hi rfl W, hs, k⟩
theorem dret {x : UInt64} (hd : decode bytes pc = .ok (.dreturn, 1)) (hret : ret = some .double) (hc : H.length ≤ n1 + R.cells) (hs : sl ≤ R.slots) (hQ : Q (some (.double x)) H) : WP l Z hB y bytes ml ret R n1 Q sl H pc Ls (.double x :: st) :=
  retV hd hret rfl (Or.inr (Or.inr (Or.inl ⟨rfl, rfl, _, rfl⟩))) hc hs hQ
end Fl
end Jvm.Wk
namespace Jvm.FP.Core.Wf
open Jvm.ClassFile (CmpOp)
open Jvm.Op (cmpValue)
section Div
theorem w_inUnits (c : Nat) (q e : Int) : inUnits c q e = c * 2 ^ (q - e).toNat := rfl
theorem dshape {a : UInt64} {n : Int} (ha : DInt n a) (hn : 0 < n) : ∃ c q, val64 a = .fin false c q ∧ b64.qmin ≤ q ∧ 0 < c ∧ c * 2 ^ (q - b64.qmin).toNat = n.toNat * one64 := by
  have hz := DInt_zval ha
  have hf := val64_fits a
  have ha : Whole n (val64 a) := ha
  cases hv : val64 a with
  | nan => rw [hv] at ha; exact ha.elim
  | inf s => rw [hv] at ha; exact ha.elim
  | fin s c q =>
    rw [hv] at ha hz hf
    have hs : s = false := by rw [whole_sign ha (by omega)]; simp; omega
    subst hs
    have hc : 0 < c := by have := whole_zero ha; omega
    refine ⟨c, q, rfl, hf.2.1, hc, ?_⟩
    have e : zval b64 (.fin false c q) = ((c * 2 ^ (q - b64.qmin).toNat : Nat) : Int) := rfl
    rw [e] at hz
    have e2 : n = (n.toNat : Int) := by omega
    rw [e2, ← Int.natCast_mul] at hz
    exact Int.ofNat.inj hz
theorem divU {a b : UInt64} {n d : Int} (ha : DInt n a) (hb : DInt d b) (hn : 0 < n) (hd : 0 < d) : ∃ (A B : Nat) (e e0 : Int) (k M : Nat), val64 (ddiv a b) = roundRatio b64 false A B e ∧ 0 < B ∧ e0 ≤ b64.qmin ∧ e0 ≤ e ∧ 0 < k ∧ 0 < M ∧ inUnits A e e0 * k = n.toNat * one64 * M ∧ ∀ z : Nat, z * 2 ^ (b64.qmin - e0).toNat * B * k = z * d.toNat * M := by
  obtain ⟨c, q, h1, h2, h3, h4⟩ := dshape ha hn
  obtain ⟨c', r, g1, g2, g3, g4⟩ := dshape hb hd
  have hq : val64 (ddiv a b) = roundRatio b64 false c c' (q - r) := by
    rw [val64_ddiv, h1, g1]
    show (if c' = 0 then _ else roundRatio b64 (false != false) c c' (q - r)) = _
    rw [if_neg (by omega)]; rfl
  have hm : b64.qmin = -1074 := qmin_b64
  have ho : 2 ^ (-b64.qmin).toNat = one64 := pow_qmin64
  refine ⟨c, c', q - r, min b64.qmin (q - r), 2 ^ (r - b64.qmin).toNat, one64 * 2 ^ (b64.qmin - min b64.qmin (q - r)).toNat, hq, g3, Int.min_le_left _ _, Int.min_le_right _ _, Nat.two_pow_pos _, Nat.mul_pos one64_pos (Nat.two_pow_pos _), ?_, fun z => ?_⟩
  · generalize he : min b64.qmin (q - r) = e0
    have e1 : e0 ≤ b64.qmin := he ▸ Int.min_le_left _ _
    have e2 : e0 ≤ q - r := he ▸ Int.min_le_right _ _
    rw [w_inUnits, Nat.mul_assoc, ← Nat.pow_add, show (q - r - e0).toNat + (r - b64.qmin).toNat = (q - b64.qmin).toNat + ((b64.qmin - e0).toNat + (-b64.qmin).toNat) by omega, Nat.pow_add, ← Nat.mul_assoc, h4, Nat.pow_add, ho, Nat.mul_comm (2 ^ (b64.qmin - e0).toNat) one64]
  · rw [Nat.mul_assoc _ c' _, g4]
    generalize 2 ^ (b64.qmin - min b64.qmin (q - r)).toNat = E
    generalize one64 = O
    ac_rfl
theorem div_sgn {a b : UInt64} {n d : Int} (ha : DInt n a) (hb : DInt d b) (hn : 0 < n) (hd : 0 < d) : sgn (val64 (ddiv a b)) = false ∧ val64 (ddiv a b) ≠ .nan := by
  obtain ⟨A, B, e, e0, k, M, h, -⟩ := divU ha hb hn hd
  rw [h]; exact ⟨sgn_roundRatio _ _ _ _ _, roundRatio_ne_nan _ _ _ _ _⟩
theorem div_ge {a b : UInt64} {n d : Int} {V : Datum} (ha : DInt n a) (hb : DInt d b) (hn : 0 < n) (hd : 0 < d) (hV : fits b64 V) (h : zmag b64 V * d.toNat ≤ n.toNat * one64) : zmag b64 V ≤ zmag b64 (val64 (ddiv a b)) := by
  obtain ⟨A, B, e, e0, k, M, h1, hB, h2, h3, hk, hM, h4, h5⟩ := divU ha hb hn hd
  rw [h1]
  refine zmag_roundRatio_ge good_b64 hB hV h2 h3 ?_
  refine Nat.le_of_mul_le_mul_right ?_ hk
  rw [h5, h4]
  exact Nat.mul_le_mul_right _ h
theorem div_le {a b : UInt64} {n d : Int} {V : Datum} (ha : DInt n a) (hb : DInt d b) (hn : 0 < n) (hd : 0 < d) (hV : fits b64 V) (hnn : V ≠ .nan) (h : n.toNat * one64 ≤ zmag b64 V * d.toNat) : zmag b64 (val64 (ddiv a b)) ≤ zmag b64 V := by
  obtain ⟨A, B, e, e0, k, M, h1, hB, h2, h3, hk, hM, h4, h5⟩ := divU ha hb hn hd
  rw [h1]
  refine zmag_roundRatio_le good_b64 hB hV hnn h2 h3 ?_
  refine Nat.le_of_mul_le_mul_right ?_ hk
  rw [h5, h4]
  exact Nat.mul_le_mul_right _ h
theorem pos_gt {x : UInt64} (h1 : sgn (val64 x) = false) (h2 : val64 x ≠ .nan) (h3 : 0 < zmag b64 (val64 x)) : dcmp x 0 = some .gt := by
  refine dcmp_gt.mpr ⟨h2, by rw [val64_zero]; exact Datum.noConfusion, ?_⟩
  rw [zval64_zero]
  show 0 < signed (sgn (val64 x)) (zmag b64 (val64 x))
  rw [h1]
  show (0 : Int) < ((zmag b64 (val64 x) : Nat) : Int)
  omega
end Div
end Jvm.FP.Core.Wf
namespace Jvm.Pilot.@@N@@
open Jvm Jvm.ClassFile Sem Op Lib Jvm.Free Jvm.Stand Jvm.LawKit Jvm.RoadKit Bundle Jvm.Pilot.@@N@@.Jvm.D
open Jvm.Wk (obj arr ints longs rf Rec Key kslot RecAt Hp WP Ctr gsE gsN gaL gaR distK)
theorem pn_0 : plainFor ({ cls := "com/example/particlade/particlade/K2PModel", name := "<init>", desc := "(D)V" } : Jvm.MethodName) = true := by first | decide +kernel | exact plainFor_of_name (by first | (simp [plainName, overriddenIn]; done) | decide +kernel)
theorem pn_1 : plainFor ({ cls := "com/example/particlade/particlade/K2PModel", name := "frequencies", desc := "()[D" } : Jvm.MethodName) = true := by first | decide +kernel | exact plainFor_of_name (by first | (simp [plainName, overriddenIn]; done) | decide +kernel)
theorem pn_2 : plainFor ({ cls := "com/example/particlade/particlade/K2PModelFrequenciesPinLaw", name := "allQuarters", desc := "([D)Z" } : Jvm.MethodName) = true := by first | decide +kernel | exact plainFor_of_name (by first | (simp [plainName, overriddenIn]; done) | decide +kernel)
theorem pn_3 : plainFor ({ cls := "com/example/particlade/particlade/K2PModelFrequenciesPinLaw", name := "law", desc := "(III)Z" } : Jvm.MethodName) = true := by first | decide +kernel | exact plainFor_of_name (by first | (simp [plainName, overriddenIn]; done) | decide +kernel)
theorem pd_0 : parseMethodDescriptor "(D)V" = some ⟨[.double], none⟩ := by decide +kernel
theorem pd_1 : parseMethodDescriptor "()[D" = some ⟨[], some (.array .double)⟩ := by decide +kernel
theorem pd_2 : parseMethodDescriptor "([D)Z" = some ⟨[(.array .double)], some .boolean⟩ := by decide +kernel
theorem d0_0 : decode prog_7_method_1_code 0 = .ok (.aload_n 0, 1) := by decide +kernel
theorem d0_1 : decode prog_7_method_1_code 1 = .ok (.invokespecial 1, 3) := by decide +kernel
theorem d0_4 : decode prog_7_method_1_code 4 = .ok (.dload_n 1, 1) := by decide +kernel
theorem d0_5 : decode prog_7_method_1_code 5 = .ok (.dconst 0, 1) := by decide +kernel
theorem d0_6 : decode prog_7_method_1_code 6 = .ok (.dcmp .l, 1) := by decide +kernel
theorem d0_7 : decode prog_7_method_1_code 7 = .ok (.ifCond .le 11, 3) := by decide +kernel
theorem d0_10 : decode prog_7_method_1_code 10 = .ok (.dload_n 1, 1) := by decide +kernel
theorem d0_11 : decode prog_7_method_1_code 11 = .ok (.ldc2_w 9, 3) := by decide +kernel
theorem d0_14 : decode prog_7_method_1_code 14 = .ok (.dcmp .g, 1) := by decide +kernel
theorem d0_15 : decode prog_7_method_1_code 15 = .ok (.ifCond .lt 17, 3) := by decide +kernel
theorem d0_32 : decode prog_7_method_1_code 32 = .ok (.aload_n 0, 1) := by decide +kernel
theorem d0_33 : decode prog_7_method_1_code 33 = .ok (.dload_n 1, 1) := by decide +kernel
theorem d0_34 : decode prog_7_method_1_code 34 = .ok (.putfield 20, 3) := by decide +kernel
theorem d0_37 : decode prog_7_method_1_code 37 = .ok (.return_, 1) := by decide +kernel
theorem d2_0 : decode prog_7_method_4_code 0 = .ok (.iconst 4, 1) := by decide +kernel
theorem d2_1 : decode prog_7_method_4_code 1 = .ok (.newarray .double, 2) := by decide +kernel
theorem d2_3 : decode prog_7_method_4_code 3 = .ok (.dup, 1) := by decide +kernel
theorem d2_4 : decode prog_7_method_4_code 4 = .ok (.iconst 0, 1) := by decide +kernel
theorem d2_5 : decode prog_7_method_4_code 5 = .ok (.ldc2_w 29, 3) := by decide +kernel
theorem d2_8 : decode prog_7_method_4_code 8 = .ok (.dastore, 1) := by decide +kernel
theorem d2_9 : decode prog_7_method_4_code 9 = .ok (.dup, 1) := by decide +kernel
theorem d2_10 : decode prog_7_method_4_code 10 = .ok (.iconst 1, 1) := by decide +kernel
theorem d2_11 : decode prog_7_method_4_code 11 = .ok (.ldc2_w 29, 3) := by decide +kernel
theorem d2_14 : decode prog_7_method_4_code 14 = .ok (.dastore, 1) := by decide +kernel
theorem d2_15 : decode prog_7_method_4_code 15 = .ok (.dup, 1) := by decide +kernel
theorem d2_16 : decode prog_7_method_4_code 16 = .ok (.iconst 2, 1) := by decide +kernel
theorem d2_17 : decode prog_7_method_4_code 17 = .ok (.ldc2_w 29, 3) := by decide +kernel
theorem d2_20 : decode prog_7_method_4_code 20 = .ok (.dastore, 1) := by decide +kernel
theorem d2_21 : decode prog_7_method_4_code 21 = .ok (.dup, 1) := by decide +kernel
theorem d2_22 : decode prog_7_method_4_code 22 = .ok (.iconst 3, 1) := by decide +kernel
theorem d2_23 : decode prog_7_method_4_code 23 = .ok (.ldc2_w 29, 3) := by decide +kernel
theorem d2_26 : decode prog_7_method_4_code 26 = .ok (.dastore, 1) := by decide +kernel
theorem d2_27 : decode prog_7_method_4_code 27 = .ok (.areturn, 1) := by decide +kernel
theorem d3_0 : decode method_3_code 0 = .ok (.aload_n 0, 1) := by decide +kernel
theorem d3_1 : decode method_3_code 1 = .ok (.ifnull 9, 3) := by decide +kernel
theorem d3_4 : decode method_3_code 4 = .ok (.aload_n 0, 1) := by decide +kernel
theorem d3_5 : decode method_3_code 5 = .ok (.arraylength, 1) := by decide +kernel
theorem d3_6 : decode method_3_code 6 = .ok (.iconst 4, 1) := by decide +kernel
theorem d3_7 : decode method_3_code 7 = .ok (.if_icmp .eq 5, 3) := by decide +kernel
theorem d3_12 : decode method_3_code 12 = .ok (.aload_n 0, 1) := by decide +kernel
theorem d3_13 : decode method_3_code 13 = .ok (.iconst 0, 1) := by decide +kernel
theorem d3_14 : decode method_3_code 14 = .ok (.daload, 1) := by decide +kernel
theorem d3_15 : decode method_3_code 15 = .ok (.ldc2_w 26, 3) := by decide +kernel
theorem d3_18 : decode method_3_code 18 = .ok (.dcmp .l, 1) := by decide +kernel
theorem d3_19 : decode method_3_code 19 = .ok (.ifCond .ne 57, 3) := by decide +kernel
theorem d3_22 : decode method_3_code 22 = .ok (.aload_n 0, 1) := by decide +kernel
theorem d3_23 : decode method_3_code 23 = .ok (.iconst 1, 1) := by decide +kernel
theorem d3_24 : decode method_3_code 24 = .ok (.daload, 1) := by decide +kernel
theorem d3_25 : decode method_3_code 25 = .ok (.ldc2_w 26, 3) := by decide +kernel
theorem d3_28 : decode method_3_code 28 = .ok (.dcmp .l, 1) := by decide +kernel
theorem d3_29 : decode method_3_code 29 = .ok (.ifCond .ne 47, 3) := by decide +kernel
theorem d3_32 : decode method_3_code 32 = .ok (.aload_n 0, 1) := by decide +kernel
theorem d3_33 : decode method_3_code 33 = .ok (.iconst 2, 1) := by decide +kernel
theorem d3_34 : decode method_3_code 34 = .ok (.daload, 1) := by decide +kernel
theorem d3_35 : decode method_3_code 35 = .ok (.ldc2_w 26, 3) := by decide +kernel
theorem d3_38 : decode method_3_code 38 = .ok (.dcmp .l, 1) := by decide +kernel
theorem d3_39 : decode method_3_code 39 = .ok (.ifCond .ne 37, 3) := by decide +kernel
theorem d3_42 : decode method_3_code 42 = .ok (.aload_n 0, 1) := by decide +kernel
theorem d3_43 : decode method_3_code 43 = .ok (.iconst 3, 1) := by decide +kernel
theorem d3_44 : decode method_3_code 44 = .ok (.daload, 1) := by decide +kernel
theorem d3_45 : decode method_3_code 45 = .ok (.ldc2_w 26, 3) := by decide +kernel
theorem d3_48 : decode method_3_code 48 = .ok (.dcmp .l, 1) := by decide +kernel
theorem d3_49 : decode method_3_code 49 = .ok (.ifCond .ne 27, 3) := by decide +kernel
theorem d3_52 : decode method_3_code 52 = .ok (.aload_n 0, 1) := by decide +kernel
theorem d3_53 : decode method_3_code 53 = .ok (.iconst 0, 1) := by decide +kernel
theorem d3_54 : decode method_3_code 54 = .ok (.daload, 1) := by decide +kernel
theorem d3_55 : decode method_3_code 55 = .ok (.aload_n 0, 1) := by decide +kernel
theorem d3_56 : decode method_3_code 56 = .ok (.iconst 1, 1) := by decide +kernel
theorem d3_57 : decode method_3_code 57 = .ok (.daload, 1) := by decide +kernel
theorem d3_58 : decode method_3_code 58 = .ok (.dadd, 1) := by decide +kernel
theorem d3_59 : decode method_3_code 59 = .ok (.aload_n 0, 1) := by decide +kernel
theorem d3_60 : decode method_3_code 60 = .ok (.iconst 2, 1) := by decide +kernel
theorem d3_61 : decode method_3_code 61 = .ok (.daload, 1) := by decide +kernel
theorem d3_62 : decode method_3_code 62 = .ok (.dadd, 1) := by decide +kernel
theorem d3_63 : decode method_3_code 63 = .ok (.aload_n 0, 1) := by decide +kernel
theorem d3_64 : decode method_3_code 64 = .ok (.iconst 3, 1) := by decide +kernel
theorem d3_65 : decode method_3_code 65 = .ok (.daload, 1) := by decide +kernel
theorem d3_66 : decode method_3_code 66 = .ok (.dadd, 1) := by decide +kernel
theorem d3_67 : decode method_3_code 67 = .ok (.dconst 1, 1) := by decide +kernel
theorem d3_68 : decode method_3_code 68 = .ok (.dcmp .l, 1) := by decide +kernel
theorem d3_69 : decode method_3_code 69 = .ok (.ifCond .ne 7, 3) := by decide +kernel
theorem d3_72 : decode method_3_code 72 = .ok (.iconst 1, 1) := by decide +kernel
theorem d3_73 : decode method_3_code 73 = .ok (.goto 4, 3) := by decide +kernel
theorem d3_77 : decode method_3_code 77 = .ok (.ireturn, 1) := by decide +kernel
theorem wd0 {a0 : Array Value} {Z : State} (hw : ∀ d ∈ tables_1, d.before a0 Z = true) : ((Jvm.Cond.constant "com/example/particlade/particlade/K2PModelFrequenciesPinLaw" (7 : Nat) (1048575 : Int32)) : Jvm.Cond).before a0 Z = true := hw _ (List.mem_of_getElem? (i := 0) rfl)
theorem wd1 {a0 : Array Value} {Z : State} (hw : ∀ d ∈ tables_1, d.before a0 Z = true) : ((Jvm.Cond.constantDouble "com/example/particlade/particlade/K2PModelFrequenciesPinLaw" (8 : Nat) (4634204016564240384 : UInt64)) : Jvm.Cond).before a0 Z = true := hw _ (List.mem_of_getElem? (i := 1) rfl)
theorem wd2 {a0 : Array Value} {Z : State} (hw : ∀ d ∈ tables_1, d.before a0 Z = true) : ((Jvm.Cond.classLink "com/example/particlade/particlade/K2PModelFrequenciesPinLaw" (10 : Nat) "com/example/particlade/particlade/K2PModel") : Jvm.Cond).before a0 Z = true := hw _ (List.mem_of_getElem? (i := 2) rfl)
theorem wd3 {a0 : Array Value} {Z : State} (hw : ∀ d ∈ tables_1, d.before a0 Z = true) : ((Jvm.Cond.instantiable "com/example/particlade/particlade/K2PModel" (1 : Nat)) : Jvm.Cond).before a0 Z = true := hw _ (List.mem_of_getElem? (i := 3) rfl)
theorem wd4 {a0 : Array Value} {Z : State} (hw : ∀ d ∈ tables_1, d.before a0 Z = true) : ((Jvm.Cond.initialized "com/example/particlade/particlade/K2PModel") : Jvm.Cond).before a0 Z = true := hw _ (List.mem_of_getElem? (i := 4) rfl)
theorem wd5 {a0 : Array Value} {Z : State} (hw : ∀ d ∈ tables_1, d.before a0 Z = true) : ((Jvm.Cond.methodLink "com/example/particlade/particlade/K2PModelFrequenciesPinLaw" (12 : Nat) ({ cls := "com/example/particlade/particlade/K2PModel", name := "<init>", desc := "(D)V" } : Jvm.MethodName)) : Jvm.Cond).before a0 Z = true := hw _ (List.mem_of_getElem? (i := 5) rfl)
theorem wd6 {a0 : Array Value} {Z : State} (hw : ∀ d ∈ tables_1, d.before a0 Z = true) : ((Jvm.Cond.instanceMethod ({ cls := "com/example/particlade/particlade/K2PModel", name := "<init>", desc := "(D)V" } : Jvm.MethodName)) : Jvm.Cond).before a0 Z = true := hw _ (List.mem_of_getElem? (i := 6) rfl)
theorem wd7 {a0 : Array Value} {Z : State} (hw : ∀ d ∈ tables_1, d.before a0 Z = true) : ((Jvm.Cond.code ({ cls := "com/example/particlade/particlade/K2PModel", name := "<init>", desc := "(D)V" } : Jvm.MethodName) prog_7_method_1_code (3 : Nat) (Option.none : Option Jvm.ClassFile.FieldType)) : Jvm.Cond).before a0 Z = true := hw _ (List.mem_of_getElem? (i := 7) rfl)
theorem wd8 {a0 : Array Value} {Z : State} (hw : ∀ d ∈ tables_1, d.before a0 Z = true) : ((Jvm.Cond.methodLink "com/example/particlade/particlade/K2PModel" (1 : Nat) ({ cls := "java/lang/Object", name := "<init>", desc := "()V" } : Jvm.MethodName)) : Jvm.Cond).before a0 Z = true := hw _ (List.mem_of_getElem? (i := 8) rfl)
theorem wd9 {a0 : Array Value} {Z : State} (hw : ∀ d ∈ tables_1, d.before a0 Z = true) : ((Jvm.Cond.instanceMethod ({ cls := "java/lang/Object", name := "<init>", desc := "()V" } : Jvm.MethodName)) : Jvm.Cond).before a0 Z = true := hw _ (List.mem_of_getElem? (i := 9) rfl)
theorem wd10 {a0 : Array Value} {Z : State} (hw : ∀ d ∈ tables_1, d.before a0 Z = true) : ((Jvm.Cond.code ({ cls := "java/lang/Object", name := "<init>", desc := "()V" } : Jvm.MethodName) object_method_1_code (1 : Nat) (Option.none : Option Jvm.ClassFile.FieldType)) : Jvm.Cond).before a0 Z = true := hw _ (List.mem_of_getElem? (i := 10) rfl)
theorem wd11 {a0 : Array Value} {Z : State} (hw : ∀ d ∈ tables_1, d.before a0 Z = true) : ((Jvm.Cond.constantDouble "com/example/particlade/particlade/K2PModel" (9 : Nat) (9218868437227405312 : UInt64)) : Jvm.Cond).before a0 Z = true := hw _ (List.mem_of_getElem? (i := 11) rfl)
theorem wd12 {a0 : Array Value} {Z : State} (hw : ∀ d ∈ tables_1, d.before a0 Z = true) : ((Jvm.Cond.fieldLink "com/example/particlade/particlade/K2PModel" (20 : Nat) "com/example/particlade/particlade/K2PModel" "kappa" "D") : Jvm.Cond).before a0 Z = true := hw _ (List.mem_of_getElem? (i := 12) rfl)
theorem wd13 {a0 : Array Value} {Z : State} (hw : ∀ d ∈ tables_1, d.before a0 Z = true) : ((Jvm.Cond.laysFinal "com/example/particlade/particlade/K2PModel" "com/example/particlade/particlade/K2PModel" "kappa" "D") : Jvm.Cond).before a0 Z = true := hw _ (List.mem_of_getElem? (i := 13) rfl)
theorem wd14 {a0 : Array Value} {Z : State} (hw : ∀ d ∈ tables_1, d.before a0 Z = true) : ((Jvm.Cond.methodLink "com/example/particlade/particlade/K2PModelFrequenciesPinLaw" (15 : Nat) ({ cls := "com/example/particlade/particlade/K2PModel", name := "frequencies", desc := "()[D" } : Jvm.MethodName)) : Jvm.Cond).before a0 Z = true := hw _ (List.mem_of_getElem? (i := 14) rfl)
theorem wd15 {a0 : Array Value} {Z : State} (hw : ∀ d ∈ tables_1, d.before a0 Z = true) : ((Jvm.Cond.declares ({ cls := "com/example/particlade/particlade/K2PModel", name := "frequencies", desc := "()[D" } : Jvm.MethodName)) : Jvm.Cond).before a0 Z = true := hw _ (List.mem_of_getElem? (i := 15) rfl)
theorem wd16 {a0 : Array Value} {Z : State} (hw : ∀ d ∈ tables_1, d.before a0 Z = true) : ((Jvm.Cond.instanceMethod ({ cls := "com/example/particlade/particlade/K2PModel", name := "frequencies", desc := "()[D" } : Jvm.MethodName)) : Jvm.Cond).before a0 Z = true := hw _ (List.mem_of_getElem? (i := 16) rfl)
theorem wd17 {a0 : Array Value} {Z : State} (hw : ∀ d ∈ tables_1, d.before a0 Z = true) : ((Jvm.Cond.selects "com/example/particlade/particlade/K2PModel" ({ cls := "com/example/particlade/particlade/K2PModel", name := "frequencies", desc := "()[D" } : Jvm.MethodName) ({ cls := "com/example/particlade/particlade/K2PModel", name := "frequencies", desc := "()[D" } : Jvm.MethodName)) : Jvm.Cond).before a0 Z = true := hw _ (List.mem_of_getElem? (i := 17) rfl)
theorem wd18 {a0 : Array Value} {Z : State} (hw : ∀ d ∈ tables_1, d.before a0 Z = true) : ((Jvm.Cond.code ({ cls := "com/example/particlade/particlade/K2PModel", name := "frequencies", desc := "()[D" } : Jvm.MethodName) prog_7_method_4_code (1 : Nat) (Option.some (Jvm.ClassFile.FieldType.array Jvm.ClassFile.FieldType.double))) : Jvm.Cond).before a0 Z = true := hw _ (List.mem_of_getElem? (i := 18) rfl)
theorem wd19 {a0 : Array Value} {Z : State} (hw : ∀ d ∈ tables_1, d.before a0 Z = true) : ((Jvm.Cond.arrayClass Jvm.ClassFile.FieldType.double) : Jvm.Cond).before a0 Z = true := hw _ (List.mem_of_getElem? (i := 19) rfl)
theorem wd20 {a0 : Array Value} {Z : State} (hw : ∀ d ∈ tables_1, d.before a0 Z = true) : ((Jvm.Cond.constantDouble "com/example/particlade/particlade/K2PModel" (29 : Nat) (4598175219545276416 : UInt64)) : Jvm.Cond).before a0 Z = true := hw _ (List.mem_of_getElem? (i := 20) rfl)
theorem wd21 {a0 : Array Value} {Z : State} (hw : ∀ d ∈ tables_1, d.before a0 Z = true) : ((Jvm.Cond.methodLink "com/example/particlade/particlade/K2PModelFrequenciesPinLaw" (19 : Nat) ({ cls := "com/example/particlade/particlade/K2PModelFrequenciesPinLaw", name := "allQuarters", desc := "([D)Z" } : Jvm.MethodName)) : Jvm.Cond).before a0 Z = true := hw _ (List.mem_of_getElem? (i := 21) rfl)
theorem wd22 {a0 : Array Value} {Z : State} (hw : ∀ d ∈ tables_1, d.before a0 Z = true) : ((Jvm.Cond.static ({ cls := "com/example/particlade/particlade/K2PModelFrequenciesPinLaw", name := "allQuarters", desc := "([D)Z" } : Jvm.MethodName)) : Jvm.Cond).before a0 Z = true := hw _ (List.mem_of_getElem? (i := 22) rfl)
theorem wd23 {a0 : Array Value} {Z : State} (hw : ∀ d ∈ tables_1, d.before a0 Z = true) : ((Jvm.Cond.initialized "com/example/particlade/particlade/K2PModelFrequenciesPinLaw") : Jvm.Cond).before a0 Z = true := hw _ (List.mem_of_getElem? (i := 23) rfl)
theorem wd24 {a0 : Array Value} {Z : State} (hw : ∀ d ∈ tables_1, d.before a0 Z = true) : ((Jvm.Cond.code ({ cls := "com/example/particlade/particlade/K2PModelFrequenciesPinLaw", name := "allQuarters", desc := "([D)Z" } : Jvm.MethodName) method_3_code (1 : Nat) (Option.some Jvm.ClassFile.FieldType.boolean)) : Jvm.Cond).before a0 Z = true := hw _ (List.mem_of_getElem? (i := 24) rfl)
theorem wd25 {a0 : Array Value} {Z : State} (hw : ∀ d ∈ tables_1, d.before a0 Z = true) : ((Jvm.Cond.constantDouble "com/example/particlade/particlade/K2PModelFrequenciesPinLaw" (26 : Nat) (4598175219545276416 : UInt64)) : Jvm.Cond).before a0 Z = true := hw _ (List.mem_of_getElem? (i := 25) rfl)
theorem wd26 {a0 : Array Value} {Z : State} (hw : ∀ d ∈ tables_1, d.before a0 Z = true) : ((Jvm.Cond.constant "com/example/particlade/particlade/K2PModelFrequenciesPinLaw" (25 : Nat) (65535 : Int32)) : Jvm.Cond).before a0 Z = true := hw _ (List.mem_of_getElem? (i := 26) rfl)
abbrev ksK : List Key := [("com/example/particlade/particlade/K2PModel", "kappa", "D")]
theorem ksK_laidk {a0 : Array Value} {Z : State} (hw : ∀ d ∈ tables_1, d.before a0 Z = true) : ∀ (i : Nat) (k : Key), ksK[i]? = some k → Laid Z a0 "com/example/particlade/particlade/K2PModel" k.1 k.2.1 k.2.2
  | 0, _, rfl => (Or.inr (wd13 hw))
  | i + 1, k, h => by simp at h
theorem ksK_laid {a0 : Array Value} {Z : State} (hw : ∀ d ∈ tables_1, d.before a0 Z = true) : ∀ (i : Nat) (k : Key) (v : Value), ksK[i]? = some k → ([(.double (0 : UInt64))] : List Value)[i]? = some v → Laid Z a0 "com/example/particlade/particlade/K2PModel" k.1 k.2.1 k.2.2 ∧ ∃ ty, parseFieldDescriptor k.2.2 = some ty ∧ v = defaultValue ty
  | 0, _, _, rfl, rfl => ⟨ksK_laidk hw 0 _ rfl, .double, by decide, rfl⟩
  | i + 1, k, v, h, _ => by simp at h
theorem ksK_dist {a0 : Array Value} {Z : State} (hw : ∀ d ∈ tables_1, d.before a0 Z = true) (i j : Nat) (k k' : Key) (h1 : ksK[i]? = some k) (h2 : ksK[j]? = some k') (hne : i ≠ j) : kslot Z k ≠ kslot Z k' :=
  distK (C := "com/example/particlade/particlade/K2PModel") (ksK_laidk hw) (by decide) (by decide) i j k k' h1 h2 hne
set_option maxRecDepth 65536 in
set_option maxHeartbeats 40000000 in
theorem m_init (l : Launch) (Z : State) (a0 : Array Value) (hw : ∀ d ∈ tables_1, d.before a0 Z = true) (hB : Heap) (x : UInt64) (h0 : cmpValue (FP.dcmp x 0) .l = 1) (h1 : cmpValue (FP.dcmp x (9218868437227405312 : UInt64)) .g = -1) : Ctr l Z hB ({ cls := "com/example/particlade/particlade/K2PModel", name := "<init>", desc := "(D)V" } : Jvm.MethodName) prog_7_method_1_code 3 none [] ({ frames := 1, cells := 0, slots := 0, locals := 12 } : Room) #[(rf hB 0), (.double x)] [obj "com/example/particlade/particlade/K2PModel" ksK [(.double (0 : UInt64))]] (fun v H' => v = none ∧ H' = [obj "com/example/particlade/particlade/K2PModel" ksK [(.double x)]]) := by
  refine Wk.ctr pn_0 (Ls := #[.val (rf hB 0), .val (.double x), .second]) (fun m => by first | rfl | (simp [entryFrame, mkF, argsToLocals, Value.category]; done)) ?_
  refine Wk.aloadN (pc' := 1) d0_0 rfl rfl rfl ?_
  refine Wk.initObj (pc' := 4) d0_1 (wd8 hw) (wd9 hw) (wd10 hw) rfl (Nat.le_of_ble_eq_true rfl) (Nat.le_of_ble_eq_true rfl) rfl ?_
  refine Wk.dloadN (pc' := 5) d0_4 rfl rfl ?_
  refine Wk.dconst0 (pc' := 6) d0_5 rfl ?_
  refine Wk.dcmp (pc' := 7) (v := (1 : Int32)) d0_6 h0 rfl ?_
  refine Wk.ifN (pc' := 10) d0_7 (XT.i0_le_f (by decide)) rfl ?_
  refine Wk.dloadN (pc' := 11) d0_10 rfl rfl ?_
  refine Wk.ldc2D (pc' := 14) d0_11 (wd11 hw) rfl ?_
  refine Wk.dcmp (pc' := 15) (v := (-1 : Int32)) d0_14 h1 rfl ?_
  refine Wk.ifY (pc' := 32) d0_15 (XT.i0_lt_t (by decide)) (by decide) (by decide) ?_
  refine Wk.aloadN (pc' := 33) d0_32 rfl rfl rfl ?_
  refine Wk.dloadN (pc' := 34) d0_33 rfl rfl ?_
  refine Wk.putF0 (pc' := 37) (i := 0) (j := 0) (H' := [obj "com/example/particlade/particlade/K2PModel" ksK [(.double x)]]) (ty := .double) d0_34 (wd12 hw) rfl rfl (Nat.le_of_ble_eq_true rfl) (Or.inr ⟨(wd13 hw), rfl, rfl⟩) (wd3 hw) (by decide) rfl rfl rfl rfl ?_
  exact Wk.vret d0_37 rfl (Nat.le_of_ble_eq_true rfl) (Nat.le_of_ble_eq_true rfl) ⟨rfl, rfl⟩
set_option maxRecDepth 65536 in
set_option maxHeartbeats 40000000 in
theorem m_freq (l : Launch) (Z : State) (a0 : Array Value) (hw : ∀ d ∈ tables_1, d.before a0 Z = true) (hB : Heap) (H : List Rec) (i : Nat) : Ctr l Z hB ({ cls := "com/example/particlade/particlade/K2PModel", name := "frequencies", desc := "()[D" } : Jvm.MethodName) prog_7_method_4_code 1 (some (.array .double)) [] ({ frames := 0, cells := 1, slots := 4, locals := 0 } : Room) #[(rf hB i)] H (fun v H' => v = some (rf hB (H.length + 0)) ∧ H' = (H ++ [arr .double [(.double (4598175219545276416 : UInt64)), (.double (4598175219545276416 : UInt64)), (.double (4598175219545276416 : UInt64)), (.double (4598175219545276416 : UInt64))]])) := by
  refine Wk.ctr pn_1 (Ls := #[.val (rf hB i)]) (fun m => by first | rfl | (simp [entryFrame, mkF, argsToLocals, Value.category]; done)) ?_
  refine Wk.iconst (pc' := 1) (4 : Int32) d2_0 (by decide) rfl ?_
  refine Wk.newArr (pc' := 3) (i := (H.length + 0)) (nn := 4) (H' := (H ++ [arr .double [(.double (0 : UInt64)), (.double (0 : UInt64)), (.double (0 : UInt64)), (.double (0 : UInt64))]])) d2_1 (wd19 hw) (by decide) (by decide) (by omega) rfl ⟨(by intro C; simp [newarray.typeOf]), (by intro C; simp [newarray.typeOf])⟩ (by first | (simp only [List.length_append, List.length_cons, List.length_nil] <;> omega) | (simp <;> omega) | simp) (Nat.le_of_ble_eq_true rfl) rfl (by simp) rfl ?_
  refine Wk.dup (pc' := 4) d2_3 rfl rfl ?_
  refine Wk.iconst (pc' := 5) (0 : Int32) d2_4 (by decide) rfl ?_
  refine Wk.ldc2D (pc' := 8) d2_5 (wd20 hw) rfl ?_
  refine Wk.dastore (pc' := 9) (i := (H.length + 0)) (jn := 0) (H' := (H ++ [arr .double [(.double (4598175219545276416 : UInt64)), (.double (0 : UInt64)), (.double (0 : UInt64)), (.double (0 : UInt64))]])) d2_8 (Wk.gaB rfl) (by decide) (by decide) (Nat.le_of_ble_eq_true rfl) Wk.saB rfl ?_
  refine Wk.dup (pc' := 10) d2_9 rfl rfl ?_
  refine Wk.iconst (pc' := 11) (1 : Int32) d2_10 (by decide) rfl ?_
  refine Wk.ldc2D (pc' := 14) d2_11 (wd20 hw) rfl ?_
  refine Wk.dastore (pc' := 15) (i := (H.length + 0)) (jn := 1) (H' := (H ++ [arr .double [(.double (4598175219545276416 : UInt64)), (.double (4598175219545276416 : UInt64)), (.double (0 : UInt64)), (.double (0 : UInt64))]])) d2_14 (Wk.gaB rfl) (by decide) (by decide) (Nat.le_of_ble_eq_true rfl) Wk.saB rfl ?_
  refine Wk.dup (pc' := 16) d2_15 rfl rfl ?_
  refine Wk.iconst (pc' := 17) (2 : Int32) d2_16 (by decide) rfl ?_
  refine Wk.ldc2D (pc' := 20) d2_17 (wd20 hw) rfl ?_
  refine Wk.dastore (pc' := 21) (i := (H.length + 0)) (jn := 2) (H' := (H ++ [arr .double [(.double (4598175219545276416 : UInt64)), (.double (4598175219545276416 : UInt64)), (.double (4598175219545276416 : UInt64)), (.double (0 : UInt64))]])) d2_20 (Wk.gaB rfl) (by decide) (by decide) (Nat.le_of_ble_eq_true rfl) Wk.saB rfl ?_
  refine Wk.dup (pc' := 22) d2_21 rfl rfl ?_
  refine Wk.iconst (pc' := 23) (3 : Int32) d2_22 (by decide) rfl ?_
  refine Wk.ldc2D (pc' := 26) d2_23 (wd20 hw) rfl ?_
  refine Wk.dastore (pc' := 27) (i := (H.length + 0)) (jn := 3) (H' := (H ++ [arr .double [(.double (4598175219545276416 : UInt64)), (.double (4598175219545276416 : UInt64)), (.double (4598175219545276416 : UInt64)), (.double (4598175219545276416 : UInt64))]])) d2_26 (Wk.gaB rfl) (by decide) (by decide) (Nat.le_of_ble_eq_true rfl) Wk.saB rfl ?_
  exact Wk.aret (t := (.array .double)) d2_27 rfl rfl rfl (by first | (simp only [List.length_append, List.length_cons, List.length_nil] <;> omega) | (simp <;> omega) | simp) (Nat.le_of_ble_eq_true rfl) ⟨rfl, rfl⟩
set_option maxRecDepth 65536 in
set_option maxHeartbeats 40000000 in
theorem m_allq (l : Launch) (Z : State) (a0 : Array Value) (hw : ∀ d ∈ tables_1, d.before a0 Z = true) (hB : Heap) (H : List Rec) (i : Nat) (hi : H[i]? = some (arr .double [(.double (4598175219545276416 : UInt64)), (.double (4598175219545276416 : UInt64)), (.double (4598175219545276416 : UInt64)), (.double (4598175219545276416 : UInt64))])) : Ctr l Z hB ({ cls := "com/example/particlade/particlade/K2PModelFrequenciesPinLaw", name := "allQuarters", desc := "([D)Z" } : Jvm.MethodName) method_3_code 1 (some .boolean) [] ({ frames := 0, cells := 0, slots := 0, locals := 0 } : Room) #[(rf hB i)] H (fun v H' => v = some (.int 1) ∧ H' = H) := by
  refine Wk.ctr pn_2 (Ls := #[.val (rf hB i)]) (fun m => by first | rfl | (simp [entryFrame, mkF, argsToLocals, Value.category]; done)) ?_
  refine Wk.aloadN (pc' := 1) d3_0 rfl rfl rfl ?_
  refine Wk.nullN (pc' := 4) d3_1 rfl ?_
  refine Wk.aloadN (pc' := 5) d3_4 rfl rfl rfl ?_
  refine Wk.arrLen (pc' := 6) (i := i) (z := (4 : Int32)) d3_5 hi (by rfl) rfl ?_
  refine Wk.iconst (pc' := 7) (4 : Int32) d3_6 (by decide) rfl ?_
  refine Wk.icY (pc' := 12) d3_7 (XT.ii_eq_t rfl) (by decide) (by decide) ?_
  refine Wk.aloadN (pc' := 13) d3_12 rfl rfl rfl ?_
  refine Wk.iconst (pc' := 14) (0 : Int32) d3_13 (by decide) rfl ?_
  refine Wk.daload (pc' := 15) (i := i) (jn := 0) (v := (.double (4598175219545276416 : UInt64))) d3_14 hi (by decide) (by decide) rfl rfl ?_
  refine Wk.ldc2D (pc' := 18) d3_15 (wd25 hw) rfl ?_
  refine Wk.dcmp (pc' := 19) (v := (0 : Int32)) d3_18 (by decide +kernel) rfl ?_
  refine Wk.ifN (pc' := 22) d3_19 (XT.i0_ne_f rfl) rfl ?_
  refine Wk.aloadN (pc' := 23) d3_22 rfl rfl rfl ?_
  refine Wk.iconst (pc' := 24) (1 : Int32) d3_23 (by decide) rfl ?_
  refine Wk.daload (pc' := 25) (i := i) (jn := 1) (v := (.double (4598175219545276416 : UInt64))) d3_24 hi (by decide) (by decide) rfl rfl ?_
  refine Wk.ldc2D (pc' := 28) d3_25 (wd25 hw) rfl ?_
  refine Wk.dcmp (pc' := 29) (v := (0 : Int32)) d3_28 (by decide +kernel) rfl ?_
  refine Wk.ifN (pc' := 32) d3_29 (XT.i0_ne_f rfl) rfl ?_
  refine Wk.aloadN (pc' := 33) d3_32 rfl rfl rfl ?_
  refine Wk.iconst (pc' := 34) (2 : Int32) d3_33 (by decide) rfl ?_
  refine Wk.daload (pc' := 35) (i := i) (jn := 2) (v := (.double (4598175219545276416 : UInt64))) d3_34 hi (by decide) (by decide) rfl rfl ?_
  refine Wk.ldc2D (pc' := 38) d3_35 (wd25 hw) rfl ?_
  refine Wk.dcmp (pc' := 39) (v := (0 : Int32)) d3_38 (by decide +kernel) rfl ?_
  refine Wk.ifN (pc' := 42) d3_39 (XT.i0_ne_f rfl) rfl ?_
  refine Wk.aloadN (pc' := 43) d3_42 rfl rfl rfl ?_
  refine Wk.iconst (pc' := 44) (3 : Int32) d3_43 (by decide) rfl ?_
  refine Wk.daload (pc' := 45) (i := i) (jn := 3) (v := (.double (4598175219545276416 : UInt64))) d3_44 hi (by decide) (by decide) rfl rfl ?_
  refine Wk.ldc2D (pc' := 48) d3_45 (wd25 hw) rfl ?_
  refine Wk.dcmp (pc' := 49) (v := (0 : Int32)) d3_48 (by decide +kernel) rfl ?_
  refine Wk.ifN (pc' := 52) d3_49 (XT.i0_ne_f rfl) rfl ?_
  refine Wk.aloadN (pc' := 53) d3_52 rfl rfl rfl ?_
  refine Wk.iconst (pc' := 54) (0 : Int32) d3_53 (by decide) rfl ?_
  refine Wk.daload (pc' := 55) (i := i) (jn := 0) (v := (.double (4598175219545276416 : UInt64))) d3_54 hi (by decide) (by decide) rfl rfl ?_
  refine Wk.aloadN (pc' := 56) d3_55 rfl rfl rfl ?_
  refine Wk.iconst (pc' := 57) (1 : Int32) d3_56 (by decide) rfl ?_
  refine Wk.daload (pc' := 58) (i := i) (jn := 1) (v := (.double (4598175219545276416 : UInt64))) d3_57 hi (by decide) (by decide) rfl rfl ?_
  refine Wk.dadd (pc' := 59) (v := (4602678819172646912 : UInt64)) d3_58 (by unfold Jvm.Free.Fl.NoNaN64; decide +kernel) (by decide +kernel) rfl ?_
  refine Wk.aloadN (pc' := 60) d3_59 rfl rfl rfl ?_
  refine Wk.iconst (pc' := 61) (2 : Int32) d3_60 (by decide) rfl ?_
  refine Wk.daload (pc' := 62) (i := i) (jn := 2) (v := (.double (4598175219545276416 : UInt64))) d3_61 hi (by decide) (by decide) rfl rfl ?_
  refine Wk.dadd (pc' := 63) (v := (4604930618986332160 : UInt64)) d3_62 (by unfold Jvm.Free.Fl.NoNaN64; decide +kernel) (by decide +kernel) rfl ?_
  refine Wk.aloadN (pc' := 64) d3_63 rfl rfl rfl ?_
  refine Wk.iconst (pc' := 65) (3 : Int32) d3_64 (by decide) rfl ?_
  refine Wk.daload (pc' := 66) (i := i) (jn := 3) (v := (.double (4598175219545276416 : UInt64))) d3_65 hi (by decide) (by decide) rfl rfl ?_
  refine Wk.dadd (pc' := 67) (v := (4607182418800017408 : UInt64)) d3_66 (by unfold Jvm.Free.Fl.NoNaN64; decide +kernel) (by decide +kernel) rfl ?_
  refine Wk.dconst1 (pc' := 68) d3_67 rfl ?_
  refine Wk.dcmp (pc' := 69) (v := (0 : Int32)) d3_68 (by decide +kernel) rfl ?_
  refine Wk.ifN (pc' := 72) d3_69 (XT.i0_ne_f rfl) rfl ?_
  refine Wk.iconst (pc' := 73) (1 : Int32) d3_72 (by decide) rfl ?_
  refine Wk.goTo (pc' := 77) d3_73 (by decide) (by decide) ?_
  exact Wk.iret (t := .boolean) d3_77 rfl (by simp) rfl (by first | (simp only [List.length_append, List.length_cons, List.length_nil] <;> omega) | (simp <;> omega) | simp) (Nat.le_of_ble_eq_true rfl) ⟨rfl, rfl⟩
theorem kap {k : Int32} : ∃ x, FP.ddiv (FP.i2d ((k &&& 1048575) + 1)) 4634204016564240384 = x ∧ Jvm.Free.Fl.NoNaN64 x ∧ cmpValue (FP.dcmp x 0) .l = 1 ∧ cmpValue (FP.dcmp x 9218868437227405312) .g = -1 := by
  refine ⟨_, rfl, ?_⟩
  have hk : 0 ≤ (k &&& 1048575).toInt ∧ (k &&& 1048575).toInt ≤ 1048575 := by
    have e : (k &&& 1048575).toInt = ((k &&& 1048575).toBitVec).toInt := rfl
    have h1 : ((k &&& 1048575).toBitVec).toNat = k.toBitVec.toNat &&& 1048575 := rfl
    have h2 : k.toBitVec.toNat &&& 1048575 ≤ 1048575 := Nat.and_le_right
    rw [e, BitVec.toInt_eq_toNat_cond, h1]
    split <;> omega
  generalize (k &&& 1048575) = m at hk
  have hm : (m + 1).toInt = m.toInt + 1 := by
    rw [Int32.toInt_add, show (1 : Int32).toInt = 1 from rfl]
    rw [Int.bmod_eq_of_le (by omega) (by omega)]
  generalize m + 1 = n at hm
  have hn : 0 < n.toInt := by omega
  have ha := FP.Core.i2d_int n
  have hb : FP.Core.DInt 64 4634204016564240384 := (show FP.i2d 64 = 4634204016564240384 by decide +kernel) ▸ FP.Core.i2d_int 64
  have hf : Jvm.Free.Fl.Fin64 (FP.ddiv (FP.i2d n) 4634204016564240384) := by
    refine Jvm.Free.Fl.fin64_core.mpr (FP.Core.fin_of_lt (K := 1051) ?_ (by decide))
    exact FP.Core.ddiv_mag (K := 1056) (L := 1029) (FP.Core.i2d_mag n) (by decide +kernel) (by decide +kernel) (by decide) (by decide)
  obtain ⟨s1, s2⟩ := FP.Core.Wf.div_sgn ha hb hn (by decide)
  have hz : FP.Core.zmag FP.Core.b64 (FP.Core.val64 4580160821035794432) * 64 = FP.Core.one64 := by decide +kernel
  have hg := FP.Core.Wf.div_ge (V := FP.Core.val64 4580160821035794432) ha hb hn (by decide) (FP.Core.val64_fits _) (by
    rw [show (64 : Int).toNat = 64 from rfl, hz]
    exact Nat.le_mul_of_pos_left _ (by omega))
  have hp : 0 < FP.Core.zmag FP.Core.b64 (FP.Core.val64 4580160821035794432) := by decide +kernel
  have gt := FP.Core.Wf.pos_gt s1 s2 (Nat.lt_of_lt_of_le hp hg)
  refine ⟨hf.noNaN, ?_, dcmp_pinf hf .g⟩
  have gt' : FP.dcmp (FP.ddiv (FP.i2d n) 4634204016564240384) 0 = some .gt := gt
  rw [gt']; rfl
theorem sum1 (v : Int32) : ∃ y, FP.dadd (FP.i2d v) 4607182418800017408 = y ∧ Jvm.Free.Fl.NoNaN64 (FP.dadd (FP.i2d v) 4607182418800017408) := ⟨_, rfl, Jvm.Free.Fl.dadd_out (Jvm.Free.Fl.i2d_fin v).noNaN (by unfold Jvm.Free.Fl.Fin64; decide +kernel)⟩
theorem slot3 (k : Int32) : ¬ (k &&& 3) < 0 ∧ (k &&& 3).toNatClampNeg < 4 := by
  have hk : 0 ≤ (k &&& 3).toInt ∧ (k &&& 3).toInt ≤ 3 := by
    have e : (k &&& 3).toInt = ((k &&& 3).toBitVec).toInt := rfl
    have h1 : ((k &&& 3).toBitVec).toNat = k.toBitVec.toNat &&& 3 := rfl
    have h2 : k.toBitVec.toNat &&& 3 ≤ 3 := Nat.and_le_right
    rw [e, BitVec.toInt_eq_toNat_cond, h1]
    split <;> omega
  refine ⟨?_, ?_⟩
  · rw [Int32.lt_iff_toInt_lt, show (0 : Int32).toInt = 0 from rfl]; omega
  · rw [Int32.toNatClampNeg]; omega
set_option maxRecDepth 65536 in
set_option maxHeartbeats 40000000 in
theorem m_law (l : Launch) (Z : State) (a0 : Array Value) (hw : ∀ d ∈ tables_1, d.before a0 Z = true) (hB : Heap) (a b c0 : Int32) : Ctr l Z hB x code maxLocals ret tables_1 room_1 #[(.int a), (.int b), (.int c0)] [] (fun v _ => v = some (.int 1)) := by
  refine Wk.ctr pn_3 (Ls := #[.val (.int a), .val (.int b), .val (.int c0), .unset, .unset, .unset, .unset, .unset]) (fun m => by first | rfl | (simp [entryFrame, mkF, argsToLocals, Value.category]; done)) ?_
  obtain ⟨x, hx, nx, h0, h1⟩ := kap (k := a)
  obtain ⟨yy, hy, ny⟩ := sum1 (c0 &&& 65535)
  refine Wk.iloadN (pc' := 1) at_0 rfl rfl ?_
  refine Wk.ldcInt (pc' := 3) at_1 (wd0 hw) rfl ?_
  refine Wk.iand (pc' := 4) at_3 rfl ?_
  refine Wk.iconst (pc' := 5) (1 : Int32) at_4 (by decide) rfl ?_
  refine Wk.iadd (pc' := 6) at_5 rfl ?_
  refine Wk.i2d (pc' := 7) at_6 rfl ?_
  refine Wk.ldc2D (pc' := 10) at_7 (wd1 hw) rfl ?_
  refine Wk.ddiv (pc' := 11) (v := x) at_10 (hx.symm ▸ nx) hx rfl ?_
  refine Wk.dstoreN (pc' := 12) (Ls' := #[.val (.int a), .val (.int b), .val (.int c0), .val (.double x), .second, .unset, .unset, .unset]) at_11 rfl rfl ?_
  refine Wk.newObj (pc' := 15) (i := 0) (H' := [obj "com/example/particlade/particlade/K2PModel" ksK [(.double (0 : UInt64))]]) at_12 (wd2 hw) (wd3 hw) (wd4 hw) (ksK_laid hw) (ksK_dist hw) (Nat.le_of_ble_eq_true rfl) (Nat.le_of_ble_eq_true rfl) rfl rfl rfl ?_
  refine Wk.dup (pc' := 16) at_15 rfl rfl ?_
  refine Wk.dloadN (pc' := 17) at_16 rfl rfl ?_
  refine Wk.callI (pc' := 20) (argsL := [(.double x)]) (st := [(rf hB 0)]) at_17 rfl (wd5 hw) (wd6 hw) (wd4 hw) (wd7 hw) (by decide) (lenOf pd_0 rfl) (m_init l Z a0 hw hB x h0 h1) rfl (Nat.le_of_ble_eq_true rfl) (Nat.le_of_ble_eq_true rfl) (Nat.le_of_ble_eq_true rfl) (Nat.le_of_ble_eq_true rfl) rfl rfl ?_
  rintro _ _ ⟨rfl, hH⟩; obtain rfl := hH.symm
  show WP l Z hB _ _ _ _ _ _ _ _ [obj "com/example/particlade/particlade/K2PModel" ksK [(.double x)]] _ _ [(rf hB 0)]
  refine Wk.astore (pc' := 22) (Ls' := #[.val (.int a), .val (.int b), .val (.int c0), .val (.double x), .second, .val (rf hB 0), .unset, .unset]) at_20 rfl rfl rfl ?_
  refine Wk.aload (pc' := 24) at_22 rfl rfl rfl ?_
  refine Wk.callV (pc' := 27) (argsL := []) (st := []) at_24 (wd14 hw) (wd15 hw) (Wk.nfSel (wd17 hw)) (wd17 hw) (wd16 hw) (wd4 hw) (wd18 hw) (by decide) (lenOf pd_1 rfl) (fun _ P => P.exa rfl) (m_freq l Z a0 hw hB [obj "com/example/particlade/particlade/K2PModel" ksK [(.double x)]] 0) rfl (Nat.le_of_ble_eq_true rfl) (Nat.le_of_ble_eq_true rfl) (Nat.le_of_ble_eq_true rfl) (Nat.le_of_ble_eq_true rfl) rfl rfl ?_
  rintro _ _ ⟨rfl, hH⟩; obtain rfl := hH.symm
  show WP l Z hB _ _ _ _ _ _ _ _ [obj "com/example/particlade/particlade/K2PModel" ksK [(.double x)], arr .double [(.double (4598175219545276416 : UInt64)), (.double (4598175219545276416 : UInt64)), (.double (4598175219545276416 : UInt64)), (.double (4598175219545276416 : UInt64))]] _ _ [(rf hB 1)]
  refine Wk.astore (pc' := 29) (Ls' := #[.val (.int a), .val (.int b), .val (.int c0), .val (.double x), .second, .val (rf hB 0), .val (rf hB 1), .unset]) at_27 rfl rfl rfl ?_
  refine Wk.aload (pc' := 31) at_29 rfl rfl rfl ?_
  refine Wk.callS (pc' := 34) (argsL := [(rf hB 1)]) (st := []) at_31 (wd21 hw) (wd22 hw) (wd23 hw) (wd24 hw) (by decide) (lenOf pd_2 rfl) (m_allq l Z a0 hw hB [obj "com/example/particlade/particlade/K2PModel" ksK [(.double x)], arr .double [(.double (4598175219545276416 : UInt64)), (.double (4598175219545276416 : UInt64)), (.double (4598175219545276416 : UInt64)), (.double (4598175219545276416 : UInt64))]] 1 rfl) rfl (Nat.le_of_ble_eq_true rfl) (Nat.le_of_ble_eq_true rfl) (Nat.le_of_ble_eq_true rfl) (Nat.le_of_ble_eq_true rfl) rfl rfl ?_
  rintro _ _ ⟨rfl, hH⟩; obtain rfl := hH.symm
  show WP l Z hB _ _ _ _ _ _ _ _ [obj "com/example/particlade/particlade/K2PModel" ksK [(.double x)], arr .double [(.double (4598175219545276416 : UInt64)), (.double (4598175219545276416 : UInt64)), (.double (4598175219545276416 : UInt64)), (.double (4598175219545276416 : UInt64))]] _ _ [(.int (1 : Int32))]
  refine Wk.ifY (pc' := 39) at_34 (XT.i0_ne_t (by decide)) (by decide) (by decide) ?_
  refine Wk.aload (pc' := 41) at_39 rfl rfl rfl ?_
  refine Wk.iloadN (pc' := 42) at_41 rfl rfl ?_
  refine Wk.iconst (pc' := 43) (3 : Int32) at_42 (by decide) rfl ?_
  refine Wk.iand (pc' := 44) at_43 rfl ?_
  refine Wk.iloadN (pc' := 45) at_44 rfl rfl ?_
  refine Wk.ldcInt (pc' := 47) at_45 (wd26 hw) rfl ?_
  refine Wk.iand (pc' := 48) at_47 rfl ?_
  refine Wk.i2d (pc' := 49) at_48 rfl ?_
  refine Wk.dconst1 (pc' := 50) at_49 rfl ?_
  refine Wk.dadd (pc' := 51) (v := yy) at_50 ny hy rfl ?_
  refine Wk.dastore (pc' := 52) (i := 1) (jn := ((b &&& (3 : Int32))).toNatClampNeg) (H' := [obj "com/example/particlade/particlade/K2PModel" ksK [(.double x)], arr .double ([(.double (4598175219545276416 : UInt64)), (.double (4598175219545276416 : UInt64)), (.double (4598175219545276416 : UInt64)), (.double (4598175219545276416 : UInt64))].set ((b &&& (3 : Int32))).toNatClampNeg (.double yy))]) at_51 rfl (slot3 b).1 rfl (slot3 b).2 rfl rfl ?_
  refine Wk.aload (pc' := 54) at_52 rfl rfl rfl ?_
  refine Wk.callV (pc' := 57) (argsL := []) (st := []) at_54 (wd14 hw) (wd15 hw) (Wk.nfSel (wd17 hw)) (wd17 hw) (wd16 hw) (wd4 hw) (wd18 hw) (by decide) (lenOf pd_1 rfl) (fun _ P => P.exa rfl) (m_freq l Z a0 hw hB [obj "com/example/particlade/particlade/K2PModel" ksK [(.double x)], arr .double ([(.double (4598175219545276416 : UInt64)), (.double (4598175219545276416 : UInt64)), (.double (4598175219545276416 : UInt64)), (.double (4598175219545276416 : UInt64))].set ((b &&& (3 : Int32))).toNatClampNeg (.double yy))] 0) rfl (Nat.le_of_ble_eq_true rfl) (Nat.le_of_ble_eq_true rfl) (Nat.le_of_ble_eq_true rfl) (Nat.le_of_ble_eq_true rfl) rfl rfl ?_
  rintro _ _ ⟨rfl, hH⟩; obtain rfl := hH.symm
  show WP l Z hB _ _ _ _ _ _ _ _ [obj "com/example/particlade/particlade/K2PModel" ksK [(.double x)], arr .double ([(.double (4598175219545276416 : UInt64)), (.double (4598175219545276416 : UInt64)), (.double (4598175219545276416 : UInt64)), (.double (4598175219545276416 : UInt64))].set ((b &&& (3 : Int32))).toNatClampNeg (.double yy)), arr .double [(.double (4598175219545276416 : UInt64)), (.double (4598175219545276416 : UInt64)), (.double (4598175219545276416 : UInt64)), (.double (4598175219545276416 : UInt64))]] _ _ [(rf hB 2)]
  refine Wk.astore (pc' := 59) (Ls' := #[.val (.int a), .val (.int b), .val (.int c0), .val (.double x), .second, .val (rf hB 0), .val (rf hB 1), .val (rf hB 2)]) at_57 rfl rfl rfl ?_
  refine Wk.aload (pc' := 61) at_59 rfl rfl rfl ?_
  refine Wk.aload (pc' := 63) at_61 rfl rfl rfl ?_
  refine Wk.acN (pc' := 66) at_63 rfl rfl (XT.aa_eq_f (by intro q; exact absurd (Nat.add_left_cancel (Value.ref.inj q)) (by decide))) rfl ?_
  refine Wk.aload (pc' := 68) at_66 rfl rfl rfl ?_
  refine Wk.callS (pc' := 71) (argsL := [(rf hB 2)]) (st := []) at_68 (wd21 hw) (wd22 hw) (wd23 hw) (wd24 hw) (by decide) (lenOf pd_2 rfl) (m_allq l Z a0 hw hB [obj "com/example/particlade/particlade/K2PModel" ksK [(.double x)], arr .double ([(.double (4598175219545276416 : UInt64)), (.double (4598175219545276416 : UInt64)), (.double (4598175219545276416 : UInt64)), (.double (4598175219545276416 : UInt64))].set ((b &&& (3 : Int32))).toNatClampNeg (.double yy)), arr .double [(.double (4598175219545276416 : UInt64)), (.double (4598175219545276416 : UInt64)), (.double (4598175219545276416 : UInt64)), (.double (4598175219545276416 : UInt64))]] 2 rfl) rfl (Nat.le_of_ble_eq_true rfl) (Nat.le_of_ble_eq_true rfl) (Nat.le_of_ble_eq_true rfl) (Nat.le_of_ble_eq_true rfl) rfl rfl ?_
  rintro _ _ ⟨rfl, hH⟩; obtain rfl := hH.symm
  show WP l Z hB _ _ _ _ _ _ _ _ [obj "com/example/particlade/particlade/K2PModel" ksK [(.double x)], arr .double ([(.double (4598175219545276416 : UInt64)), (.double (4598175219545276416 : UInt64)), (.double (4598175219545276416 : UInt64)), (.double (4598175219545276416 : UInt64))].set ((b &&& (3 : Int32))).toNatClampNeg (.double yy)), arr .double [(.double (4598175219545276416 : UInt64)), (.double (4598175219545276416 : UInt64)), (.double (4598175219545276416 : UInt64)), (.double (4598175219545276416 : UInt64))]] _ _ [(.int (1 : Int32))]
  refine Wk.ifN (pc' := 74) at_71 (XT.i0_eq_f (by decide)) rfl ?_
  refine Wk.iconst (pc' := 75) (1 : Int32) at_74 (by decide) rfl ?_
  refine Wk.goTo (pc' := 79) at_75 (by decide) (by decide) ?_
  exact Wk.iret (t := .boolean) at_79 rfl (by simp) rfl (Nat.le_of_ble_eq_true rfl) (Nat.le_of_ble_eq_true rfl) rfl
set_option maxRecDepth 65536 in
set_option maxHeartbeats 40000000 in
theorem comes_1 {Post : Tables → Env → Array Value → State → Outcome → State → Prop} (hpost : ∀ tb e args s v u, (limb_1_1.after args s (.returned v) u = true ∧ limb_1_2.after args s (.returned v) u = true ∧ True) → FrameEnd s (.returned v) u (Jvm.fieldLocs frame_1_writes args s ++ Jvm.arrayLocs frame_1_arrays args s ++ Jvm.staticLocs frame_1_statics s) 16 128 → Post tb e args s (.returned v) u) :
    ArmFor flags0 classFile x code maxLocals ret World_1 tables_1 room_1 Calls_1 rest_1 Pre_1 Post := by
  intro l hfl _ _ p e ha hc hk s m args below hf hA hF happ hP
  obtain ⟨hcalls, hrest, hpre⟩ := hP
  obtain ⟨-, -, -, hnamed, -, -, -, hat⟩ := (Spec.applies_iff hf).mp happ
  obtain ⟨hg, hn⟩ := and_e (Cond.before_iff.mp (show (Jvm.Cond.and given_1 narrow_1).before args s = true from hpre))
  obtain ⟨h1, h2⟩ := and_e hg
  obtain ⟨w0, w1, w2, rfl⟩ : ∃ w0 w1 w2 : Value, args = #[w0, w1, w2] := by
    have hs : args.size = 3 := by simpa [Cond.value, given_1] using h1
    obtain ⟨L⟩ := args
    match L, hs with
    | [w0, w1, w2], _ => exact ⟨w0, w1, w2, rfl⟩
  have hw := fun d (hd : d ∈ tables_1) => atoms_spec (ws := Jvm.Cond.code x code maxLocals ret :: tables_1) hat d (List.mem_cons_of_mem _ hd)
  have hfit : Fit s := fun {y c} hc i hi => by
    obtain ⟨ha, rfl⟩ := Array.getElem?_eq_some_iff.mp hc
    have q := List.all_eq_true.mp ((Array.all_eq_true_iff_forall_mem.mp hF) _ (Array.getElem_mem ha)) i (List.mem_range.mpr hi)
    simpa [Array.getElem?_eq_getElem hi] using q
  obtain ⟨g0, r0⟩ := and_e h2
  obtain ⟨i0, e0⟩ := is_v g0
  obtain rfl : w0 = (.int i0) := Option.some.inj e0
  obtain ⟨g1, r1⟩ := and_e r0
  obtain ⟨i1, e1⟩ := is_v g1
  obtain rfl : w1 = (.int i1) := Option.some.inj e1
  obtain ⟨i2, e2⟩ := is_v r1
  obtain rfl : w2 = (.int i2) := Option.some.inj e2
  obtain ⟨n, o, h1, h2, h3, v, L, H', rfl, rfl, hp, N, hq⟩ := m_law l s _ hw s.heap i0 i1 i2 p e ha hc hk s m _ below hf ((Spec.applies_iff_loose hf).mp happ).1 ⟨rfl, State.Warmed39.refl s, Wk.Hp.start s s.heap⟩ trivial
  refine ⟨n, _, h1, h2, h3, hpost _ _ _ _ _ _ ⟨Cond.after_iff.mpr rfl, Cond.after_iff.mpr (eq_i res_at (Term.int_eval (1)) rfl), trivial⟩ ⟨hq.1, hq.2.1, (hq.2.2.sift fun y hy => Or.inr (N y hy)).mono (by decide) (by decide)⟩⟩
theorem main_1_1 : Claimed_1_1 := comes_1 fun _ _ _ _ _ _ h hF => ⟨h.1, hF⟩
theorem main_1_2 : Claimed_1_2 := comes_1 fun _ _ _ _ _ _ h hF => ⟨h.2.1, hF⟩
end Jvm.Pilot.@@N@@
namespace Jvm.Pilot.@@N@@
open Jvm Jvm.ClassFile Sem Op Lib Jvm.Free Jvm.Stand Jvm.Pilot.@@N@@.Jvm.D
/-! MADE BY PROGRAM (witnessworld.py) out of the Statement's table words and the real class files: 12 classes; the members and pool entries that the words name. The judged class is class 1, her method 1. -/
namespace start1
open Jvm.ClassFile
def u (s : String) : CpInfo := .utf8 (stringToUtf16 s)
/-- a pool by its gaps: so many unusable entries, then the entry; so many at the end -/
def gap : Nat → List CpInfo → List CpInfo
  | 0, r => r
  | n + 1, r => .unusable :: gap n r
def poolList (es : List (Nat × CpInfo)) (last : Nat) : List CpInfo := es.foldr (fun e r => gap e.1 (e.2 :: r)) (gap last [])
def pool (es : List (Nat × CpInfo)) (last : Nat) : Array CpInfo := ⟨poolList es last⟩
def fileOf (pool : Array CpInfo) (this : Nat) (attrs : Array Attribute := #[]) (ms : Array MethodInfo := #[]) (fl : Nat := 33) (sup : Nat := 0) (ifs : Array Nat := #[]) (fds : Array FieldInfo := #[]) : ClassFile where
  minorVersion := 0
  majorVersion := 65
  constantPool := pool
  accessFlags := fl
  thisClass := this
  superClass := sup
  interfaces := ifs
  fields := fds
  methods := ms
  attributes := attrs
def plain (name : String) (sup : Option ClassId) : Class where
  name := name
  kind := .ordinary
  loader := none
  accessFlags := 33
  super := sup
  interfaces := #[]
  cf := none
  fields := #[]
  methods := #[]
  instanceTypes := #[]
  staticTypes := #[]
  resolved := #[]
  callSites := []
  init := .initialized
  statics := none
  mirror := none

def pool0 : Array CpInfo := pool [(5, u "<init>"), (0, u "()V"), (1, .class_ 10), (1, u "java/lang/Object")] 113

def k0c0 : Code := { maxStack := 0, maxLocals := 1, code := object_method_1_code, exceptionTable := #[], attributes := #[] }
def k0m0 : Method := { name := "<init>", desc := "()V", sig := { parameters := [], returnType := none }, accessFlags := 1, code := some k0c0 }
/-- java/lang/Object -/
def k0 : Class := { plain "java/lang/Object" none with
  accessFlags := 33
  interfaces := #[]
  cf := some (fileOf pool0 8 #[] #[{ accessFlags := 1, nameIndex := 5, descriptorIndex := 6, attributes := #[] }] 33 0 #[] #[])
  fields := #[]
  methods := #[k0m0]
  instanceTypes := #[]
  staticTypes := #[]
  resolved := Array.replicate 124 none
  statics := none }

def pool1 : Array CpInfo := pool [(2, .class_ 4), (1, u "java/lang/Object"), (0, u "<init>"), (0, u "()V"), (0, .integer 1048575), (0, .double 4634204016564240384), (1, .class_ 11), (0, u "com/example/particlade/particlade/K2PModel"), (0, .methodref 10 13), (0, .nameAndType 5 14), (0, u "(D)V"), (0, .methodref 10 16), (0, .nameAndType 17 18), (0, u "frequencies"), (0, u "()[D"), (0, .methodref 20 21), (0, .class_ 22), (0, .nameAndType 23 24), (0, u "com/example/particlade/particlade/K2PModelFrequenciesPinLaw"), (0, u "allQuarters"), (0, u "([D)Z"), (0, .integer 65535), (0, .double 4598175219545276416), (3, u "law"), (0, u "(III)Z")] 5

def k1m0 : Method := { name := "<init>", desc := "()V", sig := { parameters := [], returnType := none }, accessFlags := 1, code := none }
def k1c1 : Code := { maxStack := 6, maxLocals := 8, code := code, exceptionTable := #[], attributes := #[] }
def k1m1 : Method := { name := "law", desc := "(III)Z", sig := { parameters := [.int, .int, .int], returnType := some .boolean }, accessFlags := 9, code := some k1c1 }
def k1c2 : Code := { maxStack := 4, maxLocals := 1, code := method_3_code, exceptionTable := #[], attributes := #[] }
def k1m2 : Method := { name := "allQuarters", desc := "([D)Z", sig := { parameters := [(.array .double)], returnType := some .boolean }, accessFlags := 10, code := some k1c2 }
/-- com/example/particlade/particlade/K2PModelFrequenciesPinLaw -/
def k1 : Class := { plain "com/example/particlade/particlade/K2PModelFrequenciesPinLaw" (some 0) with
  accessFlags := 49
  interfaces := #[]
  cf := some (fileOf pool1 20 #[] #[{ accessFlags := 1, nameIndex := 5, descriptorIndex := 6, attributes := #[] }, { accessFlags := 9, nameIndex := 30, descriptorIndex := 31, attributes := #[] }, { accessFlags := 10, nameIndex := 23, descriptorIndex := 24, attributes := #[] }] 49 2 #[] #[])
  fields := #[]
  methods := #[k1m0, k1m1, k1m2]
  instanceTypes := #[]
  staticTypes := #[]
  resolved := Array.replicate 37 none
  statics := none }

def pool2 : Array CpInfo := pool [(1, .class_ 2), (0, u "com/example/particlade/particlade/SubstitutionModel"), (0, .class_ 4), (0, u "java/lang/Object"), (9, .class_ 15), (0, u "com/example/particlade/particlade/SubstitutionModel$Spectrum")] 2

/-- com/example/particlade/particlade/SubstitutionModel -/
def k2 : Class := { plain "com/example/particlade/particlade/SubstitutionModel" (some 0) with
  accessFlags := 1537
  interfaces := #[]
  cf := some (fileOf pool2 1 #[.nestMembers #[14]] #[] 1537 3 #[] #[])
  fields := #[]
  methods := #[]
  instanceTypes := #[]
  staticTypes := #[]
  resolved := Array.replicate 18 none
  statics := none }

def pool3 : Array CpInfo := pool [(1, .methodref 2 3), (0, .class_ 4), (0, .nameAndType 5 6), (0, u "java/lang/Object"), (0, u "<init>"), (0, u "()V"), (2, .double 9218868437227405312), (10, .fieldref 21 22), (0, .class_ 23), (0, .nameAndType 24 25), (0, u "com/example/particlade/particlade/K2PModel"), (0, u "kappa"), (0, u "D"), (2, u "(D)V"), (0, .double 4598175219545276416), (31, .class_ 62), (0, u "com/example/particlade/particlade/SubstitutionModel"), (6, u "frequencies"), (0, u "()[D")] 22

def k3c0 : Code := { maxStack := 4, maxLocals := 3, code := prog_7_method_1_code, exceptionTable := #[], attributes := #[] }
def k3m0 : Method := { name := "<init>", desc := "(D)V", sig := { parameters := [.double], returnType := none }, accessFlags := 1, code := some k3c0 }
def k3c1 : Code := { maxStack := 5, maxLocals := 1, code := prog_7_method_4_code, exceptionTable := #[], attributes := #[] }
def k3m1 : Method := { name := "frequencies", desc := "()[D", sig := { parameters := [], returnType := some (.array .double) }, accessFlags := 1, code := some k3c1 }
/-- com/example/particlade/particlade/K2PModel -/
def k3 : Class := { plain "com/example/particlade/particlade/K2PModel" (some 0) with
  accessFlags := 49
  interfaces := #[2]
  cf := some (fileOf pool3 21 #[] #[{ accessFlags := 1, nameIndex := 5, descriptorIndex := 28, attributes := #[] }, { accessFlags := 1, nameIndex := 69, descriptorIndex := 70, attributes := #[] }] 49 2 #[61] #[{ accessFlags := 18, nameIndex := 24, descriptorIndex := 25, attributes := #[] }])
  fields := #[{ name := "kappa", type := .double, accessFlags := 18, slot := 0, constantValue := 0 }]
  methods := #[k3m0, k3m1]
  instanceTypes := #[.double]
  staticTypes := #[]
  resolved := Array.replicate 93 none
  statics := none }

def pool4 : Array CpInfo := pool [(1, u "java/lang/Cloneable"), (0, .class_ 1), (0, u "java/lang/Object"), (0, .class_ 3)] 3

/-- java/lang/Cloneable -/
def k4 : Class := { plain "java/lang/Cloneable" (some 0) with
  accessFlags := 1537
  interfaces := #[]
  cf := some (fileOf pool4 2 #[] #[] 1537 4 #[] #[])
  fields := #[]
  methods := #[]
  instanceTypes := #[]
  staticTypes := #[]
  resolved := Array.replicate 8 none
  statics := none }

def pool5 : Array CpInfo := pool [(1, u "java/io/Serializable"), (0, .class_ 1), (0, u "java/lang/Object"), (0, .class_ 3)] 3

/-- java/io/Serializable -/
def k5 : Class := { plain "java/io/Serializable" (some 0) with
  accessFlags := 1537
  interfaces := #[]
  cf := some (fileOf pool5 2 #[] #[] 1537 4 #[] #[])
  fields := #[]
  methods := #[]
  instanceTypes := #[]
  staticTypes := #[]
  resolved := Array.replicate 8 none
  statics := none }

/-- the primitive byte -/
def k6 : Class := { plain "byte" none with kind := .primitive 'B', accessFlags := 0x411 }
/-- [B -/
def k7 : Class := { plain "[B" (some 0) with kind := .array 6 .byte, interfaces := #[4, 5], accessFlags := 1041 }

/-- the primitive double -/
def k8 : Class := { plain "double" none with kind := .primitive 'D', accessFlags := 0x411 }
/-- [D -/
def k9 : Class := { plain "[D" (some 0) with kind := .array 8 .double, interfaces := #[4, 5], accessFlags := 1041 }

/-- the primitive int -/
def k10 : Class := { plain "int" none with kind := .primitive 'I', accessFlags := 0x411 }
/-- [I -/
def k11 : Class := { plain "[I" (some 0) with kind := .array 10 .int, interfaces := #[4, 5], accessFlags := 1041 }

def heap : Heap := #[]
def classes : Array Class := #[k0, k1, k2, k3, k4, k5, k6, k7, k8, k9, k10, k11]
def interned : List (Array UInt16 × Addr) := []
def slotsUsed : Nat := 0
def theMethod : MethodId := ⟨1, 1⟩
def args0 : Array Value := #[.int 5, .int 2, .int 7]
def aboutOver (below : List Frame) : State where
  vm := { classes := classes, interned := interned.toArray }
  heap := heap
  slotsUsed := slotsUsed
  threads := #[{ frames := .invoking theMethod args0 :: below }]
def below0 : List Frame := [.native { method := ⟨0, 0⟩, args := #[] }]
def about1 : State := aboutOver below0
def p0 : Program := .bare "" "" ""
def e0 : Env := launch0.env 0 0 0
theorem w_frames : about1.frames = Frame.invoking theMethod args0 :: below0 := rfl
set_option maxRecDepth 65536 in
theorem w_args : argsFit about1.vm theMethod args0 = true := by decide +kernel
set_option maxRecDepth 65536 in
theorem w_heap : heapFits about1 = true := by decide +kernel
set_option maxRecDepth 65536 in
theorem w_runnable : about1.curStatus? = some .runnable := by decide +kernel
set_option maxRecDepth 65536 in
theorem w_alone : about1.alone = true := by decide +kernel
set_option maxRecDepth 65536 in
theorem w_named : about1.methodNamed? x = some theMethod := by decide +kernel
set_option maxRecDepth 65536 in
theorem w_hears : about1.hears theMethod below0 = true := by decide +kernel
set_option maxRecDepth 65536 in
theorem w_ripe : about1.ripe theMethod args0 below0 = true := by decide +kernel
theorem w_running : about1.status = .running := rfl
set_option maxRecDepth 65536 in
theorem w_room : about1.hasRoom e0.platform room_1 = true :=
  launch0.hasRoom_least _ room_1 (by decide +kernel) (by decide +kernel) (by decide +kernel) (by decide +kernel) (by decide +kernel) (by decide +kernel)
theorem allAtoms_all (ts : List Jvm.Cond) (a : Array Jvm.Value) (st : Jvm.State) : (allAtoms ts).before a st = ts.all (fun c => c.before a st) := by
  induction ts with
  | nil => rfl
  | cons c t ih =>
    show (Jvm.Cond.and c (allAtoms t)).before a st = _
    rw [Jvm.Cond.before_and, ih, List.all_cons]
def words1 : List Jvm.Cond := Jvm.Cond.code x code maxLocals ret :: tables_1
/-- a 'code' word, met by the world's own term for the bytes: nothing is compared byte by byte -/
theorem code_word {y : MethodName} {bytes : ByteArray} {mx : Nat} {rt : Option FieldType} {a : Array Value} {s : State} {m : MethodId} {meth : Method} {c : Code} (h1 : s.methodNamed? y = some m) (h2 : s.vm.method? m = some meth) (h3 : meth.code = some c) (h4 : c.code = bytes)
    (h5 : (c.maxLocals == mx && c.exceptionTable.isEmpty && decide (c.maxStack ≤ mostOperands) && decide (meth.sig.returnType = rt) && !meth.locks && decide (parseMethodDescriptor y.desc = some meth.sig)) = true) : (Jvm.Cond.code y bytes mx rt).before a s = true := by
  simp only [Bool.and_eq_true, beq_iff_eq, Bool.not_eq_true', decide_eq_true_eq] at h5
  obtain ⟨⟨⟨⟨⟨g1, g2⟩, g3⟩, g4⟩, g5⟩, g6⟩ := h5
  simp [Cond.before, Cond.holds, Cond.value, h1, h2, h3, h4, g1, g2, g3, g4, g5, g6]
def isCode : Jvm.Cond → Bool
  | .code _ _ _ _ => true
  | _ => false
theorem all_split {L : List Jvm.Cond} {P : Jvm.Cond → Bool} (h1 : L.all (fun c => isCode c || P c) = true) (h2 : ∀ c ∈ L.filter isCode, P c = true) : L.all P = true := by
  refine List.all_eq_true.mpr fun c hc => ?_
  have h := List.all_eq_true.mp h1 c hc
  rcases Bool.eq_false_or_eq_true (isCode c) with hi | hi
  · exact h2 c (List.mem_filter.mpr ⟨hc, hi⟩)
  · simpa [hi] using h
set_option maxRecDepth 65536 in
theorem w_c0 : (Jvm.Cond.code x code maxLocals ret).before args0 about1 = true := code_word (m := ⟨1, 1⟩) (meth := k1m1) (c := k1c1) (by decide +kernel) rfl rfl rfl (by decide +kernel)
set_option maxRecDepth 65536 in
theorem w_c1 : (Jvm.Cond.code ({ cls := "com/example/particlade/particlade/K2PModel", name := "<init>", desc := "(D)V" } : Jvm.MethodName) prog_7_method_1_code (3 : Nat) (Option.none : Option Jvm.ClassFile.FieldType)).before args0 about1 = true := code_word (m := ⟨3, 0⟩) (meth := k3m0) (c := k3c0) (by decide +kernel) rfl rfl rfl (by decide +kernel)
set_option maxRecDepth 65536 in
theorem w_c2 : (Jvm.Cond.code ({ cls := "java/lang/Object", name := "<init>", desc := "()V" } : Jvm.MethodName) object_method_1_code (1 : Nat) (Option.none : Option Jvm.ClassFile.FieldType)).before args0 about1 = true := code_word (m := ⟨0, 0⟩) (meth := k0m0) (c := k0c0) (by decide +kernel) rfl rfl rfl (by decide +kernel)
set_option maxRecDepth 65536 in
theorem w_c3 : (Jvm.Cond.code ({ cls := "com/example/particlade/particlade/K2PModel", name := "frequencies", desc := "()[D" } : Jvm.MethodName) prog_7_method_4_code (1 : Nat) (Option.some (Jvm.ClassFile.FieldType.array Jvm.ClassFile.FieldType.double))).before args0 about1 = true := code_word (m := ⟨3, 1⟩) (meth := k3m1) (c := k3c1) (by decide +kernel) rfl rfl rfl (by decide +kernel)
set_option maxRecDepth 65536 in
theorem w_c4 : (Jvm.Cond.code ({ cls := "com/example/particlade/particlade/K2PModelFrequenciesPinLaw", name := "allQuarters", desc := "([D)Z" } : Jvm.MethodName) method_3_code (1 : Nat) (Option.some Jvm.ClassFile.FieldType.boolean)).before args0 about1 = true := code_word (m := ⟨1, 2⟩) (meth := k1m2) (c := k1c2) (by decide +kernel) rfl rfl rfl (by decide +kernel)
def codes1 : List Jvm.Cond := [Jvm.Cond.code x code maxLocals ret, Jvm.Cond.code ({ cls := "com/example/particlade/particlade/K2PModel", name := "<init>", desc := "(D)V" } : Jvm.MethodName) prog_7_method_1_code (3 : Nat) (Option.none : Option Jvm.ClassFile.FieldType), Jvm.Cond.code ({ cls := "java/lang/Object", name := "<init>", desc := "()V" } : Jvm.MethodName) object_method_1_code (1 : Nat) (Option.none : Option Jvm.ClassFile.FieldType), Jvm.Cond.code ({ cls := "com/example/particlade/particlade/K2PModel", name := "frequencies", desc := "()[D" } : Jvm.MethodName) prog_7_method_4_code (1 : Nat) (Option.some (Jvm.ClassFile.FieldType.array Jvm.ClassFile.FieldType.double)), Jvm.Cond.code ({ cls := "com/example/particlade/particlade/K2PModelFrequenciesPinLaw", name := "allQuarters", desc := "([D)Z" } : Jvm.MethodName) method_3_code (1 : Nat) (Option.some Jvm.ClassFile.FieldType.boolean)]
set_option maxRecDepth 65536 in
theorem codes_eq : words1.filter isCode = codes1 := rfl
theorem w_codes : ∀ c ∈ words1.filter isCode, c.before args0 about1 = true := by
  rw [codes_eq]
  intro c hc
  simp only [codes1, List.mem_cons, List.not_mem_nil, or_false] at hc
  rcases hc with rfl | rfl | rfl | rfl | rfl
  · exact w_c0
  · exact w_c1
  · exact w_c2
  · exact w_c3
  · exact w_c4
set_option maxRecDepth 65536 in
theorem w_t1 : (words1.take 24).all (fun c => isCode c || c.before args0 about1) = true := by decide +kernel
set_option maxRecDepth 65536 in
theorem w_t2 : (words1.drop 24).all (fun c => isCode c || c.before args0 about1) = true := by decide +kernel
theorem w_tables : (allAtoms (Jvm.Cond.code x code maxLocals ret :: tables_1)).before args0 about1 = true := by
  rw [allAtoms_all]
  show words1.all (fun c => c.before args0 about1) = true
  refine all_split ?_ w_codes
  rw [← List.take_append_drop 24 words1, List.all_append, w_t1, w_t2]
  rfl
set_option maxRecDepth 65536 in
theorem w_case : (Jvm.Cond.and given_1 narrow_1).before args0 about1 = true := by decide +kernel
theorem w_applies : (headSpec (Jvm.Cond.code x code maxLocals ret :: tables_1) room_1).applies x e0.platform about1 = true :=
  (Spec.applies_iff w_frames).mpr ⟨w_running, w_runnable, w_alone, w_named, w_hears, w_ripe, w_room, w_tables⟩
theorem atStart : AtStart classFile x code maxLocals ret World_1 tables_1 room_1 Calls_1 rest_1 Pre_1 launch0 p0 e0 about1 theMethod args0 below0 :=
  ⟨lists_1, trivial, launch0.admits_env _ _ _, launch0.least_env, fairChoices_fair.cas, fairChoices_fair.clock, w_frames, w_args, w_heap, w_applies, trivial, trivial, w_case⟩
end start1
theorem witness_1 : WitnessClaimed_1 := ⟨start1.p0, start1.e0, start1.about1, start1.theMethod, start1.args0, start1.below0, start1.atStart⟩
end Jvm.Pilot.@@N@@
