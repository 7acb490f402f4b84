import JvmDerived
import JvmDerived.Pilot.@@N@@Statement
import JvmDerived.Pilot.@@N@@Code
set_option linter.unusedVariables false
set_option linter.unusedSimpArgs false
namespace Jvm.Wk
open Sem ClassFile Op Lib Jvm.Stand Jvm.Free Jvm.LawKit Jvm.RoadKit
/-! A small logic of walks: the heap above the law's start is a list of records, a walk is a predicate over (records, pc, locals, stack). -/
abbrev Key := String × String × String
abbrev Rec := ((String × List Key × List Value) ⊕ (FieldType × List Value)) ⊕ Cell
abbrev LE := Launch × List (String × Nat)
abbrev obj (C : String) (ks : List Key) (vs : List Value) : Rec := Sum.inl (Sum.inl (C, ks, vs))
abbrev arr (t : FieldType) (vs : List Value) : Rec := Sum.inl (Sum.inr (t, vs))
abbrev ints (xs : List Int32) : Rec := arr .int (xs.map Value.int)
abbrev longs (xs : List Int64) : Rec := arr .long (xs.map Value.long)
abbrev rf (hB : Heap) (i : Nat) : Value := .ref (hB.size + i)
def kslot (Z : State) (k : Key) : Nat := Jvm.RoadKit.slotOf Z k.1 k.2.1 k.2.2
def OvrT (Z : State) (cA : ClassId) (t : FieldType) : Prop := (∀ C, t = .object C → Ovr Z cA C) ∧ (∀ ty, t = .array ty → OvrA Z cA ty (FieldType.array ty).toString)
def RecAt (Z : State) (h : Heap) (a : Addr) : Rec → Prop
  | .inl (.inl (C, ks, vs)) => Exa Z h a C ∧ Unt h a ∧ (∀ (i : Nat) (k : Key) (v : Value), ks[i]? = some k → vs[i]? = some v → Fld Z h a k.1 k.2.1 k.2.2 v) ∧ (∀ (i j : Nat) (k k' : Key), ks[i]? = some k → ks[j]? = some k' → i ≠ j → kslot Z k ≠ kslot Z k')
  | .inr c => h[a]? = some c
  | .inl (.inr (t, vs)) => ∃ c : Cell, Arr Z h a c t ∧ c.slots = vs.toArray ∧ c.vm = .none ∧ Exa Z h a ("[" ++ t.toString) ∧ OvrT Z c.cls t ∧ ∀ v ∈ vs, fits t v = true
def Hp (Z : State) (hB h : Heap) (H : List Rec) : Prop := h.size = hB.size + H.length ∧ (∀ (a : Addr) (c : Cell), hB[a]? = some c → h[a]? = some c) ∧ ∀ (i : Nat) (r : Rec), H[i]? = some r → RecAt Z h (hB.size + i) r
section Heaps
variable {Z : State} {hB h h' : Heap} {H : List Rec} {a b : Addr} {r : Rec} {sl : Nat} {v : Value}
theorem RecAt.ext (E : Ext h h') : ∀ {r : Rec}, RecAt Z h a r → RecAt Z h' a r
  | .inr _, F => E.2 _ _ F
  | .inl (.inl _), F => ⟨F.1.ext E, F.2.1.ext E, fun i k v h1 h2 => (F.2.2.1 i k v h1 h2).ext E, F.2.2.2⟩
  | .inl (.inr _), F => by
    obtain ⟨c, h1, h2, h3, h5, h6⟩ := F
    exact ⟨c, h1.ext E, h2, h3, h5.ext E, h6⟩
theorem RecAt.other (W : Wr h h' b sl v) (hne : a ≠ b) : ∀ {r : Rec}, RecAt Z h a r → RecAt Z h' a r
  | .inr _, F => by obtain ⟨c0, -, -, -, rfl⟩ := W; show (h.setIfInBounds _ _)[a]? = _; rw [Array.getElem?_setIfInBounds_ne (Ne.symm hne)]; exact F
  | .inl (.inl _), F => ⟨F.1.wr W, F.2.1.wr W, fun i k v h1 h2 => (F.2.2.1 i k v h1 h2).other W (Or.inl hne), F.2.2.2⟩
  | .inl (.inr _), F => by
    obtain ⟨c, h1, h2, h3, h5, h6⟩ := F
    exact ⟨c, h1.other W hne, h2, h3, h5.wr W, h6⟩
theorem RecAt.lt : ∀ {r : Rec}, RecAt Z h a r → a < h.size
  | .inr _, F => (Array.getElem?_eq_some_iff.mp F).1
  | .inl (.inl _), F => F.1.lt
  | .inl (.inr _), F => by obtain ⟨c, h1, -⟩ := F; exact h1.lt
theorem Hp.toExt (P : Hp Z hB h H) : Ext hB h := ⟨by rw [P.1]; exact Nat.le_add_right _ _, P.2.1⟩
theorem Hp.start (Z : State) (hB : Heap) : Hp Z hB hB [] := ⟨rfl, fun _ _ q => q, fun i r q => by cases q⟩
theorem Hp.at (P : Hp Z hB h H) {i : Nat} (q : H[i]? = some r) : RecAt Z h (hB.size + i) r := P.2.2 i r q
theorem Hp.setR (P : Hp Z hB h H) {i : Nat} {r r' : Rec} (q : H[i]? = some r) (W : Wr h h' (hB.size + i) sl v) (F : RecAt Z h' (hB.size + i) r') : Hp Z hB h' (H.set i r') := by
  refine ⟨by rw [W.size, P.1, List.length_set], fun a c ha => ?_, fun j r2 hj => ?_⟩
  · obtain ⟨c', e1, -, -, -, e5, -⟩ := wr_at W (P.2.1 a c ha)
    have : a < hB.size := (Array.getElem?_eq_some_iff.mp ha).1
    rw [e1, e5 fun q => absurd this (by rw [q]; exact Nat.not_lt.mpr (Nat.le_add_right _ _))]
  · rw [List.getElem?_set] at hj
    split at hj
    · rename_i e
      subst e
      split at hj
      · cases hj; exact F
      · cases hj
    · rename_i e
      exact (P.2.2 j r2 hj).other W fun q => e (Nat.add_left_cancel q).symm
theorem Hp.wrO (P : Hp Z hB h H) {i j : Nat} {C : String} {ks : List Key} {vs : List Value} {k : Key} (q : H[i]? = some (obj C ks vs)) (hk : ks[j]? = some k) (hj : j < vs.length) (W : Wr h h' (hB.size + i) (kslot Z k) v) : Hp Z hB h' (H.set i (obj C ks (vs.set j v))) := by
  obtain ⟨f1, f2, f3, f4⟩ := P.at q
  refine P.setR q W ⟨f1.wr W, f2.wr W, fun i' k' v' h1 h2 => ?_, f4⟩
  by_cases e : j = i'
  · subst e
    rw [List.getElem?_set_self hj] at h2
    cases h2
    cases hk.symm.trans h1
    exact (f3 j k vs[j] hk (List.getElem?_eq_getElem hj)).same W
  · rw [List.getElem?_set_ne e] at h2
    exact (f3 i' k' v' h1 h2).other W (Or.inr (f4 i' j k' k h1 hk (Ne.symm e)))
theorem Hp.wrA (P : Hp Z hB h H) {i j : Nat} {t : FieldType} {vs : List Value} (q : H[i]? = some (arr t vs)) (hf : fits t v = true) (W : Wr h h' (hB.size + i) j v) : Hp Z hB h' (H.set i (arr t (vs.set j v))) := by
  obtain ⟨c, h1, h2, h3, h5, h6, h7⟩ := P.at q
  refine P.setR q W ⟨c.setSlot j v, h1.same W, ?_, h3, h5.wr W, h6, fun w hw => ?_⟩
  · show c.slots.setIfInBounds j v = _
    rw [h2]; simp
  · rcases List.mem_or_eq_of_mem_set hw with z | z
    · exact h7 w z
    · rw [z]; exact hf
theorem Hp.push (P : Hp Z hB h H) (E : Ext h h') (hs : h'.size ≤ h.size + 1) (F : RecAt Z h' h.size r) : Hp Z hB h' (H ++ [r]) := by
  have hlt : Array.size h < Array.size h' := F.lt
  refine ⟨by rw [List.length_append, List.length_singleton]; have := P.1; omega, fun a c ha => E.2 _ _ (P.2.1 a c ha), fun i r2 hi => ?_⟩
  rw [List.getElem?_append] at hi
  split at hi
  · exact (P.2.2 i r2 hi).ext E
  · rename_i e
    have hl := P.1
    obtain ⟨h1, h2⟩ := List.getElem?_eq_some_iff.mp hi
    simp only [List.length_singleton] at h1
    have e2 : i = H.length := by omega
    subst e2
    simp only [Nat.sub_self, List.getElem_cons_zero] at h2
    subst h2
    rw [← hl]; exact F
theorem Hp.fld (P : Hp Z hB h H) {i j : Nat} {C O n d : String} {ks : List Key} {vs : List Value} (q : H[i]? = some (obj C ks vs)) (hk : ks[j]? = some (O, n, d)) (hv : vs[j]? = some v) : Fld Z h (hB.size + i) O n d v := (P.at q).2.2.1 j _ v hk hv
theorem Hp.exa (P : Hp Z hB h H) {i : Nat} {C : String} {ks : List Key} {vs : List Value} (q : H[i]? = some (obj C ks vs)) : Exa Z h (hB.size + i) C := (P.at q).1
theorem Hp.exaA (P : Hp Z hB h H) {i : Nat} {t : FieldType} {vs : List Value} {C : String} (q : H[i]? = some (arr t vs)) (hC : "[" ++ t.toString = C) : Exa Z h (hB.size + i) C := by
  obtain ⟨c, -, -, -, h5, -⟩ := P.at q
  exact hC ▸ h5
theorem RecAt.congr (e : h'[a]? = h[a]?) : ∀ {r : Rec}, RecAt Z h a r → RecAt Z h' a r
  | .inr _, F => e.trans F
  | .inl (.inl _), F => by
    obtain ⟨⟨c1, k1, f1, f2⟩, ⟨c2, g1, g2⟩, F3, F4⟩ := F
    refine ⟨⟨c1, k1, e.trans f1, f2⟩, ⟨c2, e.trans g1, g2⟩, fun i k v h1 h2 => ?_, F4⟩
    obtain ⟨c, cf, kk, i', f, q, r⟩ := F3 i k v h1 h2
    exact ⟨c, cf, kk, i', f, e.trans q, r⟩
  | .inl (.inr _), F => by
    obtain ⟨c, ⟨h1, h1'⟩, h2, h3, ⟨c5, k5, h5, h5'⟩, h6⟩ := F
    exact ⟨c, ⟨e.trans h1, h1'⟩, h2, h3, ⟨c5, k5, e.trans h5, h5'⟩, h6⟩
theorem toNat_len {n : Nat} (h : n < 2 ^ 31) : n.toInt32.toNatClampNeg = n ∧ ¬ n.toInt32 < 0 := by
  refine ⟨by simp only [Int32.toNatClampNeg, len_toInt h]; omega, ?_⟩
  rw [Int32.lt_iff_toInt_lt, len_toInt h]; have : (0 : Int32).toInt = 0 := rfl; omega
theorem Hp.arv (P : Hp Z hB h H) {i : Nat} {t : FieldType} {vs : List Value} (q : H[i]? = some (arr t vs)) (hl : vs.length < 2 ^ 31) (d : Value) : ∃ k, Arv Z h (hB.size + i) k t vs.length.toInt32 vs d := by
  obtain ⟨c, h1, h2, h3, h5, h6, h7⟩ := P.at q
  have hs : c.slots.size = vs.length := by rw [h2, List.size_toArray]
  refine ⟨c.cls, c, h1, rfl, by rw [hs, (toNat_len hl).1], (toNat_len hl).2, fun k hk => ?_, fun k hk => ?_⟩
  · rw [hs] at hk
    rw [h2, List.getElem?_toArray, List.getElem?_eq_getElem hk, List.getD_eq_getElem?_getD, List.getElem?_eq_getElem hk]; rfl
  · rw [hs] at hk
    rw [List.getD_eq_getElem?_getD, List.getElem?_eq_getElem hk]; exact h7 _ (List.getElem_mem hk)
theorem Hp.copied (P : Hp Z hB h H) {i : Nat} {t : FieldType} {vs vs' : List Value} {k : ClassId} {d : Value} (q : H[i]? = some (arr t vs)) (hz : h'.size ≤ h.size) (K : Keep h h' [hB.size + i]) (hl : vs.length < 2 ^ 31) (hlen : vs'.length = vs.length) (A : Arv Z h' (hB.size + i) k t vs.length.toInt32 vs' d) : Hp Z hB h' (H.set i (arr t vs')) := by
  refine ⟨by rw [List.length_set, ← P.1]; exact Nat.le_antisymm hz K.1, fun a c ha => ?_, fun j r2 hj => ?_⟩
  · have : a < hB.size := (Array.getElem?_eq_some_iff.mp ha).1
    exact K.2.1 a c (P.2.1 a c ha) (by simp only [List.mem_singleton]; intro e; rw [e] at this; exact absurd this (Nat.not_lt.mpr (Nat.le_add_right _ _)))
  · by_cases e : i = j
    · subst e
      have hi := (List.getElem?_eq_some_iff.mp q).1
      rw [List.getElem?_set_self hi] at hj
      cases hj
      obtain ⟨c, h1, h2, h3, h5, h6, h7⟩ := P.at q
      obtain ⟨c', a1, a2, a3, a4, a5, a6⟩ := A
      obtain ⟨c2, b1, b2, b3, b4⟩ := K.2.2 _ c h1.1
      cases a1.1.symm.trans b1
      have hs : c'.slots.size = vs'.length := by rw [a3, (toNat_len hl).1, hlen]
      refine ⟨c', a1, ?_, b3.trans h3, h5.keep K, b2 ▸ h6, fun v hv => ?_⟩
      · apply Array.ext_getElem?
        intro n
        by_cases hn : n < c'.slots.size
        · rw [a5 n hn, List.getElem?_toArray, List.getD_eq_getElem?_getD, List.getElem?_eq_getElem (hs ▸ hn)]; rfl
        · rw [Array.getElem?_eq_none (Nat.le_of_not_lt hn), List.getElem?_toArray, List.getElem?_eq_none (by omega)]
      · obtain ⟨n, hn, rfl⟩ := List.getElem_of_mem hv
        have := a6 n (by omega)
        rw [List.getD_eq_getElem?_getD, List.getElem?_eq_getElem hn] at this; exact this
    · rw [List.getElem?_set_ne e] at hj
      have R := P.2.2 j r2 hj
      refine R.congr ?_
      obtain ⟨cj, hcj⟩ : ∃ c, h[hB.size + j]? = some c := ⟨_, Array.getElem?_eq_getElem R.lt⟩
      rw [hcj]; exact K.2.1 _ _ hcj (by simp only [List.mem_singleton]; intro q; exact e (Nat.add_left_cancel q).symm)
end Heaps
/-! String constants: what the tables book says its units, and is never written -/
def LI (Z : State) (EL : List (String × Nat)) (hB : Heap) (H : List Rec) (vm : Vm) (h : Heap) : Prop :=
  CHv Z EL vm h ∧ (∀ y, Bk Z EL vm h y → y < hB.size ∨ ∃ (i : Nat) (c : Cell), y = hB.size + i ∧ H[i]? = some (Sum.inr c)) ∧ ∃ a0, EW Z a0 EL
section LIs
variable {Z : State} {EL : List (String × Nat)} {hB h h' : Heap} {H : List Rec} {vm vm1 : Vm} {i sl : Nat} {v : Value}
theorem LI.safe (I : LI Z EL hB H vm h) {r : (String × List Key × List Value) ⊕ (FieldType × List Value)} (q : H[i]? = some (Sum.inl r)) : Safe Z EL vm h (hB.size + i) := fun B => by
  rcases I.2.1 _ B with z | ⟨j, c, e, f⟩
  · exact absurd z (Nat.not_lt.mpr (Nat.le_add_right _ _))
  · obtain rfl : i = j := Nat.add_left_cancel e
    rw [q] at f; cases f
theorem LI.stepSet (I : LI Z EL hB H vm h) {r r' : (String × List Key × List Value) ⊕ (FieldType × List Value)} (q : H[i]? = some (Sum.inl r)) (S : CHv Z EL vm h' ∧ ∀ y, Bk Z EL vm h' y → Bk Z EL vm h y) : LI Z EL hB (H.set i (Sum.inl r')) vm h' := by
  refine ⟨S.1, fun y B => ?_, I.2.2⟩
  rcases I.2.1 y (S.2 y B) with z | ⟨j, c, e, f⟩
  · exact Or.inl z
  · refine Or.inr ⟨j, c, e, ?_⟩
    rw [List.getElem?_set_ne (fun e2 => by subst e2; rw [q] at f; cases f)]; exact f
theorem LI.wr (I : LI Z EL hB H vm h) {r r' : (String × List Key × List Value) ⊕ (FieldType × List Value)} (q : H[i]? = some (Sum.inl r)) (W : Wr h h' (hB.size + i) sl v) : LI Z EL hB (H.set i (Sum.inl r')) vm h' := I.stepSet q (CHv.wrStep W (I.safe q) I.1)
theorem LI.keep (I : LI Z EL hB H vm h) {r r' : (String × List Key × List Value) ⊕ (FieldType × List Value)} (q : H[i]? = some (Sum.inl r)) (K : Keep h h' [hB.size + i]) : LI Z EL hB (H.set i (Sum.inl r')) vm h' := I.stepSet q (CHv.keepStep K (fun x hx => by rw [List.mem_singleton.mp hx]; exact I.safe q) I.1)
theorem LI.grow (I : LI Z EL hB H vm h) {M : List Rec} (S : CHv Z EL vm h' ∧ ∀ y, Bk Z EL vm h' y → Bk Z EL vm h y) : LI Z EL hB (H ++ M) vm h' := by
  refine ⟨S.1, fun y B => ?_, I.2.2⟩
  rcases I.2.1 y (S.2 y B) with z | ⟨j, c, e, f⟩
  · exact Or.inl z
  · exact Or.inr ⟨j, c, e, by rw [List.getElem?_append_left (List.getElem?_eq_some_iff.mp f).1]; exact f⟩
theorem LI.push (I : LI Z EL hB H vm h) {M : List Rec} (E : Ext h h') : LI Z EL hB (H ++ M) vm h' := I.grow (I.1.step fun _ _ _ q => E.2 _ _ q)
theorem LI.later (I : LI Z EL hB H vm h) (A : CHr Z EL vm h vm1 h) : LI Z EL hB H vm1 h := by
  refine ⟨A.1, fun y B => ?_, I.2.2⟩
  rcases A.2.2 y B with q | q
  · exact I.2.1 y q
  · obtain ⟨cell, z⟩ := B.there
    exact absurd (Array.getElem?_eq_some_iff.mp z).1 (Nat.not_lt.mpr q)
theorem LI.at {p : Program} {l : Launch} {e : Env} {R : Room} {s : State} {m : MethodId} {args : Array Value} {below : List Frame} {meth : Method} {c : Code} {T : State} {locs : List Loc} {cells slots : Nat} (I : LI Z EL hB H s.vm h) (hZ : Z.Warmed39 s.vm) (X : Stand p l e R s m args below meth c T locs cells slots) : LI Z EL hB H T.vm h := by
  obtain ⟨a0, hE⟩ := I.2.2
  exact I.later (CHv.at (s := s) (vm0 := s.vm) X hZ hE I.1)
end LIs
/-- what an array's place holds; an array with one place set -/
def gI (l : List Int32) (i : Int32) : Option Int32 := if i < 0 then none else l[i.toNatClampNeg]?
def sI (l : List Int32) (i x : Int32) : Option (List Int32) := if i < 0 then none else if i.toNatClampNeg < l.length then some (l.set i.toNatClampNeg x) else none
theorem gI_at {l : List Int32} {i x : Int32} (h : gI l i = some x) : ¬ i < 0 ∧ l[i.toNatClampNeg]? = some x := by
  unfold gI at h; split at h
  · cases h
  · rename_i q; exact ⟨q, h⟩
theorem sI_at {l l' : List Int32} {i x : Int32} (h : sI l i x = some l') : ¬ i < 0 ∧ i.toNatClampNeg < l.length ∧ l' = l.set i.toNatClampNeg x := by
  unfold sI at h; split at h
  · cases h
  · rename_i q; split at h
    · rename_i r; cases h; exact ⟨q, r, rfl⟩
    · cases h
def sJ (l : List Int64) (i : Int32) (x : Int64) : Option (List Int64) := if i < 0 then none else if i.toNatClampNeg < l.length then some (l.set i.toNatClampNeg x) else none
theorem sJ_at {l l' : List Int64} {i : Int32} {x : Int64} (h : sJ l i x = some l') : ¬ i < 0 ∧ i.toNatClampNeg < l.length ∧ l' = l.set i.toNatClampNeg x := by
  unfold sJ at h; split at h
  · cases h
  · rename_i q; split at h
    · rename_i r; cases h; exact ⟨q, r, rfl⟩
    · cases h
/-- one of several rows -/
def gR (l : List (List Int32)) (i : Int32) : Option (List Int32) := if i < 0 then none else l[i.toNatClampNeg]?
theorem gR_at {l : List (List Int32)} {i : Int32} {x : List Int32} (h : gR l i = some x) : ¬ i < 0 ∧ l[i.toNatClampNeg]? = some x := by
  unfold gR at h; split at h
  · cases h
  · rename_i q; exact ⟨q, h⟩
/-! lists of records in parts: F, G, then M -/
theorem getT {F G M : List Rec} {k : Nat} {r : Rec} (h : M[k]? = some r) : (F ++ (G ++ M))[F.length + G.length + k]? = some r := by
  rw [List.getElem?_append_right (by omega), List.getElem?_append_right (by omega)]
  rw [show F.length + G.length + k - F.length - G.length = k from by omega]; exact h
theorem setT {F G M : List Rec} {k : Nat} {r : Rec} : (F ++ (G ++ M)).set (F.length + G.length + k) r = F ++ (G ++ M.set k r) := by
  rw [List.set_append_right _ _ (by omega), List.set_append_right _ _ (by omega)]
  rw [show F.length + G.length + k - F.length - G.length = k from by omega]
theorem pushT {F G M : List Rec} {r : Rec} : F ++ (G ++ M) ++ [r] = F ++ (G ++ (M ++ [r])) := by simp [List.append_assoc]
theorem lenT {F G M : List Rec} : (F ++ (G ++ M)).length = F.length + G.length + M.length := by simp [Nat.add_assoc]
theorem getE {M K : List Rec} {e : Rec} {n : Nat} (h : M.length = n) : (M ++ (K ++ [e]))[K.length + n]? = some e := by
  subst h; rw [List.getElem?_append_right (by omega), show K.length + M.length - M.length = K.length from by omega]; simp
theorem setTE {F G M K : List Rec} {e r : Rec} {n : Nat} (h : M.length = n) : (F ++ (G ++ (M ++ (K ++ [e])))).set (F.length + G.length + (K.length + n)) r = F ++ (G ++ (M ++ (K ++ [r]))) := by
  subst h
  rw [setT, List.set_append_right _ _ (by omega), show K.length + M.length - M.length = K.length from by omega]; simp
theorem pushTK {F G M K : List Rec} {r : Rec} : F ++ (G ++ (M ++ K)) ++ [r] = F ++ (G ++ (M ++ (K ++ [r]))) := by simp [List.append_assoc]
theorem setSelf {H : List Rec} {i : Nat} {r : Rec} (h : H[i]? = some r) : H.set i r = H := by
  obtain ⟨h1, h2⟩ := List.getElem?_eq_some_iff.mp h
  rw [← h2]; exact List.set_getElem_self h1
section Walk
/-- the walk comes to its return -/
def End2 (Z : State) (EL : List (String × Nat)) (hB : Heap) (R : Room) (Q : Option Value → List Rec → Prop) (s : State) (below : List Frame) (k0 : Nat) (U : State) (o : Outcome) : Prop :=
  U.status = .running ∧ Ended U below o ∧ k0 ≤ U.heap.size ∧ ∃ v L H', o = .returned v ∧ Q v H' ∧ Hp Z hB U.heap H' ∧ LI Z EL hB H' U.vm U.heap ∧ Fr hB.size L ∧ ReturnedEndW s o U L R.cells R.slots
def Done (Z : State) (EL : List (String × Nat)) (hB : Heap) (R : Room) (Q : Option Value → List Rec → Prop) (p : Program) (e : Env) (s : State) (below : List Frame) (k0 : Nat) (S0 : State) : Prop :=
  ∃ U o, Steps p.tables e below S0 U ∧ End2 Z EL hB R Q s below k0 U o
theorem End2.re {Z : State} {EL : List (String × Nat)} {hB : Heap} {R : Room} {Q : Option Value → List Rec → Prop} {s : State} {below : List Frame} {k0 k1 : Nat} {U : State} {o : Outcome} {vm1 : Vm} (hS : s.Since vm1 k1) (hk : k0 ≤ k1) (h : End2 Z EL hB R Q (s.setVm vm1) below k1 U o) : End2 Z EL hB R Q s below k0 U o := by
  obtain ⟨h1, h2, h3, v, L, H', h4, h5, h6, h7, h8, h9⟩ := h
  have q := hS.trans (vm₂ := U.vm) (n₂ := U.heap.size) ⟨h9.2.1, h9.2.2.1⟩ h3
  exact ⟨h1, h2, Nat.le_trans hk h3, v, L, H', h4, h5, h6, h7, h8, h9.1, q.1, q.2, h9.2.2.2.setVm s.vm⟩
def Cx (Z : State) (hB : Heap) (y : MethodName) (bytes : ByteArray) (ml : Nat) (ret : Option FieldType) (n1 : Nat) (p : Program) (s : State) (m : MethodId) (meth : Method) (c : Code) : Prop :=
  p.tables.exec = Jvm.exec ∧ Z.Warmed39 s.vm ∧ c.code = bytes ∧ c.maxLocals = ml ∧ s.vm.findClass y.cls = some m.cls ∧ meth.name = y.name ∧ meth.sig.returnType = ret ∧ meth.locks = false ∧ s.heap.size = hB.size + n1
theorem Cx.re {Z : State} {hB : Heap} {y : MethodName} {bytes : ByteArray} {ml : Nat} {ret : Option FieldType} {n1 : Nat} {p : Program} {s : State} {m : MethodId} {meth : Method} {c : Code} {vm1 : Vm} {k : Nat} (C : Cx Z hB y bytes ml ret n1 p s m meth c) (hS : s.Since vm1 k) : Cx Z hB y bytes ml ret n1 p (s.setVm vm1) m meth c :=
  ⟨C.1, State.Warmed39.trans C.2.1 hS.1, C.2.2.1, C.2.2.2.1, (by show vm1.findClass y.cls = some m.cls; rw [hS.1.alike.findClass]; exact C.2.2.2.2.1), C.2.2.2.2.2.1, C.2.2.2.2.2.2.1, C.2.2.2.2.2.2.2.1, C.2.2.2.2.2.2.2.2⟩
def WP (l : LE) (Z : State) (hB : Heap) (y : MethodName) (bytes : ByteArray) (ml : Nat) (ret : Option FieldType) (R : Room) (n1 : Nat) (Q : Option Value → List Rec → Prop) (sl : Nat) (H : List Rec) (pc : Nat) (Ls : Array Slot) (st : List Value) : Prop :=
  ∀ p e s m args below meth c, Cx Z hB y bytes ml ret n1 p s m meth c → ∀ T locs cells slots, Stand p l.1 e R s m args below meth c T locs cells slots → Fr hB.size locs → Hp Z hB T.heap H → slots ≤ sl → LI Z l.2 hB H s.vm T.heap →
    Done Z l.2 hB R Q p e s below T.heap.size (T.setTop (mkF m pc Ls st))
/-- a method's contract at given arguments and records -/
def Ctr (l : LE) (Z : State) (hB : Heap) (y : MethodName) (bytes : ByteArray) (ml : Nat) (ret : Option FieldType) (ws : List Jvm.Cond) (rm : Room) (as' : Array Value) (H : List Rec) (Q : Option Value → List Rec → Prop) : Prop :=
  MetFree l.1 y (head1 (Jvm.Cond.code y bytes ml ret :: ws) rm) (fun a U => a = as' ∧ Z.Warmed39 U.vm ∧ Hp Z hB U.heap H ∧ LI Z l.2 hB H U.vm U.heap) (fun _ _ _ _ _ => True)
    (fun _ U o U' => ∃ v L H', o = .returned v ∧ Q v H' ∧ Hp Z hB U'.heap H' ∧ LI Z l.2 hB H' U'.vm U'.heap ∧ Fr hB.size L ∧ ReturnedEndW U o U' L rm.cells rm.slots)
variable {l : LE} {Z : State} {hB : Heap} {y : MethodName} {bytes : ByteArray} {ml : Nat} {ret : Option FieldType} {R : Room} {n1 : Nat} {Q : Option Value → List Rec → Prop} {sl : Nat} {H H' : List Rec} {pc pc' : Nat} {Ls Ls' : Array Slot} {st st' rest : List Value} {a0 : Array Value}
theorem exact' {p : Program} {l : Launch} {e : Env} {R : Room} {s : State} {m : MethodId} {args : Array Value} {below : List Frame} {meth : Method} {c : Code} {T : State} {locs : List Loc} {cells slots : Nat} (X : Stand p l e R s m args below meth c T locs cells slots) {k : Nat} (hk : T.heap.size ≤ s.heap.size + k) : Stand p l e R s m args below meth c T locs k slots :=
  { X with same := ⟨X.same.1, X.same.2.1, hk, X.same.2.2.2⟩ }
theorem ctr {ws : List Jvm.Cond} {as' : Array Value} (hpn : plainFor y = true) (ef : ∀ m, entryFrame m as' ml = mkF m 0 Ls []) (h : WP l Z hB y bytes ml ret R H.length Q 0 H 0 Ls []) : Ctr l Z hB y bytes ml ret ws R as' H Q := by
  refine MetFree.of_bodySF hpn hisR ?_
  intro p e s m args below meth c s₁ Bd hml0 hP hK
  obtain ⟨rfl, hZ, hh, hI⟩ := hP
  have X0 := Stand.of_body Bd
  have e0 : s₁.heap = s.heap := by rw [Bd.state]; rfl
  obtain ⟨U, o, st, h1, h2, -, v, L, H', ho, hq, hp, hi, hf, hfe⟩ := h p e s m _ below meth c ⟨Bd.exec, hZ, Bd.bytes, hml0, findClass_of_methodNamed Bd.named, (name_of_methodNamed Bd.named Bd.method).1, Bd.returns, Bd.notSynchronized, hh.1⟩ s₁ [] 0 0 X0 (Fr.nil _) (by rw [e0]; exact hh) (Nat.zero_le _) (by rw [e0]; exact hI)
  exact ⟨U, o, castTop (ef m) st, h1, h2, v, L, H', ho, hq, hp, hi, hf, hfe⟩
/-- a step that leaves the state as it is, but for the frame -/
theorem WP.step (k : ∀ (p : Program) (e : Env) (s : State) (m : MethodId) (args : Array Value) (below : List Frame) (meth : Method) (c : Code) (T : State) (locs : List Loc) (cells slots : Nat), Cx Z hB y bytes ml ret n1 p s m meth c → Stand p l.1 e R s m args below meth c T locs cells slots → Hp Z hB T.heap H → ∀ target, Steps p.tables e below (T.setTop (mkF m pc' Ls' st')) target → Steps p.tables e below (T.setTop (mkF m pc Ls st)) target)
    (hr : WP l Z hB y bytes ml ret R n1 Q sl H pc' Ls' st') : WP l Z hB y bytes ml ret R n1 Q sl H pc Ls st := by
  intro p e s m args below meth c C T locs cells slots X N P hs I
  obtain ⟨U, o, h1, h2⟩ := hr p e s m args below meth c C T locs cells slots X N P hs I
  exact ⟨U, o, k p e s m args below meth c T locs cells slots C X P U h1, h2⟩
/-- a step that warms the tables -/
theorem WP.stepT (k : ∀ (p : Program) (e : Env) (s : State) (m : MethodId) (args : Array Value) (below : List Frame) (meth : Method) (c : Code) (T : State) (locs : List Loc) (cells slots : Nat), Cx Z hB y bytes ml ret n1 p s m meth c → Stand p l.1 e R s m args below meth c T locs cells slots → Hp Z hB T.heap H → ∃ T', Stand p l.1 e R s m args below meth c T' locs cells slots ∧ T'.heap = T.heap ∧ ∀ target, Steps p.tables e below (T'.setTop (mkF m pc' Ls' st')) target → Steps p.tables e below (T.setTop (mkF m pc Ls st)) target)
    (hr : WP l Z hB y bytes ml ret R n1 Q sl H pc' Ls' st') : WP l Z hB y bytes ml ret R n1 Q sl H pc Ls st := by
  intro p e s m args below meth c C T locs cells slots X N P hs I
  obtain ⟨T', X', e', k'⟩ := k p e s m args below meth c T locs cells slots C X P
  obtain ⟨U, o, h1, h2⟩ := hr p e s m args below meth c C T' locs cells slots X' N (by rw [e']; exact P) hs (by rw [e']; exact I)
  rw [e'] at h2
  exact ⟨U, o, k' U h1, h2⟩
/-- a step that moves the heap -/
theorem WP.stepH {sl' : Nat} (hle : H.length ≤ H'.length) (k : ∀ (p : Program) (e : Env) (s : State) (m : MethodId) (args : Array Value) (below : List Frame) (meth : Method) (c : Code) (T : State) (locs : List Loc) (cells slots : Nat), Cx Z hB y bytes ml ret n1 p s m meth c → Stand p l.1 e R s m args below meth c T locs cells slots → T.heap.size = s.heap.size + cells → Fr hB.size locs → Hp Z hB T.heap H → slots ≤ sl → LI Z l.2 hB H s.vm T.heap →
      ∃ T' locs' cells' slots', Stand p l.1 e R s m args below meth c T' locs' cells' slots' ∧ Fr hB.size locs' ∧ Hp Z hB T'.heap H' ∧ LI Z l.2 hB H' s.vm T'.heap ∧ slots' ≤ sl' ∧ ∀ target, Steps p.tables e below (T'.setTop (mkF m pc' Ls' st')) target → Steps p.tables e below (T.setTop (mkF m pc Ls st)) target)
    (hr : WP l Z hB y bytes ml ret R n1 Q sl' H' pc' Ls' st') : WP l Z hB y bytes ml ret R n1 Q sl H pc Ls st := by
  intro p e s m args below meth c C T locs cells slots X N P hs I
  have hz : T.heap.size = s.heap.size + (T.heap.size - s.heap.size) := by have := X.same.2.1; have : s.heap.size ≤ T.heap.size := this; omega
  obtain ⟨T', locs', cells', slots', X', N', P', I', hs', k'⟩ := k p e s m args below meth c T locs _ slots C (exact' X (Nat.le_of_eq hz)) hz N P hs I
  obtain ⟨U, o, h1, h2, h3, h4, h5⟩ := hr p e s m args below meth c C T' locs' cells' slots' X' N' P' hs' I'
  have e1 := P.1
  have e2 := P'.1
  exact ⟨U, o, k' U h1, h2, h3, Nat.le_trans (by omega) h4, h5⟩
theorem WP.heap (e : H = H') (h : WP l Z hB y bytes ml ret R n1 Q sl H' pc Ls st) : WP l Z hB y bytes ml ret R n1 Q sl H pc Ls st := e ▸ h
theorem WP.monoQ {Q' : Option Value → List Rec → Prop} (hq : ∀ v H, Q v H → Q' v H) (h : WP l Z hB y bytes ml ret R n1 Q sl H pc Ls st) : WP l Z hB y bytes ml ret R n1 Q' sl H pc Ls st := by
  intro p e s m args below meth c C T locs cells slots X N P hs I
  obtain ⟨U, o, h1, h2, h3, h0, v, L, H', h4, h5, h6⟩ := h p e s m args below meth c C T locs cells slots X N P hs I
  exact ⟨U, o, h1, h2, h3, h0, v, L, H', h4, hq _ _ h5, h6⟩
theorem WP.mono {sl' : Nat} (hs : sl ≤ sl') (h : WP l Z hB y bytes ml ret R n1 Q sl' H pc Ls st) : WP l Z hB y bytes ml ret R n1 Q sl H pc Ls st := by
  intro p e s m args below meth c C T locs cells slots X N P hs' I
  exact h p e s m args below meth c C T locs cells slots X N P (Nat.le_trans hs' hs) I
theorem aloadN {k : Fin 4} {v : Value} (hd : decode bytes pc = .ok (.aload_n k, 1)) (hl : Ls[k.val]? = some (.val v)) (hv : v.isRef = true) (hp : pc + 1 = pc') (hr : WP l Z hB y bytes ml ret R n1 Q sl H pc' Ls (v :: st)) : WP l Z hB y bytes ml ret R n1 Q sl H pc Ls (st) := by
  subst hp
  exact WP.step (fun p e s m args below meth c T locs cells slots C X _ tgt h => XS.aloadN X.here C.1 rfl (hb C.2.2.1 hd) hl hv h) hr
theorem aload {k : Nat} {v : Value} (hd : decode bytes pc = .ok (.aload k, 2)) (hl : Ls[k]? = some (.val v)) (hv : v.isRef = true) (hp : pc + 2 = pc') (hr : WP l Z hB y bytes ml ret R n1 Q sl H pc' Ls (v :: st)) : WP l Z hB y bytes ml ret R n1 Q sl H pc Ls (st) := by
  subst hp
  exact WP.step (fun p e s m args below meth c T locs cells slots C X _ tgt h => XS.aload X.here C.1 rfl (hb C.2.2.1 hd) hl hv h) hr
theorem iloadN {k : Fin 4} {x : Int32} (hd : decode bytes pc = .ok (.iload_n k, 1)) (hl : Ls[k.val]? = some (.val (.int x))) (hp : pc + 1 = pc') (hr : WP l Z hB y bytes ml ret R n1 Q sl H pc' Ls (.int x :: st)) : WP l Z hB y bytes ml ret R n1 Q sl H pc Ls (st) := by
  subst hp
  exact WP.step (fun p e s m args below meth c T locs cells slots C X _ tgt h => XS.iloadN X.here C.1 rfl (hb C.2.2.1 hd) hl h) hr
theorem iload {k : Nat} {x : Int32} (hd : decode bytes pc = .ok (.iload k, 2)) (hl : Ls[k]? = some (.val (.int x))) (hp : pc + 2 = pc') (hr : WP l Z hB y bytes ml ret R n1 Q sl H pc' Ls (.int x :: st)) : WP l Z hB y bytes ml ret R n1 Q sl H pc Ls (st) := by
  subst hp
  exact WP.step (fun p e s m args below meth c T locs cells slots C X _ tgt h => XS.iload X.here C.1 rfl (hb C.2.2.1 hd) hl h) hr
theorem lloadN {k : Fin 4} {x : Int64} (hd : decode bytes pc = .ok (.lload_n k, 1)) (hl : Ls[k.val]? = some (.val (.long x))) (hp : pc + 1 = pc') (hr : WP l Z hB y bytes ml ret R n1 Q sl H pc' Ls (.long x :: st)) : WP l Z hB y bytes ml ret R n1 Q sl H pc Ls (st) := by
  subst hp
  exact WP.step (fun p e s m args below meth c T locs cells slots C X _ tgt h => XT.lloadN X.here C.1 rfl (hb C.2.2.1 hd) hl h) hr
theorem lload {k : Nat} {x : Int64} (hd : decode bytes pc = .ok (.lload k, 2)) (hl : Ls[k]? = some (.val (.long x))) (hp : pc + 2 = pc') (hr : WP l Z hB y bytes ml ret R n1 Q sl H pc' Ls (.long x :: st)) : WP l Z hB y bytes ml ret R n1 Q sl H pc Ls (st) := by
  subst hp
  exact WP.step (fun p e s m args below meth c T locs cells slots C X _ tgt h => XT.lload X.here C.1 rfl (hb C.2.2.1 hd) hl h) hr
theorem iconst {i : Int} (x : Int32) (hd : decode bytes pc = .ok (.iconst i, 1)) (hv : Int32.ofInt i = x) (hp : pc + 1 = pc') (hr : WP l Z hB y bytes ml ret R n1 Q sl H pc' Ls (.int x :: st)) : WP l Z hB y bytes ml ret R n1 Q sl H pc Ls (st) := by
  subst hp
  exact WP.step (fun p e s m args below meth c T locs cells slots C X _ tgt h => XS.iconst X.here C.1 rfl (hb C.2.2.1 hd) (hv ▸ h)) hr
theorem bipush {i : Int} (x : Int32) (hd : decode bytes pc = .ok (.bipush i, 2)) (hv : (Int8.ofInt i).toInt32 = x) (hp : pc + 2 = pc') (hr : WP l Z hB y bytes ml ret R n1 Q sl H pc' Ls (.int x :: st)) : WP l Z hB y bytes ml ret R n1 Q sl H pc Ls (st) := by
  subst hp
  exact WP.step (fun p e s m args below meth c T locs cells slots C X _ tgt h => XS.bipush X.here C.1 rfl (hb C.2.2.1 hd) (hv ▸ h)) hr
theorem sipush {i : Int} (x : Int32) (hd : decode bytes pc = .ok (.sipush i, 3)) (hv : (Int16.ofInt i).toInt32 = x) (hp : pc + 3 = pc') (hr : WP l Z hB y bytes ml ret R n1 Q sl H pc' Ls (.int x :: st)) : WP l Z hB y bytes ml ret R n1 Q sl H pc Ls (st) := by
  subst hp
  exact WP.step (fun p e s m args below meth c T locs cells slots C X _ tgt h => XT.sipushV X.here C.1 rfl x (hb C.2.2.1 hd) hv h) hr
theorem lconst {k : Fin 2} (x : Int64) (hd : decode bytes pc = .ok (.lconst k, 1)) (hv : Int64.ofNat k = x) (hp : pc + 1 = pc') (hr : WP l Z hB y bytes ml ret R n1 Q sl H pc' Ls (.long x :: st)) : WP l Z hB y bytes ml ret R n1 Q sl H pc Ls (st) := by
  subst hp
  exact WP.step (fun p e s m args below meth c T locs cells slots C X _ tgt h => XT.lconst X.here C.1 rfl (hb C.2.2.1 hd) (hv ▸ h)) hr
theorem aconstNull  (hd : decode bytes pc = .ok (.aconst_null, 1)) (hp : pc + 1 = pc') (hr : WP l Z hB y bytes ml ret R n1 Q sl H pc' Ls (.null :: st)) : WP l Z hB y bytes ml ret R n1 Q sl H pc Ls (st) := by
  subst hp
  exact WP.step (fun p e s m args below meth c T locs cells slots C X _ tgt h => XS.aconstNull X.here C.1 rfl (hb C.2.2.1 hd) h) hr
theorem iadd {x z : Int32} (hd : decode bytes pc = .ok (.iadd, 1)) (hp : pc + 1 = pc') (hr : WP l Z hB y bytes ml ret R n1 Q sl H pc' Ls (.int (x + z) :: st)) : WP l Z hB y bytes ml ret R n1 Q sl H pc Ls (.int z :: .int x :: st) := by
  subst hp
  exact WP.step (fun p e s m args below meth c T locs cells slots C X _ tgt h => XS.iadd X.here C.1 rfl (hb C.2.2.1 hd) rfl h) hr
theorem isub {x z : Int32} (hd : decode bytes pc = .ok (.isub, 1)) (hp : pc + 1 = pc') (hr : WP l Z hB y bytes ml ret R n1 Q sl H pc' Ls (.int (x - z) :: st)) : WP l Z hB y bytes ml ret R n1 Q sl H pc Ls (.int z :: .int x :: st) := by
  subst hp
  exact WP.step (fun p e s m args below meth c T locs cells slots C X _ tgt h => XS.isub X.here C.1 rfl (hb C.2.2.1 hd) rfl h) hr
theorem iand {x z : Int32} (hd : decode bytes pc = .ok (.iand, 1)) (hp : pc + 1 = pc') (hr : WP l Z hB y bytes ml ret R n1 Q sl H pc' Ls (.int (x &&& z) :: st)) : WP l Z hB y bytes ml ret R n1 Q sl H pc Ls (.int z :: .int x :: st) := by
  subst hp
  exact WP.step (fun p e s m args below meth c T locs cells slots C X _ tgt h => XS.iand X.here C.1 rfl (hb C.2.2.1 hd) rfl h) hr
theorem imul {x z : Int32} (hd : decode bytes pc = .ok (.imul, 1)) (hp : pc + 1 = pc') (hr : WP l Z hB y bytes ml ret R n1 Q sl H pc' Ls (.int (x * z) :: st)) : WP l Z hB y bytes ml ret R n1 Q sl H pc Ls (.int z :: .int x :: st) := by
  subst hp
  exact WP.step (fun p e s m args below meth c T locs cells slots C X _ tgt h => XS.imul X.here C.1 rfl (hb C.2.2.1 hd) rfl h) hr
theorem ixor {x z : Int32} (hd : decode bytes pc = .ok (.ixor, 1)) (hp : pc + 1 = pc') (hr : WP l Z hB y bytes ml ret R n1 Q sl H pc' Ls (.int (x ^^^ z) :: st)) : WP l Z hB y bytes ml ret R n1 Q sl H pc Ls (.int z :: .int x :: st) := by
  subst hp
  exact WP.step (fun p e s m args below meth c T locs cells slots C X _ tgt h => XT.ixor X.here C.1 rfl (hb C.2.2.1 hd) rfl h) hr
theorem ior {x z : Int32} (hd : decode bytes pc = .ok (.ior, 1)) (hp : pc + 1 = pc') (hr : WP l Z hB y bytes ml ret R n1 Q sl H pc' Ls (.int (x ||| z) :: st)) : WP l Z hB y bytes ml ret R n1 Q sl H pc Ls (.int z :: .int x :: st) := by
  subst hp
  exact WP.step (fun p e s m args below meth c T locs cells slots C X _ tgt h => XT.ior X.here C.1 rfl (hb C.2.2.1 hd) rfl h) hr
theorem ishl {x z : Int32} (hd : decode bytes pc = .ok (.ishl, 1)) (hp : pc + 1 = pc') (hr : WP l Z hB y bytes ml ret R n1 Q sl H pc' Ls (.int (x <<< (z &&& 31)) :: st)) : WP l Z hB y bytes ml ret R n1 Q sl H pc Ls (.int z :: .int x :: st) := by
  subst hp
  exact WP.step (fun p e s m args below meth c T locs cells slots C X _ tgt h => XT.ishl X.here C.1 rfl (hb C.2.2.1 hd) rfl h) hr
theorem ishr {x z : Int32} (hd : decode bytes pc = .ok (.ishr, 1)) (hp : pc + 1 = pc') (hr : WP l Z hB y bytes ml ret R n1 Q sl H pc' Ls (.int (x >>> (z &&& 31)) :: st)) : WP l Z hB y bytes ml ret R n1 Q sl H pc Ls (.int z :: .int x :: st) := by
  subst hp
  exact WP.step (fun p e s m args below meth c T locs cells slots C X _ tgt h => XT.ishr X.here C.1 rfl (hb C.2.2.1 hd) rfl h) hr
theorem iushr {x z : Int32} (hd : decode bytes pc = .ok (.iushr, 1)) (hp : pc + 1 = pc') (hr : WP l Z hB y bytes ml ret R n1 Q sl H pc' Ls (.int (XT.ushr x z) :: st)) : WP l Z hB y bytes ml ret R n1 Q sl H pc Ls (.int z :: .int x :: st) := by
  subst hp
  exact WP.step (fun p e s m args below meth c T locs cells slots C X _ tgt h => XT.iushr X.here C.1 rfl (hb C.2.2.1 hd) rfl h) hr
theorem ladd {x z : Int64} (hd : decode bytes pc = .ok (.ladd, 1)) (hp : pc + 1 = pc') (hr : WP l Z hB y bytes ml ret R n1 Q sl H pc' Ls (.long (x + z) :: st)) : WP l Z hB y bytes ml ret R n1 Q sl H pc Ls (.long z :: .long x :: st) := by
  subst hp
  exact WP.step (fun p e s m args below meth c T locs cells slots C X _ tgt h => XT.ladd X.here C.1 rfl (hb C.2.2.1 hd) rfl h) hr
theorem lsub {x z : Int64} (hd : decode bytes pc = .ok (.lsub, 1)) (hp : pc + 1 = pc') (hr : WP l Z hB y bytes ml ret R n1 Q sl H pc' Ls (.long (x - z) :: st)) : WP l Z hB y bytes ml ret R n1 Q sl H pc Ls (.long z :: .long x :: st) := by
  subst hp
  exact WP.step (fun p e s m args below meth c T locs cells slots C X _ tgt h => XT.lsub X.here C.1 rfl (hb C.2.2.1 hd) rfl h) hr
theorem land {x z : Int64} (hd : decode bytes pc = .ok (.land, 1)) (hp : pc + 1 = pc') (hr : WP l Z hB y bytes ml ret R n1 Q sl H pc' Ls (.long (x &&& z) :: st)) : WP l Z hB y bytes ml ret R n1 Q sl H pc Ls (.long z :: .long x :: st) := by
  subst hp
  exact WP.step (fun p e s m args below meth c T locs cells slots C X _ tgt h => XT.land X.here C.1 rfl (hb C.2.2.1 hd) rfl h) hr
theorem lmul {x z : Int64} (hd : decode bytes pc = .ok (.lmul, 1)) (hp : pc + 1 = pc') (hr : WP l Z hB y bytes ml ret R n1 Q sl H pc' Ls (.long (x * z) :: st)) : WP l Z hB y bytes ml ret R n1 Q sl H pc Ls (.long z :: .long x :: st) := by
  subst hp
  exact WP.step (fun p e s m args below meth c T locs cells slots C X _ tgt h => XT.lmul X.here C.1 rfl (hb C.2.2.1 hd) rfl h) hr
theorem lushr {x : Int64} {z : Int32} (hd : decode bytes pc = .ok (.lushr, 1)) (hp : pc + 1 = pc') (hr : WP l Z hB y bytes ml ret R n1 Q sl H pc' Ls (.long (XT.ushrL x z) :: st)) : WP l Z hB y bytes ml ret R n1 Q sl H pc Ls (.int z :: .long x :: st) := by
  subst hp
  exact WP.step (fun p e s m args below meth c T locs cells slots C X _ tgt h => XT.lushr X.here C.1 rfl (hb C.2.2.1 hd) rfl h) hr
theorem lcmp {x z : Int64} (hd : decode bytes pc = .ok (.lcmp, 1)) (hp : pc + 1 = pc') (hr : WP l Z hB y bytes ml ret R n1 Q sl H pc' Ls (.int (XT.cmpL x z) :: st)) : WP l Z hB y bytes ml ret R n1 Q sl H pc Ls (.long z :: .long x :: st) := by
  subst hp
  exact WP.step (fun p e s m args below meth c T locs cells slots C X _ tgt h => XT.lcmp X.here C.1 rfl (hb C.2.2.1 hd) rfl h) hr
theorem idiv {x z : Int32} (hd : decode bytes pc = .ok (.idiv, 1)) (hz : z ≠ 0) (hp : pc + 1 = pc') (hr : WP l Z hB y bytes ml ret R n1 Q sl H pc' Ls (.int (x / z) :: st)) : WP l Z hB y bytes ml ret R n1 Q sl H pc Ls (.int z :: .int x :: st) := by
  subst hp
  exact WP.step (fun p e s m args below meth c T locs cells slots C X _ tgt h => XS.idiv X.here C.1 rfl (hb C.2.2.1 hd) rfl hz h) hr
theorem irem {x z : Int32} (hd : decode bytes pc = .ok (.irem, 1)) (hz : z ≠ 0) (hp : pc + 1 = pc') (hr : WP l Z hB y bytes ml ret R n1 Q sl H pc' Ls (.int (x % z) :: st)) : WP l Z hB y bytes ml ret R n1 Q sl H pc Ls (.int z :: .int x :: st) := by
  subst hp
  exact WP.step (fun p e s m args below meth c T locs cells slots C X _ tgt h => iremM X C.1 rfl (hb C.2.2.1 hd) rfl hz h) hr
theorem ineg {x : Int32} (hd : decode bytes pc = .ok (.ineg, 1)) (hp : pc + 1 = pc') (hr : WP l Z hB y bytes ml ret R n1 Q sl H pc' Ls (.int (-x) :: st)) : WP l Z hB y bytes ml ret R n1 Q sl H pc Ls (.int x :: st) := by
  subst hp
  exact WP.step (fun p e s m args below meth c T locs cells slots C X _ tgt h => XS.ineg X.here C.1 rfl (hb C.2.2.1 hd) rfl h) hr
theorem lneg {x : Int64} (hd : decode bytes pc = .ok (.lneg, 1)) (hp : pc + 1 = pc') (hr : WP l Z hB y bytes ml ret R n1 Q sl H pc' Ls (.long (-x) :: st)) : WP l Z hB y bytes ml ret R n1 Q sl H pc Ls (.long x :: st) := by
  subst hp
  exact WP.step (fun p e s m args below meth c T locs cells slots C X _ tgt h => XT.lneg X.here C.1 rfl (hb C.2.2.1 hd) rfl h) hr
theorem i2l {x : Int32} (hd : decode bytes pc = .ok (.i2l, 1)) (hp : pc + 1 = pc') (hr : WP l Z hB y bytes ml ret R n1 Q sl H pc' Ls (.long x.toInt64 :: st)) : WP l Z hB y bytes ml ret R n1 Q sl H pc Ls (.int x :: st) := by
  subst hp
  exact WP.step (fun p e s m args below meth c T locs cells slots C X _ tgt h => XT.i2l X.here C.1 rfl (hb C.2.2.1 hd) rfl h) hr
theorem l2i {x : Int64} (hd : decode bytes pc = .ok (.l2i, 1)) (hp : pc + 1 = pc') (hr : WP l Z hB y bytes ml ret R n1 Q sl H pc' Ls (.int x.toInt32 :: st)) : WP l Z hB y bytes ml ret R n1 Q sl H pc Ls (.long x :: st) := by
  subst hp
  exact WP.step (fun p e s m args below meth c T locs cells slots C X _ tgt h => XT.l2i X.here C.1 rfl (hb C.2.2.1 hd) rfl h) hr
theorem i2c {x : Int32} (hd : decode bytes pc = .ok (.i2c, 1)) (hp : pc + 1 = pc') (hr : WP l Z hB y bytes ml ret R n1 Q sl H pc' Ls (.int x.toUInt32.toUInt16.toUInt32.toInt32 :: st)) : WP l Z hB y bytes ml ret R n1 Q sl H pc Ls (.int x :: st) := by
  subst hp
  exact WP.step (fun p e s m args below meth c T locs cells slots C X _ tgt h => XT.i2c X.here C.1 rfl (hb C.2.2.1 hd) rfl h) hr
theorem i2b {x : Int32} (hd : decode bytes pc = .ok (.i2b, 1)) (hp : pc + 1 = pc') (hr : WP l Z hB y bytes ml ret R n1 Q sl H pc' Ls (.int x.toInt8.toInt32 :: st)) : WP l Z hB y bytes ml ret R n1 Q sl H pc Ls (.int x :: st) := by
  subst hp
  exact WP.step (fun p e s m args below meth c T locs cells slots C X _ tgt h => XT.i2b X.here C.1 rfl (hb C.2.2.1 hd) rfl h) hr
theorem dup {v : Value} (hd : decode bytes pc = .ok (.dup, 1)) (hc : v.category = 1) (hp : pc + 1 = pc') (hr : WP l Z hB y bytes ml ret R n1 Q sl H pc' Ls (v :: v :: st)) : WP l Z hB y bytes ml ret R n1 Q sl H pc Ls (v :: st) := by
  subst hp
  exact WP.step (fun p e s m args below meth c T locs cells slots C X _ tgt h => XS.dup X.here C.1 rfl (hb C.2.2.1 hd) rfl hc h) hr
theorem dupX1 {v w : Value} (hd : decode bytes pc = .ok (.dup_x1, 1)) (hc : v.category = 1) (hc2 : w.category = 1) (hp : pc + 1 = pc') (hr : WP l Z hB y bytes ml ret R n1 Q sl H pc' Ls (v :: w :: v :: st)) : WP l Z hB y bytes ml ret R n1 Q sl H pc Ls (v :: w :: st) := by
  subst hp
  exact WP.step (fun p e s m args below meth c T locs cells slots C X _ tgt h => XT.dupX1 X.here C.1 rfl (hb C.2.2.1 hd) rfl hc hc2 h) hr
theorem dup2 {v w : Value} (hd : decode bytes pc = .ok (.dup2, 1)) (hc : v.category = 1) (hc2 : w.category = 1) (hp : pc + 1 = pc') (hr : WP l Z hB y bytes ml ret R n1 Q sl H pc' Ls (v :: w :: v :: w :: st)) : WP l Z hB y bytes ml ret R n1 Q sl H pc Ls (v :: w :: st) := by
  subst hp
  exact WP.step (fun p e s m args below meth c T locs cells slots C X _ tgt h => XT.dup2 X.here C.1 rfl (hb C.2.2.1 hd) rfl hc hc2 h) hr
theorem popV {v : Value} (hd : decode bytes pc = .ok (.pop, 1)) (hc : v.category = 1) (hp : pc + 1 = pc') (hr : WP l Z hB y bytes ml ret R n1 Q sl H pc' Ls (st)) : WP l Z hB y bytes ml ret R n1 Q sl H pc Ls (v :: st) := by
  subst hp
  exact WP.step (fun p e s m args below meth c T locs cells slots C X _ tgt h => XT.pop X.here C.1 rfl (hb C.2.2.1 hd) rfl hc h) hr
theorem istoreN {k : Fin 4} {x : Int32} (hd : decode bytes pc = .ok (.istore_n k, 1)) (hl : storeLocals Ls k.val (.int x) = some Ls') (hp : pc + 1 = pc') (hr : WP l Z hB y bytes ml ret R n1 Q sl H pc' Ls' (st)) : WP l Z hB y bytes ml ret R n1 Q sl H pc Ls (.int x :: st) := by
  subst hp
  exact WP.step (fun p e s m args below meth c T locs cells slots C X _ tgt h => XS.istoreN X.here C.1 rfl (hb C.2.2.1 hd) rfl hl h) hr
theorem istore {k : Nat} {x : Int32} (hd : decode bytes pc = .ok (.istore k, 2)) (hl : storeLocals Ls k (.int x) = some Ls') (hp : pc + 2 = pc') (hr : WP l Z hB y bytes ml ret R n1 Q sl H pc' Ls' (st)) : WP l Z hB y bytes ml ret R n1 Q sl H pc Ls (.int x :: st) := by
  subst hp
  exact WP.step (fun p e s m args below meth c T locs cells slots C X _ tgt h => XS.istore X.here C.1 rfl (hb C.2.2.1 hd) rfl hl h) hr
theorem lstoreN {k : Fin 4} {x : Int64} (hd : decode bytes pc = .ok (.lstore_n k, 1)) (hl : storeLocals Ls k.val (.long x) = some Ls') (hp : pc + 1 = pc') (hr : WP l Z hB y bytes ml ret R n1 Q sl H pc' Ls' (st)) : WP l Z hB y bytes ml ret R n1 Q sl H pc Ls (.long x :: st) := by
  subst hp
  exact WP.step (fun p e s m args below meth c T locs cells slots C X _ tgt h => XT.lstoreN X.here C.1 rfl (hb C.2.2.1 hd) rfl hl h) hr
theorem lstore {k : Nat} {x : Int64} (hd : decode bytes pc = .ok (.lstore k, 2)) (hl : storeLocals Ls k (.long x) = some Ls') (hp : pc + 2 = pc') (hr : WP l Z hB y bytes ml ret R n1 Q sl H pc' Ls' (st)) : WP l Z hB y bytes ml ret R n1 Q sl H pc Ls (.long x :: st) := by
  subst hp
  exact WP.step (fun p e s m args below meth c T locs cells slots C X _ tgt h => XT.lstore X.here C.1 rfl (hb C.2.2.1 hd) rfl hl h) hr
theorem astoreN {k : Fin 4} {v : Value} (hd : decode bytes pc = .ok (.astore_n k, 1)) (hv : v.isRef = true) (hl : storeLocals Ls k.val v = some Ls') (hp : pc + 1 = pc') (hr : WP l Z hB y bytes ml ret R n1 Q sl H pc' Ls' (st)) : WP l Z hB y bytes ml ret R n1 Q sl H pc Ls (v :: st) := by
  subst hp
  exact WP.step (fun p e s m args below meth c T locs cells slots C X _ tgt h => XS.astoreN X.here C.1 rfl (hb C.2.2.1 hd) rfl hv hl h) hr
theorem astore {k : Nat} {v : Value} (hd : decode bytes pc = .ok (.astore k, 2)) (hv : v.isRef = true) (hl : storeLocals Ls k v = some Ls') (hp : pc + 2 = pc') (hr : WP l Z hB y bytes ml ret R n1 Q sl H pc' Ls' (st)) : WP l Z hB y bytes ml ret R n1 Q sl H pc Ls (v :: st) := by
  subst hp
  exact WP.step (fun p e s m args below meth c T locs cells slots C X _ tgt h => XS.astore X.here C.1 rfl (hb C.2.2.1 hd) rfl hv hl h) hr
theorem iinc {k : Nat} {cst : Int} {x : Int32} (z : Int32) (hd : decode bytes pc = .ok (.iinc k cst, 3)) (hl : Ls[k]? = some (.val (.int x))) (hz : x + Int32.ofInt cst = z) (hl' : storeLocals Ls k (.int z) = some Ls') (hp : pc + 3 = pc') (hr : WP l Z hB y bytes ml ret R n1 Q sl H pc' Ls' (st)) : WP l Z hB y bytes ml ret R n1 Q sl H pc Ls (st) := by
  subst hp
  exact WP.step (fun p e s m args below meth c T locs cells slots C X _ tgt h => XS.iinc X.here C.1 rfl (hb C.2.2.1 hd) hl (hz ▸ hl') h) hr
theorem goTo  {o : Int} (hd : decode bytes pc = .ok (.goto o, 3)) (ho : 0 ≤ (pc : Int) + o) (hp : ((pc : Int) + o).toNat = pc') (hr : WP l Z hB y bytes ml ret R n1 Q sl H pc' Ls st) : WP l Z hB y bytes ml ret R n1 Q sl H pc Ls (st) :=
  WP.step (fun p e s m args below meth c T locs cells slots C X _ tgt h => XS.goto X.here C.1 rfl rfl (hb C.2.2.1 hd) ho hp h) hr
theorem ifY {cd : ClassFile.Cond} {x : Int32} {o : Int} (hd : decode bytes pc = .ok (.ifCond cd o, 3)) (hc : ifCond.holds cd x = true) (ho : 0 ≤ (pc : Int) + o) (hp : ((pc : Int) + o).toNat = pc') (hr : WP l Z hB y bytes ml ret R n1 Q sl H pc' Ls st) : WP l Z hB y bytes ml ret R n1 Q sl H pc Ls (.int x :: st) :=
  WP.step (fun p e s m args below meth c T locs cells slots C X _ tgt h => XS.ifYes X.here C.1 rfl rfl (hb C.2.2.1 hd) rfl hc ho hp h) hr
theorem ifN {cd : ClassFile.Cond} {x : Int32} {o : Int} (hd : decode bytes pc = .ok (.ifCond cd o, 3)) (hc : ifCond.holds cd x = false) (hp : pc + 3 = pc') (hr : WP l Z hB y bytes ml ret R n1 Q sl H pc' Ls st) : WP l Z hB y bytes ml ret R n1 Q sl H pc Ls (.int x :: st) := by
  subst hp
  exact WP.step (fun p e s m args below meth c T locs cells slots C X _ tgt h => XS.ifNo X.here C.1 rfl (hb C.2.2.1 hd) rfl hc h) hr
theorem icY {cd : ClassFile.Cond} {x z : Int32} {o : Int} (hd : decode bytes pc = .ok (.if_icmp cd o, 3)) (hc : if_icmp.holds cd x z = true) (ho : 0 ≤ (pc : Int) + o) (hp : ((pc : Int) + o).toNat = pc') (hr : WP l Z hB y bytes ml ret R n1 Q sl H pc' Ls st) : WP l Z hB y bytes ml ret R n1 Q sl H pc Ls (.int z :: .int x :: st) :=
  WP.step (fun p e s m args below meth c T locs cells slots C X _ tgt h => XS.icmpYes X.here C.1 rfl rfl (hb C.2.2.1 hd) rfl hc ho hp h) hr
theorem icN {cd : ClassFile.Cond} {x z : Int32} {o : Int} (hd : decode bytes pc = .ok (.if_icmp cd o, 3)) (hc : if_icmp.holds cd x z = false) (hp : pc + 3 = pc') (hr : WP l Z hB y bytes ml ret R n1 Q sl H pc' Ls st) : WP l Z hB y bytes ml ret R n1 Q sl H pc Ls (.int z :: .int x :: st) := by
  subst hp
  exact WP.step (fun p e s m args below meth c T locs cells slots C X _ tgt h => XS.icmpNo X.here C.1 rfl (hb C.2.2.1 hd) rfl hc h) hr
theorem nullY  {o : Int} (hd : decode bytes pc = .ok (.ifnull o, 3)) (ho : 0 ≤ (pc : Int) + o) (hp : ((pc : Int) + o).toNat = pc') (hr : WP l Z hB y bytes ml ret R n1 Q sl H pc' Ls st) : WP l Z hB y bytes ml ret R n1 Q sl H pc Ls (.null :: st) :=
  WP.step (fun p e s m args below meth c T locs cells slots C X _ tgt h => XS.ifnullYes X.here C.1 rfl rfl (hb C.2.2.1 hd) rfl ho hp h) hr
theorem nullN {b : Addr} {o : Int} (hd : decode bytes pc = .ok (.ifnull o, 3)) (hp : pc + 3 = pc') (hr : WP l Z hB y bytes ml ret R n1 Q sl H pc' Ls st) : WP l Z hB y bytes ml ret R n1 Q sl H pc Ls (.ref b :: st) := by
  subst hp
  exact WP.step (fun p e s m args below meth c T locs cells slots C X _ tgt h => XS.ifnullNo X.here C.1 rfl (hb C.2.2.1 hd) rfl h) hr
theorem nonnullY {b : Addr} {o : Int} (hd : decode bytes pc = .ok (.ifnonnull o, 3)) (ho : 0 ≤ (pc : Int) + o) (hp : ((pc : Int) + o).toNat = pc') (hr : WP l Z hB y bytes ml ret R n1 Q sl H pc' Ls st) : WP l Z hB y bytes ml ret R n1 Q sl H pc Ls (.ref b :: st) :=
  WP.step (fun p e s m args below meth c T locs cells slots C X _ tgt h => XT.ifnonnullYes X.here C.1 rfl rfl (hb C.2.2.1 hd) rfl ho hp h) hr
theorem nonnullN  {o : Int} (hd : decode bytes pc = .ok (.ifnonnull o, 3)) (hp : pc + 3 = pc') (hr : WP l Z hB y bytes ml ret R n1 Q sl H pc' Ls st) : WP l Z hB y bytes ml ret R n1 Q sl H pc Ls (.null :: st) := by
  subst hp
  exact WP.step (fun p e s m args below meth c T locs cells slots C X _ tgt h => XT.ifnonnullNo X.here C.1 rfl (hb C.2.2.1 hd) rfl h) hr
theorem acY {cd : ClassFile.ACond} {v w : Value} {o : Int} (hd : decode bytes pc = .ok (.if_acmp cd o, 3)) (hv : v.isRef = true) (hw : w.isRef = true) (hc : XT.acmp cd v w = true) (ho : 0 ≤ (pc : Int) + o) (hp : ((pc : Int) + o).toNat = pc') (hr : WP l Z hB y bytes ml ret R n1 Q sl H pc' Ls st) : WP l Z hB y bytes ml ret R n1 Q sl H pc Ls (w :: v :: st) :=
  WP.step (fun p e s m args below meth c T locs cells slots C X _ tgt h => XT.acmpYes X.here C.1 rfl rfl (hb C.2.2.1 hd) rfl hv hw hc ho hp h) hr
theorem acN {cd : ClassFile.ACond} {v w : Value} {o : Int} (hd : decode bytes pc = .ok (.if_acmp cd o, 3)) (hv : v.isRef = true) (hw : w.isRef = true) (hc : XT.acmp cd v w = false) (hp : pc + 3 = pc') (hr : WP l Z hB y bytes ml ret R n1 Q sl H pc' Ls st) : WP l Z hB y bytes ml ret R n1 Q sl H pc Ls (w :: v :: st) := by
  subst hp
  exact WP.step (fun p e s m args below meth c T locs cells slots C X _ tgt h => XT.acmpNo X.here C.1 rfl (hb C.2.2.1 hd) rfl hv hw hc h) hr
theorem tswIn {dflt low high : Int} {offs : Array Int} {len : Nat} {o : Int} {i : Int32} (hd : decode bytes pc = .ok (.tableswitch dflt low high offs, len)) (hin : ¬ (i.toInt < low ∨ i.toInt > high)) (hoff : offs[(i.toInt - low).toNat]? = some o) (ho : 0 ≤ (pc : Int) + o) (hp : ((pc : Int) + o).toNat = pc') (hr : WP l Z hB y bytes ml ret R n1 Q sl H pc' Ls st) : WP l Z hB y bytes ml ret R n1 Q sl H pc Ls (.int i :: st) :=
  WP.step (fun p e s m args below meth c T locs cells slots C X _ tgt h => XS.tswIn X.here C.1 rfl rfl (hb C.2.2.1 hd) rfl hin hoff ho hp h) hr
theorem dupX2 {u v w : Value} (hd : decode bytes pc = .ok (.dup_x2, 1)) (h1 : u.category = 1) (h2 : v.category = 1) (h3 : w.category = 1) (hp : pc + 1 = pc') (hr : WP l Z hB y bytes ml ret R n1 Q sl H pc' Ls (u :: v :: w :: u :: st)) : WP l Z hB y bytes ml ret R n1 Q sl H pc Ls (u :: v :: w :: st) := by
  subst hp
  refine WP.step (fun p e s m args below meth c T locs cells slots C X _ tgt h => ?_) hr
  have hx := C.1
  have hd' := (hb C.2.2.1 hd)
  jvm_step X.here [X.here.top, hx, hd', h1, h2, h3]
  exact h
theorem pop2L {x : Int64} (hd : decode bytes pc = .ok (.pop2, 1)) (hp : pc + 1 = pc') (hr : WP l Z hB y bytes ml ret R n1 Q sl H pc' Ls st) : WP l Z hB y bytes ml ret R n1 Q sl H pc Ls (.long x :: st) := by
  subst hp
  refine WP.step (fun p e s m args below meth c T locs cells slots C X _ tgt h => ?_) hr
  have hx := C.1
  have hd' := (hb C.2.2.1 hd)
  jvm_step X.here [X.here.top, hx, hd', Value.category]
  exact h
theorem getFl {a : Addr} {R0 O n d host : String} {v : Value} {index : Nat} (hd : decode bytes pc = .ok (.getfield index, 3)) (w : (Jvm.Cond.fieldLink y.cls index R0 n d).before a0 Z = true ∨ (Jvm.Cond.fieldLinkNest y.cls index R0 n d host).before a0 Z = true) (via : Via Z R0 O n d) (F : ∀ h, Hp Z hB h H → Fld Z h a O n d v) (hp : pc + 3 = pc') (hr : WP l Z hB y bytes ml ret R n1 Q sl H pc' Ls (v :: st)) : WP l Z hB y bytes ml ret R n1 Q sl H pc Ls (.ref a :: st) := by
  subst hp
  exact WP.stepT (fun p e s m args below meth c T locs cells slots C X P => getF X C.1 C.2.1 C.2.2.2.2.1 w via rfl (F _ P) (g := mkF m pc Ls (.ref a :: st)) rfl rfl (hb C.2.2.1 hd)) hr
theorem getF0 {O n d : String} {v : Value} {index i j : Nat} {C : String} {ks : List Key} {vs : List Value} (hd : decode bytes pc = .ok (.getfield index, 3)) (w : (Jvm.Cond.fieldLink y.cls index O n d).before a0 Z = true) (hi : H[i]? = some (obj C ks vs)) (hk : ks[j]? = some (O, n, d)) (hv : vs[j]? = some v) (hp : pc + 3 = pc') (hr : WP l Z hB y bytes ml ret R n1 Q sl H pc' Ls (v :: st)) : WP l Z hB y bytes ml ret R n1 Q sl H pc Ls (rf hB i :: st) :=
  getFl (host := "") hd (Or.inl w) Via.refl (fun _ P => P.fld hi hk hv) hp hr
theorem getFold {a : Addr} {O n d : String} {v : Value} {index : Nat} (hd : decode bytes pc = .ok (.getfield index, 3)) (w : (Jvm.Cond.fieldLink y.cls index O n d).before a0 Z = true) (F : Fld Z hB a O n d v) (hp : pc + 3 = pc') (hr : WP l Z hB y bytes ml ret R n1 Q sl H pc' Ls (v :: st)) : WP l Z hB y bytes ml ret R n1 Q sl H pc Ls (.ref a :: st) :=
  getFl (host := "") hd (Or.inl w) Via.refl (fun _ P => F.ext P.toExt) hp hr
theorem getSt {O n d : String} {v : Value} {index : Nat} (hd : decode bytes pc = .ok (.getstatic index, 3)) (w : (Jvm.Cond.fieldLink y.cls index O n d).before a0 Z = true) (F : Sta Z hB O n d v) (hp : pc + 3 = pc') (hr : WP l Z hB y bytes ml ret R n1 Q sl H pc' Ls (v :: st)) : WP l Z hB y bytes ml ret R n1 Q sl H pc Ls st := by
  subst hp
  exact WP.stepT (fun p e s m args below meth c T locs cells slots C X P => getS2 X C.1 C.2.1 C.2.2.2.2.1 (host := "") (Or.inl w) Via.refl rfl (F.ext P.toExt) (g := mkF m pc Ls st) rfl (hb C.2.2.1 hd)) hr
theorem putF0 {O n d : String} {v : Value} {ty : FieldType} {index i j kk : Nat} {C : String} {ks : List Key} {vs : List Value} (hd : decode bytes pc = .ok (.putfield index, 3)) (w : (Jvm.Cond.fieldLink y.cls index O n d).before a0 Z = true) (hi : H[i]? = some (obj C ks vs)) (hk : ks[j]? = some (O, n, d)) (hj : j < vs.length)
    (L : (Jvm.Cond.lays C O n d).before a0 Z = true ∨ ((Jvm.Cond.laysFinal C O n d).before a0 Z = true ∧ y.cls = O ∧ y.name = "<init>")) (wi : (Jvm.Cond.instantiable C kk).before a0 Z = true) (hty : parseFieldDescriptor d = some ty) (hn : narrow ty v = v) (hf : fits ty v = true) (hH : H.set i (obj C ks (vs.set j v)) = H') (hp : pc + 3 = pc') (hr : WP l Z hB y bytes ml ret R n1 Q sl H' pc' Ls st) : WP l Z hB y bytes ml ret R n1 Q sl H pc Ls (v :: rf hB i :: st) := by
  subst hp; subst hH
  refine WP.stepH (by simp) (fun p e s m args below meth c T locs cells slots C X hz N P hs I => ?_) hr
  obtain ⟨T', h', X', e', W, k⟩ := putF X C.1 C.2.1 C.2.2.2.2.1 (host := "") (Or.inl w) Via.refl rfl (P.fld hi hk (List.getElem?_eq_getElem hj)) (P.exa hi) (L.imp id fun q => ⟨q.1, q.2.1, C.2.2.2.2.2.1.trans q.2.2⟩) wi hty hn hf (g := mkF m pc Ls (v :: rf hB i :: st)) rfl rfl (hb C.2.2.1 hd)
  exact ⟨T', _, _, _, X', Fr.snoc X' N (Nat.le_add_right _ _), by rw [e']; exact P.wrO hi hk hj W, by rw [e']; exact I.wr hi W, hs, k⟩
theorem getF1 {R0 O n d : String} {v : Value} {index i j : Nat} {C : String} {ks : List Key} {vs : List Value} (hd : decode bytes pc = .ok (.getfield index, 3)) (w : (Jvm.Cond.fieldLink y.cls index R0 n d).before a0 Z = true) (ws : (Jvm.Cond.sameField R0 O n d).before a0 Z = true) (hi : H[i]? = some (obj C ks vs)) (hk : ks[j]? = some (O, n, d)) (hv : vs[j]? = some v) (hp : pc + 3 = pc') (hr : WP l Z hB y bytes ml ret R n1 Q sl H pc' Ls (v :: st)) : WP l Z hB y bytes ml ret R n1 Q sl H pc Ls (rf hB i :: st) :=
  getFl (host := "") hd (Or.inl w) (Via.of ws) (fun _ P => P.fld hi hk hv) hp hr
theorem putF1 {R0 O n d : String} {v : Value} {ty : FieldType} {index i j kk : Nat} {C : String} {ks : List Key} {vs : List Value} (hd : decode bytes pc = .ok (.putfield index, 3)) (w : (Jvm.Cond.fieldLink y.cls index R0 n d).before a0 Z = true) (ws : (Jvm.Cond.sameField R0 O n d).before a0 Z = true) (hi : H[i]? = some (obj C ks vs)) (hk : ks[j]? = some (O, n, d)) (hj : j < vs.length)
    (L : (Jvm.Cond.lays C O n d).before a0 Z = true ∨ ((Jvm.Cond.laysFinal C O n d).before a0 Z = true ∧ y.cls = O ∧ y.name = "<init>")) (wi : (Jvm.Cond.instantiable C kk).before a0 Z = true) (hty : parseFieldDescriptor d = some ty) (hn : narrow ty v = v) (hf : fits ty v = true) (hH : H.set i (obj C ks (vs.set j v)) = H') (hp : pc + 3 = pc') (hr : WP l Z hB y bytes ml ret R n1 Q sl H' pc' Ls st) : WP l Z hB y bytes ml ret R n1 Q sl H pc Ls (v :: rf hB i :: st) := by
  subst hp; subst hH
  refine WP.stepH (by simp) (fun p e s m args below meth c T locs cells slots C X hz N P hs I => ?_) hr
  obtain ⟨T', h', X', e', W, k⟩ := putF X C.1 C.2.1 C.2.2.2.2.1 (host := "") (Or.inl w) (Via.of ws) rfl (P.fld hi hk (List.getElem?_eq_getElem hj)) (P.exa hi) (L.imp id fun q => ⟨q.1, q.2.1, C.2.2.2.2.2.1.trans q.2.2⟩) wi hty hn hf (g := mkF m pc Ls (v :: rf hB i :: st)) rfl rfl (hb C.2.2.1 hd)
  exact ⟨T', _, _, _, X', Fr.snoc X' N (Nat.le_add_right _ _), by rw [e']; exact P.wrO hi hk hj W, by rw [e']; exact I.wr hi W, hs, k⟩
theorem initObj {i' : Addr} {index : Nat} (hd : decode bytes pc = .ok (.invokespecial index, 3)) (w1 : (Jvm.Cond.methodLink y.cls index Lib.objectInit).before a0 Z = true) (w2 : (Jvm.Cond.instanceMethod Lib.objectInit).before a0 Z = true) (w3 : (Jvm.Cond.code Lib.objectInit ⟨#[0xb1]⟩ 1 none).before a0 Z = true) (hml : Ls.size = ml) (hf : 1 ≤ R.frames) (hl : (st.map fun v => v.category).sum + 12 ≤ R.locals) (hp : pc + 3 = pc') (hr : WP l Z hB y bytes ml ret R n1 Q sl H pc' Ls st) : WP l Z hB y bytes ml ret R n1 Q sl H pc Ls (.ref i' :: st) := by
  subst hp
  exact WP.stepT (fun p e s m args below meth c T locs cells slots C X P => initO X C.1 C.2.1 C.2.2.2.2.1 w1 w2 w3 rfl (g := mkF m pc Ls (.ref i' :: st)) rfl (hml.trans C.2.2.2.1.symm) rfl (hb C.2.2.1 hd) hf (W := (st.map fun v => v.category).sum) (by show 2 * 0 + _ ≤ _; omega) hl) hr
theorem newObj {C : String} {index n : Nat} {ks : List Key} {vs : List Value} (hd : decode bytes pc = .ok (.new index, 3)) (w : (Jvm.Cond.classLink y.cls index C).before a0 Z = true) (wi : (Jvm.Cond.instantiable C n).before a0 Z = true) (wz : (Jvm.Cond.initialized C).before a0 Z = true)
    (hlaid : ∀ (i : Nat) (k : Key) (v : Value), ks[i]? = some k → vs[i]? = some v → Laid Z a0 C k.1 k.2.1 k.2.2 ∧ ∃ ty, parseFieldDescriptor k.2.2 = some ty ∧ v = defaultValue ty) (hdist : ∀ (i j : Nat) (k k' : Key), ks[i]? = some k → ks[j]? = some k' → i ≠ j → kslot Z k ≠ kslot Z k')
    (hc : H.length + 1 ≤ n1 + R.cells) (hsl : sl + n ≤ R.slots) (hH : H ++ [obj C ks vs] = H') (hlen : H.length = i) (hp : pc + 3 = pc') (hr : WP l Z hB y bytes ml ret R n1 Q (sl + n) H' pc' Ls (rf hB i :: st)) : WP l Z hB y bytes ml ret R n1 Q sl H pc Ls st := by
  subst hp; subst hH; subst hlen
  refine WP.stepH (by simp) (fun p e s m args below meth c T locs cells slots Cx X hz N P hs I => ?_) hr
  have hsz := Cx.2.2.2.2.2.2.2.2
  have hp1 := P.1
  obtain ⟨T', h', X', e', E, A, D, U, k⟩ := newO X Cx.1 Cx.2.1 Cx.2.2.2.2.1 w wi wz rfl (g := mkF m pc Ls st) rfl (hb Cx.2.2.1 hd) (by omega) (by omega)
  subst e'
  have hle := X'.heapSize
  refine ⟨T', _, _, _, X', N, P.push E (by omega) ⟨A, U, fun i k v h1 h2 => ?_, hdist⟩, I.push E, by omega, by rw [show rf hB H.length = .ref T.heap.size from by show Value.ref _ = _; rw [hp1]]; exact k⟩
  obtain ⟨q1, ty, q2, rfl⟩ := hlaid i k v h1 h2
  exact D q1 q2
theorem newArr {aty : ArrayType} {i : Nat} {n : Int32} {nn : Nat} (hd : decode bytes pc = .ok (.newarray aty, 2)) (w : (Jvm.Cond.arrayClass (newarray.typeOf aty)).before a0 Z = true) (hn : ¬ n < 0) (hnn : n.toNatClampNeg = nn) (hb8 : nn * 8 ≤ 536870912) (hdf : fits (newarray.typeOf aty) (defaultValue (newarray.typeOf aty)) = true) (hnr : (∀ C, newarray.typeOf aty ≠ .object C) ∧ ∀ t, newarray.typeOf aty ≠ .array t)
    (hc : H.length + 1 ≤ n1 + R.cells) (hsl : sl + nn ≤ R.slots) (hH : H ++ [arr (newarray.typeOf aty) (List.replicate nn (defaultValue (newarray.typeOf aty)))] = H') (hlen : H.length = i) (hp : pc + 2 = pc') (hr : WP l Z hB y bytes ml ret R n1 Q (sl + nn) H' pc' Ls (rf hB i :: st)) : WP l Z hB y bytes ml ret R n1 Q sl H pc Ls (.int n :: st) := by
  subst hp; subst hH; subst hlen; subst hnn
  refine WP.stepH (by simp) (fun p e s m args below meth c T locs cells slots Cx X hz N P hs I => ?_) hr
  have hsz := Cx.2.2.2.2.2.2.2.2
  have hp1 := P.1
  obtain ⟨T', h', cA, X', e', E, A, Ex, k⟩ := newPE X Cx.1 Cx.2.1 w rfl (g := mkF m pc Ls (.int n :: st)) rfl (hb Cx.2.2.1 hd) rfl hn (cap := n.toNatClampNeg) (Nat.le_refl _) hb8 (by omega) (by omega) rfl
  subst e'
  have hle := X'.heapSize
  refine ⟨T', _, _, _, X', N, P.push E (by omega) ⟨_, A, by simp [newA], rfl, Ex, ⟨fun C q => absurd q (hnr.1 C), fun t q => absurd q (hnr.2 t)⟩, fun v hv => by rw [List.eq_of_mem_replicate hv]; exact hdf⟩, I.push E, by omega, by rw [show rf hB H.length = .ref T.heap.size from by show Value.ref _ = _; rw [hp1]]; exact k⟩
theorem newRef {C : String} {index i : Nat} {n : Int32} {nn : Nat} (hd : decode bytes pc = .ok (.anewarray index, 3)) (w1 : (Jvm.Cond.classLink y.cls index C).before a0 Z = true) (w2 : (Jvm.Cond.arrayOver (.object C)).before a0 Z = true) (hn : ¬ n < 0) (hnn : n.toNatClampNeg = nn) (hb8 : nn * 8 ≤ 536870912)
    (hc : H.length + 1 ≤ n1 + R.cells) (hsl : sl + nn ≤ R.slots) (hH : H ++ [arr (.object C) (List.replicate nn .null)] = H') (hlen : H.length = i) (hp : pc + 3 = pc') (hr : WP l Z hB y bytes ml ret R n1 Q (sl + nn) H' pc' Ls (rf hB i :: st)) : WP l Z hB y bytes ml ret R n1 Q sl H pc Ls (.int n :: st) := by
  subst hp; subst hH; subst hlen; subst hnn
  refine WP.stepH (by simp) (fun p e s m args below meth c T locs cells slots Cx X hz N P hs I => ?_) hr
  have hsz := Cx.2.2.2.2.2.2.2.2
  have hp1 := P.1
  obtain ⟨T', h', cA, X', e', E, A, Ex, O, k⟩ := newRE X Cx.1 Cx.2.1 Cx.2.2.2.2.1 w1 w2 rfl (g := mkF m pc Ls (.int n :: st)) rfl (hb Cx.2.2.1 hd) rfl hn (cap := n.toNatClampNeg) (Nat.le_refl _) hb8 (by omega) (by omega) rfl
  subst e'
  have hle := X'.heapSize
  refine ⟨T', _, _, _, X', N, P.push E (by omega) ⟨_, A, by simp [newA, defaultValue], rfl, Ex, ⟨fun C' q => (by cases q; exact O), fun t q => (by cases q)⟩, fun v hv => by rw [List.eq_of_mem_replicate hv]; rfl⟩, I.push E, by omega, by rw [show rf hB H.length = .ref T.heap.size from by show Value.ref _ = _; rw [hp1]]; exact k⟩
theorem newRefA {ty : FieldType} {C : String} {index i : Nat} {n : Int32} {nn : Nat} (hd : decode bytes pc = .ok (.anewarray index, 3)) (hC : (FieldType.array ty).toString = C) (w1 : (Jvm.Cond.classLink y.cls index C).before a0 Z = true) (w2 : (Jvm.Cond.arrayOver (.array ty)).before a0 Z = true) (hn : ¬ n < 0) (hnn : n.toNatClampNeg = nn) (hb8 : nn * 8 ≤ 536870912)
    (hc : H.length + 1 ≤ n1 + R.cells) (hsl : sl + nn ≤ R.slots) (hH : H ++ [arr (.array ty) (List.replicate nn .null)] = H') (hlen : H.length = i) (hp : pc + 3 = pc') (hr : WP l Z hB y bytes ml ret R n1 Q (sl + nn) H' pc' Ls (rf hB i :: st)) : WP l Z hB y bytes ml ret R n1 Q sl H pc Ls (.int n :: st) := by
  subst hp; subst hH; subst hlen; subst hnn; subst hC
  refine WP.stepH (by simp) (fun p e s m args below meth c T locs cells slots Cx X hz N P hs I => ?_) hr
  have hsz := Cx.2.2.2.2.2.2.2.2
  have hp1 := P.1
  obtain ⟨T', h', cA, X', e', E, A, Ex, O, k⟩ := newRA X Cx.1 Cx.2.1 Cx.2.2.2.2.1 rfl w1 w2 rfl (g := mkF m pc Ls (.int n :: st)) rfl (hb Cx.2.2.1 hd) rfl hn (cap := n.toNatClampNeg) (Nat.le_refl _) hb8 (by omega) (by omega) rfl
  subst e'
  have hle := X'.heapSize
  refine ⟨T', _, _, _, X', N, P.push E (by omega) ⟨_, A, by simp [newA, defaultValue], rfl, Ex, ⟨fun C' q => (by cases q), fun t q => (by cases q; exact O)⟩, fun v hv => by rw [List.eq_of_mem_replicate hv]; rfl⟩, I.push E, by omega, by rw [show rf hB H.length = .ref T.heap.size from by show Value.ref _ = _; rw [hp1]]; exact k⟩
theorem inb {c : Cell} {vs : List Value} {j : Int32} {v : Value} (hc : c.slots = vs.toArray) (h0 : ¬ j < 0) (hv : vs[j.toNatClampNeg]? = some v) : ¬ (j < 0 ∨ c.slots.size ≤ j.toNatClampNeg) ∧ c.slots[j.toNatClampNeg]? = some v := by
  have := (List.getElem?_eq_some_iff.mp hv).1
  refine ⟨fun q => q.elim h0 fun z => ?_, by rw [hc]; simpa using hv⟩
  rw [hc, List.size_toArray] at z; omega
theorem arrLen {i : Nat} {t : FieldType} {vs : List Value} {z : Int32} (hd : decode bytes pc = .ok (.arraylength, 1)) (hi : H[i]? = some (arr t vs)) (hz : vs.length.toInt32 = z) (hp : pc + 1 = pc') (hr : WP l Z hB y bytes ml ret R n1 Q sl H pc' Ls (.int z :: st)) : WP l Z hB y bytes ml ret R n1 Q sl H pc Ls (rf hB i :: st) := by
  subst hp
  refine WP.step (fun p e s m args below meth c T locs cells slots C X P tgt h => ?_) hr
  obtain ⟨cl, h1, h2, -⟩ := P.at hi
  exact X.arraylength C.1 h1.1 (State.isArrayOf_alike C.2.1.alike h1.2.1) (g := mkF m pc Ls (rf hB i :: st)) rfl rfl (hb C.2.2.1 hd) _ (by rw [h2, List.size_toArray, hz]; exact h)
theorem arrLenOld {a : Addr} {t : FieldType} {cl : Cell} {z : Int32} (hd : decode bytes pc = .ok (.arraylength, 1)) (A : Arr Z hB a cl t) (hz : cl.slots.size.toInt32 = z) (hp : pc + 1 = pc') (hr : WP l Z hB y bytes ml ret R n1 Q sl H pc' Ls (.int z :: st)) : WP l Z hB y bytes ml ret R n1 Q sl H pc Ls (.ref a :: st) := by
  subst hp
  refine WP.step (fun p e s m args below meth c T locs cells slots C X P tgt h => ?_) hr
  have h1 := A.ext P.toExt
  exact X.arraylength C.1 h1.1 (State.isArrayOf_alike C.2.1.alike h1.2.1) (g := mkF m pc Ls (.ref a :: st)) rfl rfl (hb C.2.2.1 hd) _ (by rw [hz]; exact h)
theorem iaload {i : Nat} {vs : List Value} {j : Int32} {v : Value} {jn : Nat} (hd : decode bytes pc = .ok (.iaload, 1)) (hi : H[i]? = some (arr .int vs)) (h0 : ¬ j < 0) (hjn : j.toNatClampNeg = jn) (hv : vs[jn]? = some v) (hp : pc + 1 = pc') (hr : WP l Z hB y bytes ml ret R n1 Q sl H pc' Ls (v :: st)) : WP l Z hB y bytes ml ret R n1 Q sl H pc Ls (.int j :: rf hB i :: st) := by
  subst hp; subst hjn
  refine WP.step (fun p e s m args below meth c T locs cells slots C X P tgt h => ?_) hr
  obtain ⟨cl, h1, h2, -⟩ := P.at hi
  exact X.iaload C.1 h1.1 (State.isArrayOf_alike C.2.1.alike h1.2.1) h1.2.2 (inb h2 h0 hv).1 (inb h2 h0 hv).2 (g := mkF m pc Ls (.int j :: rf hB i :: st)) rfl rfl (hb C.2.2.1 hd) _ h
theorem laload {i : Nat} {vs : List Value} {j : Int32} {v : Value} {jn : Nat} (hd : decode bytes pc = .ok (.laload, 1)) (hi : H[i]? = some (arr .long vs)) (h0 : ¬ j < 0) (hjn : j.toNatClampNeg = jn) (hv : vs[jn]? = some v) (hp : pc + 1 = pc') (hr : WP l Z hB y bytes ml ret R n1 Q sl H pc' Ls (v :: st)) : WP l Z hB y bytes ml ret R n1 Q sl H pc Ls (.int j :: rf hB i :: st) := by
  subst hp; subst hjn
  refine WP.step (fun p e s m args below meth c T locs cells slots C X P tgt h => ?_) hr
  obtain ⟨cl, h1, h2, -⟩ := P.at hi
  exact X.laload C.1 h1.1 (State.isArrayOf_alike C.2.1.alike h1.2.1) h1.2.2 (inb h2 h0 hv).1 (inb h2 h0 hv).2 (g := mkF m pc Ls (.int j :: rf hB i :: st)) rfl rfl (hb C.2.2.1 hd) _ h
theorem caload {i : Nat} {vs : List Value} {j : Int32} {v : Value} {jn : Nat} (hd : decode bytes pc = .ok (.caload, 1)) (hi : H[i]? = some (arr .char vs)) (h0 : ¬ j < 0) (hjn : j.toNatClampNeg = jn) (hv : vs[jn]? = some v) (hp : pc + 1 = pc') (hr : WP l Z hB y bytes ml ret R n1 Q sl H pc' Ls (v :: st)) : WP l Z hB y bytes ml ret R n1 Q sl H pc Ls (.int j :: rf hB i :: st) := by
  subst hp; subst hjn
  refine WP.step (fun p e s m args below meth c T locs cells slots C X P tgt h => ?_) hr
  obtain ⟨cl, h1, h2, -⟩ := P.at hi
  exact X.caload C.1 h1.1 (State.isArrayOf_alike C.2.1.alike h1.2.1) h1.2.2 (inb h2 h0 hv).1 (inb h2 h0 hv).2 (g := mkF m pc Ls (.int j :: rf hB i :: st)) rfl rfl (hb C.2.2.1 hd) _ h
theorem baload {i : Nat} {vs : List Value} {j : Int32} {v : Value} {jn : Nat} (hd : decode bytes pc = .ok (.baload, 1)) (hi : H[i]? = some (arr .byte vs)) (h0 : ¬ j < 0) (hjn : j.toNatClampNeg = jn) (hv : vs[jn]? = some v) (hp : pc + 1 = pc') (hr : WP l Z hB y bytes ml ret R n1 Q sl H pc' Ls (v :: st)) : WP l Z hB y bytes ml ret R n1 Q sl H pc Ls (.int j :: rf hB i :: st) := by
  subst hp; subst hjn
  refine WP.step (fun p e s m args below meth c T locs cells slots C X P tgt h => ?_) hr
  obtain ⟨cl, h1, h2, -⟩ := P.at hi
  exact X.baloadBytes C.1 h1.1 (State.isArrayOf_alike C.2.1.alike h1.2.1) h1.2.2 (inb h2 h0 hv).1 (inb h2 h0 hv).2 (g := mkF m pc Ls (.int j :: rf hB i :: st)) rfl rfl (hb C.2.2.1 hd) _ h
theorem zaload {i : Nat} {vs : List Value} {j : Int32} {v : Value} {jn : Nat} (hd : decode bytes pc = .ok (.baload, 1)) (hi : H[i]? = some (arr .boolean vs)) (h0 : ¬ j < 0) (hjn : j.toNatClampNeg = jn) (hv : vs[jn]? = some v) (hp : pc + 1 = pc') (hr : WP l Z hB y bytes ml ret R n1 Q sl H pc' Ls (v :: st)) : WP l Z hB y bytes ml ret R n1 Q sl H pc Ls (.int j :: rf hB i :: st) := by
  subst hp; subst hjn
  refine WP.step (fun p e s m args below meth c T locs cells slots C X P tgt h => ?_) hr
  obtain ⟨cl, h1, h2, -⟩ := P.at hi
  exact X.baloadBooleans C.1 h1.1 (State.isArrayOf_alike C.2.1.alike h1.2.1) h1.2.2 (inb h2 h0 hv).1 (inb h2 h0 hv).2 (g := mkF m pc Ls (.int j :: rf hB i :: st)) rfl rfl (hb C.2.2.1 hd) _ h
theorem aaload {i : Nat} {t : FieldType} {vs : List Value} {j : Int32} {v : Value} {jn : Nat} (hd : decode bytes pc = .ok (.aaload, 1)) (hi : H[i]? = some (arr t vs)) (ht : t.isReference = true) (h0 : ¬ j < 0) (hjn : j.toNatClampNeg = jn) (hv : vs[jn]? = some v) (hp : pc + 1 = pc') (hr : WP l Z hB y bytes ml ret R n1 Q sl H pc' Ls (v :: st)) : WP l Z hB y bytes ml ret R n1 Q sl H pc Ls (.int j :: rf hB i :: st) := by
  subst hp; subst hjn
  refine WP.step (fun p e s m args below meth c T locs cells slots C X P tgt h => ?_) hr
  obtain ⟨cl, h1, h2, -⟩ := P.at hi
  exact X.aaload C.1 h1.1 (State.isArrayOf_alike C.2.1.alike h1.2.1) ht h1.2.2 (inb h2 h0 hv).1 (inb h2 h0 hv).2 (g := mkF m pc Ls (.int j :: rf hB i :: st)) rfl rfl (hb C.2.2.1 hd) _ h
theorem baloadOld {a : Addr} {cl : Cell} {j : Int32} {v : Value} (hd : decode bytes pc = .ok (.baload, 1)) (A : Arr Z hB a cl .byte) (h0 : ¬ (j < 0 ∨ cl.slots.size ≤ j.toNatClampNeg)) (hv : cl.slots[j.toNatClampNeg]? = some v) (hp : pc + 1 = pc') (hr : WP l Z hB y bytes ml ret R n1 Q sl H pc' Ls (v :: st)) : WP l Z hB y bytes ml ret R n1 Q sl H pc Ls (.int j :: .ref a :: st) := by
  subst hp
  refine WP.step (fun p e s m args below meth c T locs cells slots C X P tgt h => ?_) hr
  have h1 := A.ext P.toExt
  exact X.baloadBytes C.1 h1.1 (State.isArrayOf_alike C.2.1.alike h1.2.1) h1.2.2 h0 hv (g := mkF m pc Ls (.int j :: .ref a :: st)) rfl rfl (hb C.2.2.1 hd) _ h
theorem ialoadOld {a : Addr} {cl : Cell} {j : Int32} {v : Value} (hd : decode bytes pc = .ok (.iaload, 1)) (A : Arr Z hB a cl .int) (h0 : ¬ (j < 0 ∨ cl.slots.size ≤ j.toNatClampNeg)) (hv : cl.slots[j.toNatClampNeg]? = some v) (hp : pc + 1 = pc') (hr : WP l Z hB y bytes ml ret R n1 Q sl H pc' Ls (v :: st)) : WP l Z hB y bytes ml ret R n1 Q sl H pc Ls (.int j :: .ref a :: st) := by
  subst hp
  refine WP.step (fun p e s m args below meth c T locs cells slots C X P tgt h => ?_) hr
  have h1 := A.ext P.toExt
  exact X.iaload C.1 h1.1 (State.isArrayOf_alike C.2.1.alike h1.2.1) h1.2.2 h0 hv (g := mkF m pc Ls (.int j :: .ref a :: st)) rfl rfl (hb C.2.2.1 hd) _ h
theorem aaloadOld {a : Addr} {t : FieldType} {cl : Cell} {j : Int32} {v : Value} (hd : decode bytes pc = .ok (.aaload, 1)) (A : Arr Z hB a cl t) (ht : t.isReference = true) (h0 : ¬ (j < 0 ∨ cl.slots.size ≤ j.toNatClampNeg)) (hv : cl.slots[j.toNatClampNeg]? = some v) (hp : pc + 1 = pc') (hr : WP l Z hB y bytes ml ret R n1 Q sl H pc' Ls (v :: st)) : WP l Z hB y bytes ml ret R n1 Q sl H pc Ls (.int j :: .ref a :: st) := by
  subst hp
  refine WP.step (fun p e s m args below meth c T locs cells slots C X P tgt h => ?_) hr
  have h1 := A.ext P.toExt
  exact X.aaload C.1 h1.1 (State.isArrayOf_alike C.2.1.alike h1.2.1) ht h1.2.2 h0 hv (g := mkF m pc Ls (.int j :: .ref a :: st)) rfl rfl (hb C.2.2.1 hd) _ h
theorem iastore {i : Nat} {vs : List Value} {j : Int32} {x : Int32} {jn : Nat} (hd : decode bytes pc = .ok (.iastore, 1)) (hi : H[i]? = some (arr .int vs)) (h0 : ¬ j < 0) (hjn : j.toNatClampNeg = jn) (hlt : jn < vs.length) (hH : H.set i (arr .int (vs.set jn (.int x))) = H') (hp : pc + 1 = pc') (hr : WP l Z hB y bytes ml ret R n1 Q sl H' pc' Ls st) : WP l Z hB y bytes ml ret R n1 Q sl H pc Ls (.int x :: .int j :: rf hB i :: st) := by
  subst hp; subst hH; subst hjn
  refine WP.stepH (by simp) (fun p e s m args below meth c T locs cells slots C X hz N P hs I => ?_) hr
  obtain ⟨cl, h1, h2, -⟩ := P.at hi
  obtain ⟨T', h', X', e', W, k⟩ := stI X C.1 C.2.1 rfl h1 (inb h2 h0 (List.getElem?_eq_getElem hlt)).1 (g := mkF m pc Ls (.int x :: .int j :: rf hB i :: st)) rfl rfl (hb C.2.2.1 hd)
  exact ⟨T', _, _, _, X', Fr.snoc X' N (Nat.le_add_right _ _), by rw [e']; exact P.wrA hi (rfl) W, by rw [e']; exact I.wr hi W, hs, k⟩
theorem lastore {i : Nat} {vs : List Value} {j : Int32} {x : Int64} {jn : Nat} (hd : decode bytes pc = .ok (.lastore, 1)) (hi : H[i]? = some (arr .long vs)) (h0 : ¬ j < 0) (hjn : j.toNatClampNeg = jn) (hlt : jn < vs.length) (hH : H.set i (arr .long (vs.set jn (.long x))) = H') (hp : pc + 1 = pc') (hr : WP l Z hB y bytes ml ret R n1 Q sl H' pc' Ls st) : WP l Z hB y bytes ml ret R n1 Q sl H pc Ls (.long x :: .int j :: rf hB i :: st) := by
  subst hp; subst hH; subst hjn
  refine WP.stepH (by simp) (fun p e s m args below meth c T locs cells slots C X hz N P hs I => ?_) hr
  obtain ⟨cl, h1, h2, -⟩ := P.at hi
  obtain ⟨T', h', X', e', W, k⟩ := stJ X C.1 C.2.1 rfl h1 (inb h2 h0 (List.getElem?_eq_getElem hlt)).1 (g := mkF m pc Ls (.long x :: .int j :: rf hB i :: st)) rfl rfl (hb C.2.2.1 hd)
  exact ⟨T', _, _, _, X', Fr.snoc X' N (Nat.le_add_right _ _), by rw [e']; exact P.wrA hi (rfl) W, by rw [e']; exact I.wr hi W, hs, k⟩
theorem castore {i : Nat} {vs : List Value} {j : Int32} {x : Int32} {jn : Nat} (hd : decode bytes pc = .ok (.castore, 1)) (hi : H[i]? = some (arr .char vs)) (h0 : ¬ j < 0) (hjn : j.toNatClampNeg = jn) (hlt : jn < vs.length) (hH : H.set i (arr .char (vs.set jn (.int (nar .char x)))) = H') (hp : pc + 1 = pc') (hr : WP l Z hB y bytes ml ret R n1 Q sl H' pc' Ls st) : WP l Z hB y bytes ml ret R n1 Q sl H pc Ls (.int x :: .int j :: rf hB i :: st) := by
  subst hp; subst hH; subst hjn
  refine WP.stepH (by simp) (fun p e s m args below meth c T locs cells slots C X hz N P hs I => ?_) hr
  obtain ⟨cl, h1, h2, -⟩ := P.at hi
  obtain ⟨T', h', X', e', W, k⟩ := stC X C.1 C.2.1 rfl h1 (inb h2 h0 (List.getElem?_eq_getElem hlt)).1 (g := mkF m pc Ls (.int x :: .int j :: rf hB i :: st)) rfl rfl (hb C.2.2.1 hd)
  exact ⟨T', _, _, _, X', Fr.snoc X' N (Nat.le_add_right _ _), by rw [e']; exact P.wrA hi (fits_nar_char x) W, by rw [e']; exact I.wr hi W, hs, k⟩
theorem bastore {i : Nat} {vs : List Value} {j : Int32} {x : Int32} {jn : Nat} (hd : decode bytes pc = .ok (.bastore, 1)) (hi : H[i]? = some (arr .byte vs)) (h0 : ¬ j < 0) (hjn : j.toNatClampNeg = jn) (hlt : jn < vs.length) (hH : H.set i (arr .byte (vs.set jn (.int (nar .byte x)))) = H') (hp : pc + 1 = pc') (hr : WP l Z hB y bytes ml ret R n1 Q sl H' pc' Ls st) : WP l Z hB y bytes ml ret R n1 Q sl H pc Ls (.int x :: .int j :: rf hB i :: st) := by
  subst hp; subst hH; subst hjn
  refine WP.stepH (by simp) (fun p e s m args below meth c T locs cells slots C X hz N P hs I => ?_) hr
  obtain ⟨cl, h1, h2, -⟩ := P.at hi
  obtain ⟨T', h', X', e', W, k⟩ := stB X C.1 C.2.1 rfl h1 (inb h2 h0 (List.getElem?_eq_getElem hlt)).1 (g := mkF m pc Ls (.int x :: .int j :: rf hB i :: st)) rfl rfl (hb C.2.2.1 hd)
  exact ⟨T', _, _, _, X', Fr.snoc X' N (Nat.le_add_right _ _), by rw [e']; exact P.wrA hi (fits_nar_byte x) W, by rw [e']; exact I.wr hi W, hs, k⟩
theorem zastore {i : Nat} {vs : List Value} {j : Int32} {x : Int32} {jn : Nat} (hd : decode bytes pc = .ok (.bastore, 1)) (hi : H[i]? = some (arr .boolean vs)) (h0 : ¬ j < 0) (hjn : j.toNatClampNeg = jn) (hlt : jn < vs.length) (hH : H.set i (arr .boolean (vs.set jn (.int (nar .boolean x)))) = H') (hp : pc + 1 = pc') (hr : WP l Z hB y bytes ml ret R n1 Q sl H' pc' Ls st) : WP l Z hB y bytes ml ret R n1 Q sl H pc Ls (.int x :: .int j :: rf hB i :: st) := by
  subst hp; subst hH; subst hjn
  refine WP.stepH (by simp) (fun p e s m args below meth c T locs cells slots C X hz N P hs I => ?_) hr
  obtain ⟨cl, h1, h2, -⟩ := P.at hi
  obtain ⟨T', h', X', e', W, k⟩ := stZ X C.1 C.2.1 rfl h1 (inb h2 h0 (List.getElem?_eq_getElem hlt)).1 (g := mkF m pc Ls (.int x :: .int j :: rf hB i :: st)) rfl rfl (hb C.2.2.1 hd)
  exact ⟨T', _, _, _, X', Fr.snoc X' N (Nat.le_add_right _ _), by rw [e']; exact P.wrA hi (fits_nar_bool x) W, by rw [e']; exact I.wr hi W, hs, k⟩
theorem aastore {i : Nat} {t : FieldType} {vs : List Value} {j : Int32} {v : Value} {jn : Nat} (hd : decode bytes pc = .ok (.aastore, 1)) (hi : H[i]? = some (arr t vs)) (ht : t.isReference = true) (F : ∀ h, Hp Z hB h H → Sto Z h (hB.size + i) v) (hf : fits t v = true) (h0 : ¬ j < 0) (hjn : j.toNatClampNeg = jn) (hlt : jn < vs.length) (hH : H.set i (arr t (vs.set jn v)) = H') (hp : pc + 1 = pc') (hr : WP l Z hB y bytes ml ret R n1 Q sl H' pc' Ls st) : WP l Z hB y bytes ml ret R n1 Q sl H pc Ls (v :: .int j :: rf hB i :: st) := by
  subst hp; subst hH; subst hjn
  refine WP.stepH (by simp) (fun p e s m args below meth c T locs cells slots C X hz N P hs I => ?_) hr
  obtain ⟨cl, h1, h2, -⟩ := P.at hi
  obtain ⟨T', h', X', e', W, k⟩ := stR X C.1 C.2.1 rfl h1 (inb h2 h0 (List.getElem?_eq_getElem hlt)).1 ht (F _ P) (g := mkF m pc Ls (v :: .int j :: rf hB i :: st)) rfl rfl (hb C.2.2.1 hd)
  exact ⟨T', _, _, _, X', Fr.snoc X' N (Nat.le_add_right _ _), by rw [e']; exact P.wrA hi hf W, by rw [e']; exact I.wr hi W, hs, k⟩
theorem ialoadI {i : Nat} {xs : List Int32} {j x : Int32} {jn : Nat} (hd : decode bytes pc = .ok (.iaload, 1)) (hi : H[i]? = some (ints xs)) (h0 : ¬ j < 0) (hjn : j.toNatClampNeg = jn) (hv : xs[jn]? = some x) (hp : pc + 1 = pc') (hr : WP l Z hB y bytes ml ret R n1 Q sl H pc' Ls (.int x :: st)) : WP l Z hB y bytes ml ret R n1 Q sl H pc Ls (.int j :: rf hB i :: st) :=
  iaload hd hi h0 hjn (by rw [List.getElem?_map, hv]; rfl) hp hr
theorem iastoreI {i : Nat} {xs : List Int32} {j x : Int32} {jn : Nat} (hd : decode bytes pc = .ok (.iastore, 1)) (hi : H[i]? = some (ints xs)) (h0 : ¬ j < 0) (hjn : j.toNatClampNeg = jn) (hlt : jn < xs.length) (hH : H.set i (ints (xs.set jn x)) = H') (hp : pc + 1 = pc') (hr : WP l Z hB y bytes ml ret R n1 Q sl H' pc' Ls st) : WP l Z hB y bytes ml ret R n1 Q sl H pc Ls (.int x :: .int j :: rf hB i :: st) :=
  iastore hd hi h0 hjn (by rw [List.length_map]; exact hlt) (by rw [← hH]; show H.set i (arr .int ((xs.map Value.int).set jn (Value.int x))) = H.set i (arr .int ((xs.set jn x).map Value.int)); rw [List.map_set]) hp hr
theorem ialoadG {i : Nat} {xs : List Int32} {j x : Int32} (hd : decode bytes pc = .ok (.iaload, 1)) (hi : H[i]? = some (ints xs)) (hg : gI xs j = some x) (hp : pc + 1 = pc') (hr : WP l Z hB y bytes ml ret R n1 Q sl H pc' Ls (.int x :: st)) : WP l Z hB y bytes ml ret R n1 Q sl H pc Ls (.int j :: rf hB i :: st) :=
  ialoadI hd hi (gI_at hg).1 rfl (gI_at hg).2 hp hr
theorem iastoreG {i : Nat} {xs xs' : List Int32} {j x : Int32} (hd : decode bytes pc = .ok (.iastore, 1)) (hi : H[i]? = some (ints xs)) (hg : sI xs j x = some xs') (hH : H.set i (ints xs') = H') (hp : pc + 1 = pc') (hr : WP l Z hB y bytes ml ret R n1 Q sl H' pc' Ls st) : WP l Z hB y bytes ml ret R n1 Q sl H pc Ls (.int x :: .int j :: rf hB i :: st) :=
  iastoreI hd hi (sI_at hg).1 rfl (sI_at hg).2.1 (by rw [← hH, (sI_at hg).2.2]) hp hr
theorem lastoreG {i : Nat} {xs xs' : List Int64} {j : Int32} {x : Int64} (hd : decode bytes pc = .ok (.lastore, 1)) (hi : H[i]? = some (longs xs)) (hg : sJ xs j x = some xs') (hH : H.set i (longs xs') = H') (hp : pc + 1 = pc') (hr : WP l Z hB y bytes ml ret R n1 Q sl H' pc' Ls st) : WP l Z hB y bytes ml ret R n1 Q sl H pc Ls (.long x :: .int j :: rf hB i :: st) :=
  lastore hd hi (sJ_at hg).1 rfl (by rw [List.length_map]; exact (sJ_at hg).2.1) (by rw [← hH, (sJ_at hg).2.2]; show H.set i (arr .long ((xs.map Value.long).set j.toNatClampNeg (Value.long x))) = H.set i (arr .long ((xs.set j.toNatClampNeg x).map Value.long)); rw [List.map_set]) hp hr
theorem stoO {h : Heap} (P : Hp Z hB h H) {i : Nat} {C : String} {vs : List Value} {b : Addr} (hi : H[i]? = some (arr (.object C) vs)) (I : Ins Z h b C true) : Sto Z h (hB.size + i) (.ref b) := by
  obtain ⟨cl, h1, -, -, -, h6, -⟩ := P.at hi
  exact Sto.of h1 (h6.1 _ rfl) I
theorem stoA {h : Heap} (P : Hp Z hB h H) {i : Nat} {ty : FieldType} {C : String} {vs : List Value} {b : Addr} (hi : H[i]? = some (arr (.array ty) vs)) (hC : (FieldType.array ty).toString = C) (I : Ins Z h b C true) : Sto Z h (hB.size + i) (.ref b) := by
  subst hC
  obtain ⟨cl, h1, -, -, -, h6, -⟩ := P.at hi
  obtain ⟨k, comp, o1, o2, o3⟩ := h6.2 _ rfl
  obtain ⟨cv, cT, i1, i2, i3⟩ := I
  cases o3.symm.trans i2
  simp only [Bool.and_eq_true, Bool.not_eq_true'] at i3
  obtain ⟨kc, q⟩ := Vm.classAt_of_findClass o3
  obtain ⟨kv, q2⟩ := Vm.classAt_of_assignable i3.2 ⟨kc, q⟩
  exact Or.inr ⟨cl, cv, k, kv, kc, _, _, b, h1.1, o1, o2, q, rfl, i1, i3.1, q2, i3.2⟩
/-- System.arraycopy into an array made since -/
theorem arraycopy {a : Addr} {i index : Nat} {t t' : FieldType} {vs vd us : List Value} {z sp dp nn : Int32} {spn dpn n : Nat} {dv : Value} (hd : decode bytes pc = .ok (.invokestatic index, 3)) (w1 : (Jvm.Cond.methodLink y.cls index Jvm.Stand.acN).before a0 Z = true) (w2 : (Jvm.Cond.native Jvm.Stand.acN).before a0 Z = true) (w3 : (Jvm.Cond.static Jvm.Stand.acN).before a0 Z = true) (w4 : (Jvm.Cond.initialized "java/lang/System").before a0 Z = true)
    (A : ∀ h, Hp Z hB h H → ∃ k, Arv Z h a k t z vs dv) (hi : H[i]? = some (arr t' vd)) (hty : (t = t' ∧ refKind t = false) ∨ (refKind t = true ∧ refKind t' = true ∧ ∀ h, Hp Z hB h H → StoL Z h (hB.size + i) us)) (h1 : ¬ sp < 0) (h2 : ¬ dp < 0) (h3 : ¬ nn < 0) (e1 : sp.toNatClampNeg = spn) (e2 : dp.toNatClampNeg = dpn) (e3 : nn.toNatClampNeg = n) (h4 : spn + n ≤ z.toNatClampNeg) (h5 : dpn + n ≤ vd.length) (hl : vd.length < 2 ^ 31)
    (hus : us = (List.range n).map fun j => vs.getD (spn + j) dv) (hml : Ls.size = ml) (hf : 1 ≤ R.frames) (hlo : (st.map fun v => v.category).sum + (nativeFrameWords "java/lang/System" "arraycopy" 5 + 11) ≤ R.locals) (hH : H.set i (arr t' (vd.take dpn ++ us ++ vd.drop (dpn + n))) = H') (hp : pc + 3 = pc') (hr : WP l Z hB y bytes ml ret R n1 Q sl H' pc' Ls st) : WP l Z hB y bytes ml ret R n1 Q sl H pc Ls (.int nn :: .int dp :: rf hB i :: .int sp :: .ref a :: st) := by
  subst hp; subst hH; subst e1; subst e2; subst e3
  refine WP.stepH (by simp) (fun p e s m args below meth c T locs cells slots C X hz N P hs I => ?_) hr
  obtain ⟨k, A⟩ := A _ P
  obtain ⟨k', B⟩ := P.arv hi hl .null
  obtain ⟨T', h', L, X', e', N', K, B', stp⟩ := cpA X C.1 C.2.1 C.2.2.2.2.1 w1 w2 w3 w4 rfl A B (hty.imp id fun q => ⟨q.1, q.2.1, q.2.2 _ P⟩) h1 h2 h3 h4 (by rw [(toNat_len hl).1]; exact h5) hus h5 N (Nat.le_add_right _ _) (g := mkF m pc Ls (.int nn :: .int dp :: rf hB i :: .int sp :: .ref a :: st)) rfl (hml.trans C.2.2.2.1.symm) rfl (hb C.2.2.1 hd) hf (W := (st.map fun v => v.category).sum) (by show 2 * 0 + _ ≤ _; omega) hlo
  subst e'
  have hle := X'.heapSize
  have ul : us.length = nn.toNatClampNeg := by rw [hus]; simp
  exact ⟨T', L, cells, slots, X', N', P.copied hi (by omega) K hl (by simp only [List.length_append, List.length_take, List.length_drop, ul]; omega) B', I.keep hi K, hs, stp⟩
theorem ldcInt {index : Nat} {x : Int32} (hd : decode bytes pc = .ok (.ldc index, 2)) (w : (Jvm.Cond.constant y.cls index x).before a0 Z = true) (hp : pc + 2 = pc') (hr : WP l Z hB y bytes ml ret R n1 Q sl H pc' Ls (.int x :: st)) : WP l Z hB y bytes ml ret R n1 Q sl H pc Ls st := by
  subst hp
  exact WP.step (fun p e s m args below meth c T locs cells slots C X P tgt h => X.ldcInt C.1 C.2.2.2.2.1 (mvT C.2.1 w) (g := mkF m pc Ls st) rfl (hb C.2.2.1 hd) _ h) hr
theorem ldc2Long {index : Nat} {x : Int64} (hd : decode bytes pc = .ok (.ldc2_w index, 3)) (w : (Jvm.Cond.constantLong y.cls index x).before a0 Z = true) (hp : pc + 3 = pc') (hr : WP l Z hB y bytes ml ret R n1 Q sl H pc' Ls (.long x :: st)) : WP l Z hB y bytes ml ret R n1 Q sl H pc Ls st := by
  subst hp
  exact WP.step (fun p e s m args below meth c T locs cells slots C X P tgt h => X.ldc2Long C.1 C.2.2.2.2.1 (mvT C.2.1 w) (g := mkF m pc Ls st) rfl (hb C.2.2.1 hd) _ h) hr
theorem getCls {a mr : Addr} {C : String} {index : Nat} (hd : decode bytes pc = .ok (.invokevirtual index, 3)) (w1 : (Jvm.Cond.methodLink y.cls index Jvm.Stand.gcN).before a0 Z = true) (w2 : (Jvm.Cond.declares Jvm.Stand.gcN).before a0 Z = true) (hnf : ∀ s : State, Z.Warmed39 s.vm → NotFace s Jvm.Stand.gcN) (w4 : (Jvm.Cond.selects C Jvm.Stand.gcN Jvm.Stand.gcN).before a0 Z = true) (w5 : (Jvm.Cond.instanceMethod Jvm.Stand.gcN).before a0 Z = true) (w6 : (Jvm.Cond.native Jvm.Stand.gcN).before a0 Z = true) (E : ∀ h, Hp Z hB h H → Exa Z h a C) (M : Mir Z C mr) (hml : Ls.size = ml) (hf : 1 ≤ R.frames) (hlo : (st.map fun v => v.category).sum + (nativeFrameWords "java/lang/Object" "getClass" 1 + 11) ≤ R.locals) (hp : pc + 3 = pc') (hr : WP l Z hB y bytes ml ret R n1 Q sl H pc' Ls (.ref mr :: st)) : WP l Z hB y bytes ml ret R n1 Q sl H pc Ls (.ref a :: st) := by
  subst hp
  refine WP.stepT (fun p e s m args below meth c T locs cells slots C' X P => ?_) hr
  obtain ⟨cB, kB, i1, i2, i3⟩ := isOf (s := s) (T := T) C'.2.1 rfl (E _ P)
  obtain ⟨cc, kc, m1, m2, m3, -⟩ := M
  rw [C'.2.1.alike.findClass] at i1
  cases i1.symm.trans m1
  obtain ⟨k', q, ek⟩ := C'.2.1.alike.2.2 _ _ m2
  obtain ⟨vm', X', st⟩ := X.getClassOf C'.1 C'.2.2.2.2.1 (mvT C'.2.1 w1) (mvT C'.2.1 w2) (hnf s C'.2.1) (mvT C'.2.1 w4) (mvT C'.2.1 w5) (mvT C'.2.1 w6) (by rw [C'.2.1.alike.findClass]; exact m1) i3 q (by rw [ek]; exact m3) (g := mkF m pc Ls (.ref a :: st)) rfl (hml.trans C'.2.2.2.1.symm) rfl (hb C'.2.2.1 hd) hf (by show 2 * 0 + _ + _ ≤ _; omega)
  exact ⟨_, X', rfl, st⟩
theorem ldcMir {mr : Addr} {C : String} {index : Nat} (hd : decode bytes pc = .ok (.ldc index, 2)) (w : (Jvm.Cond.classLink y.cls index C).before a0 Z = true) (M : Mir Z C mr) (hp : pc + 2 = pc') (hr : WP l Z hB y bytes ml ret R n1 Q sl H pc' Ls (.ref mr :: st)) : WP l Z hB y bytes ml ret R n1 Q sl H pc Ls st := by
  subst hp
  refine WP.stepT (fun p e s m args below meth c T locs cells slots C' X P => ?_) hr
  obtain ⟨cc, kc, m1, m2, m3, -⟩ := M
  obtain ⟨k', q, ek⟩ := C'.2.1.alike.2.2 _ _ m2
  have f1 : s.vm.findClass C = some cc := by rw [C'.2.1.alike.findClass]; exact m1
  have hm : k'.mirror = some mr := by rw [ek]; exact m3
  have hev : (Term.mirror C).eval args s none [] s = some (.ref mr) := by simp [Term.eval, f1, q, hm]
  obtain ⟨vm', X', st⟩ := X.ldcMirror C'.1 C'.2.2.2.2.1 (mvT C'.2.1 w) hev (g := mkF m pc Ls st) rfl (hb C'.2.2.1 hd)
  exact ⟨_, X', rfl, st⟩
theorem castTo {K : String} {index : Nat} {a : Addr} (hd : decode bytes pc = .ok (.checkcast index, 3)) (w : (Jvm.Cond.classLink y.cls index K).before a0 Z = true) (F : ∀ h, Hp Z hB h H → Ins Z h a K true) (hp : pc + 3 = pc') (hr : WP l Z hB y bytes ml ret R n1 Q sl H pc' Ls (.ref a :: st)) : WP l Z hB y bytes ml ret R n1 Q sl H pc Ls (.ref a :: st) := by
  subst hp
  exact WP.stepT (fun p e s m args below meth c T locs cells slots C X P => castY X C.1 C.2.1 C.2.2.2.2.1 w rfl (F _ P) (g := mkF m pc Ls (.ref a :: st)) rfl rfl (hb C.2.2.1 hd)) hr
theorem instYes {K : String} {index : Nat} {a : Addr} (hd : decode bytes pc = .ok (.instanceof index, 3)) (w : (Jvm.Cond.classLink y.cls index K).before a0 Z = true) (F : ∀ h, Hp Z hB h H → Ins Z h a K true) (hp : pc + 3 = pc') (hr : WP l Z hB y bytes ml ret R n1 Q sl H pc' Ls (.int 1 :: st)) : WP l Z hB y bytes ml ret R n1 Q sl H pc Ls (.ref a :: st) := by
  subst hp
  exact WP.stepT (fun p e s m args below meth c T locs cells slots C X P => instY X C.1 C.2.1 C.2.2.2.2.1 w rfl (F _ P) (g := mkF m pc Ls (.ref a :: st)) rfl rfl (hb C.2.2.1 hd)) hr
theorem instNot {K C : String} {index : Nat} {a : Addr} (hd : decode bytes pc = .ok (.instanceof index, 3)) (w : (Jvm.Cond.classLink y.cls index K).before a0 Z = true) (E : ∀ h, Hp Z hB h H → Exa Z h a C) (F : ∃ c t, Z.vm.findClass C = some c ∧ Z.vm.findClass K = some t ∧ Z.vm.assignable c t = false) (hp : pc + 3 = pc') (hr : WP l Z hB y bytes ml ret R n1 Q sl H pc' Ls (.int 0 :: st)) : WP l Z hB y bytes ml ret R n1 Q sl H pc Ls (.ref a :: st) := by
  subst hp
  exact WP.stepT (fun p e s m args below meth c T locs cells slots C X P => instNo X C.1 C.2.1 C.2.2.2.2.1 w rfl (E _ P) F (g := mkF m pc Ls (.ref a :: st)) rfl rfl (hb C.2.2.1 hd)) hr
theorem instNull {index : Nat} (hd : decode bytes pc = .ok (.instanceof index, 3)) (hp : pc + 3 = pc') (hr : WP l Z hB y bytes ml ret R n1 Q sl H pc' Ls (.int 0 :: st)) : WP l Z hB y bytes ml ret R n1 Q sl H pc Ls (.null :: st) := by
  subst hp
  exact WP.step (fun p e s m args below meth c T locs cells slots C X P tgt h => X.instanceofNull C.1 (g := mkF m pc Ls (.null :: st)) rfl rfl (hb C.2.2.1 hd) _ h) hr
theorem castNull {index : Nat} (hd : decode bytes pc = .ok (.checkcast index, 3)) (hp : pc + 3 = pc') (hr : WP l Z hB y bytes ml ret R n1 Q sl H pc' Ls (.null :: st)) : WP l Z hB y bytes ml ret R n1 Q sl H pc Ls (.null :: st) := by
  subst hp
  exact WP.step (fun p e s m args below meth c T locs cells slots C X P tgt h => X.checkcastNull C.1 (g := mkF m pc Ls (.null :: st)) rfl rfl (hb C.2.2.1 hd) _ h) hr
/-! returns -/
theorem retV {w : Value} {t : FieldType} {i : Instr} (hd : decode bytes pc = .ok (i, 1)) (hret : ret = some t) (hn : narrow t w = w)
    (hi : (i = .ireturn ∧ (t = .int ∨ t = .boolean ∨ t = .byte ∨ t = .char ∨ t = .short) ∧ ∃ z, w = .int z) ∨ (i = .lreturn ∧ t = .long ∧ ∃ z, w = .long z) ∨ (i = .dreturn ∧ t = .double ∧ ∃ z, w = .double z) ∨ (i = .freturn ∧ t = .float ∧ ∃ z, w = .float z) ∨ (i = .areturn ∧ t.isReference = true ∧ w.isRef = true))
    (hc : H.length ≤ n1 + R.cells) (hs : sl ≤ R.slots) (hQ : Q (some w) H) : WP l Z hB y bytes ml ret R n1 Q sl H pc Ls (w :: st) := by
  intro p e s m args below meth c C T locs cells slots X N P hs' I
  have hr := C.2.2.2.2.2.2.1.trans hret
  have hsz := C.2.2.2.2.2.2.2.2
  have hp1 := P.1
  obtain ⟨fs, hl, hrun, hended, hW, hsame⟩ := (exact' X (k := R.cells) (by omega)).leave (v := some w) (fun h => by rw [hr] at h; cases h) C.2.2.2.2.2.2.2.1
  exact ⟨_, _, retOut X C.1 hr hn hi (hb C.2.2.1 hd) hl, hrun, hended, Nat.le_refl _, some w, locs, H, rfl, hQ, P, (show LI Z _ hB H T.vm T.heap from I.at C.2.1 X), N, ReturnedEndW.of_narrow ⟨_, rfl⟩ hW (hsame.mono (Nat.le_refl _) (Nat.le_trans hs' hs))⟩
theorem iret {x : Int32} {t : FieldType} (hd : decode bytes pc = .ok (.ireturn, 1)) (hret : ret = some t) (ht : t = .int ∨ t = .boolean ∨ t = .byte ∨ t = .char ∨ t = .short) (hn : narrow t (.int x) = .int x) (hc : H.length ≤ n1 + R.cells) (hs : sl ≤ R.slots) (hQ : Q (some (.int x)) H) : WP l Z hB y bytes ml ret R n1 Q sl H pc Ls (.int x :: st) :=
  retV hd hret hn (Or.inl ⟨rfl, ht, _, rfl⟩) hc hs hQ
theorem iretN {x : Int32} {t : FieldType} (hd : decode bytes pc = .ok (.ireturn, 1)) (hret : ret = some t) (ht : t = .boolean ∨ t = .byte ∨ t = .char ∨ t = .short) (hc : H.length ≤ n1 + R.cells) (hs : sl ≤ R.slots) (hQ : Q (some (.int (nar t x))) H) : WP l Z hB y bytes ml ret R n1 Q sl H pc Ls (.int x :: st) := by
  intro p e s m args below meth c C T locs cells slots X N P hs' I
  have hr := C.2.2.2.2.2.2.1.trans hret
  have hsz := C.2.2.2.2.2.2.2.2
  have hp1 := P.1
  obtain ⟨fs, hl, hrun, hended, hW, hsame⟩ := (exact' X (k := R.cells) (by omega)).leave (v := some (.int (nar t x))) (fun h => by rw [hr] at h; cases h) C.2.2.2.2.2.2.2.1
  exact ⟨_, _, retN X C.1 hr ht (hb C.2.2.1 hd) hl, hrun, hended, Nat.le_refl _, _, locs, H, rfl, hQ, P, (show LI Z _ hB H T.vm T.heap from I.at C.2.1 X), N, ReturnedEndW.of_narrow ⟨_, rfl⟩ hW (hsame.mono (Nat.le_refl _) (Nat.le_trans hs' hs))⟩
theorem lret {x : Int64} (hd : decode bytes pc = .ok (.lreturn, 1)) (hret : ret = some .long) (hc : H.length ≤ n1 + R.cells) (hs : sl ≤ R.slots) (hQ : Q (some (.long x)) H) : WP l Z hB y bytes ml ret R n1 Q sl H pc Ls (.long x :: st) :=
  retV hd hret rfl (Or.inr (Or.inl ⟨rfl, rfl, _, rfl⟩)) hc hs hQ
theorem aret {w : Value} {t : FieldType} (hd : decode bytes pc = .ok (.areturn, 1)) (hret : ret = some t) (ht : t.isReference = true) (hw : w.isRef = true) (hc : H.length ≤ n1 + R.cells) (hs : sl ≤ R.slots) (hQ : Q (some w) H) : WP l Z hB y bytes ml ret R n1 Q sl H pc Ls (w :: st) :=
  retV hd hret (by rcases ref_cases hw with rfl | ⟨a, rfl⟩ <;> cases t <;> first | rfl | cases ht) (Or.inr (Or.inr (Or.inr (Or.inr ⟨rfl, ht, hw⟩)))) hc hs hQ
theorem vret (hd : decode bytes pc = .ok (.return_, 1)) (hret : ret = none) (hc : H.length ≤ n1 + R.cells) (hs : sl ≤ R.slots) (hQ : Q none H) : WP l Z hB y bytes ml ret R n1 Q sl H pc Ls [] := by
  intro p e s m args below meth c C T locs cells slots X N P hs' I
  have hr := C.2.2.2.2.2.2.1.trans hret
  have hsz := C.2.2.2.2.2.2.2.2
  have hp1 := P.1
  obtain ⟨fs, hl, hrun, hended, hW, hsame⟩ := (exact' X (k := R.cells) (by omega)).leave (v := none) (fun _ => rfl) C.2.2.2.2.2.2.2.1
  exact ⟨_, _, X.returnOut C.1 hr (hb C.2.2.1 hd) hl, hrun, hended, Nat.le_refl _, none, locs, H, rfl, hQ, P, (show LI Z _ hB H T.vm T.heap from I.at C.2.1 X), N, ReturnedEndW.of_narrow ⟨_, rfl⟩ hW (hsame.mono (Nat.le_refl _) (Nat.le_trans hs' hs))⟩
/-! calls -/
section Calls
variable {y' z' : MethodName} {bytes' : ByteArray} {ml' : Nat} {ret' : Option FieldType} {rm : Room} {Q' : Option Value → List Rec → Prop} {index : Nat} {argsL st0 : List Value}
theorem mkBack {p : Program} {e : Env} {s : State} {args : Array Value} {below : List Frame} {h : Heap} {len W : Nat} {as' : Array Value} (hC : Ctr l Z hB y' bytes' ml' ret' [] rm as' H Q') (P : Hp Z hB h H) (I : LI Z l.2 hB H s.vm h) (hZ : Z.Warmed39 s.vm) (w4 : (Jvm.Cond.code y' bytes' ml' ret').before a0 Z = true) (w3 : (Jvm.Cond.initialized y'.cls).before a0 Z = true) (hfr : rm.frames + 1 ≤ R.frames) (hlo : W + (ml' + 11) + rm.locals ≤ R.locals) :
    BackS l.1 R p e below s args y' len W (fun A a => a = as' ∧ A.U.heap = h ∧ A.cells + rm.cells ≤ R.cells ∧ A.slots + rm.slots ≤ R.slots)
      (fun A _ v B => ∃ L, (∃ H', Q' v H' ∧ Hp Z hB B.U.heap H' ∧ LI Z l.2 hB H' B.U.vm B.U.heap ∧ Fr hB.size L) ∧ B.locs = A.locs ++ L ∧ B.cells = A.cells + rm.cells ∧ B.slots = A.slots + rm.slots) :=
  BackS.of_freeW (bytes := bytes') (maxL := ml') (ret := ret') (E := fun _ _ o t L k n => k = rm.cells ∧ n = rm.slots ∧ ∃ v, o = .returned v ∧ ∃ H', Q' v H' ∧ Hp Z hB t.heap H' ∧ LI Z l.2 hB H' t.vm t.heap ∧ Fr hB.size L) hC hfr hlo
    (fun m meth c A a Y hp => have hU : Z.Warmed39 A.U.vm := wtrans hZ Y.warmed
      ⟨by show (Jvm.Cond.and _ .tt).before a A.U = true; rw [Cond.before_and, mv hU w4]; rfl, mv hU w4, mv hU w3, hp.2.2.1, hp.2.2.2⟩)
    (fun m meth c A a g mk Y hp => ⟨hp.1, wtrans hZ Y.warmed, by show Hp Z hB A.U.heap H; rw [hp.2.1]; exact P, by show LI Z l.2 hB H A.U.vm A.U.heap; rw [hp.2.1]; exact I.at hZ Y⟩) (fun _ _ _ _ _ _ _ _ _ => trivial)
    (fun _ _ _ _ ⟨v, L, H', h1, h2, h3, h4, h5, h6⟩ => ⟨L, _, _, h6, rfl, rfl, v, h1, H', h2, h3, h4, h5⟩)
    (fun m meth c A a g mk v t L k n Y hp _ _ ⟨e1, e2, v', e3, e4⟩ => by cases e3; subst e1 e2; exact ⟨L, e4, rfl, rfl, rfl⟩)
theorem callS (hd : decode bytes pc = .ok (.invokestatic index, 3)) (w1 : (Jvm.Cond.methodLink y.cls index y').before a0 Z = true) (w2 : (Jvm.Cond.static y').before a0 Z = true) (w3 : (Jvm.Cond.initialized y'.cls).before a0 Z = true) (w4 : (Jvm.Cond.code y' bytes' ml' ret').before a0 Z = true) (hy : y'.cls ≠ "java/lang/invoke/MethodHandle" ∧ y'.cls ≠ "java/lang/invoke/VarHandle") (hlen : ∀ sig, parseMethodDescriptor y'.desc = some sig → argsL.length = sig.parameters.length)
    (hC : Ctr l Z hB y' bytes' ml' ret' [] rm argsL.toArray H Q') (hml : Ls.size = ml) (hfr : rm.frames + 1 ≤ R.frames) (hlo : (st.map fun v => v.category).sum + (ml' + 11) + rm.locals ≤ R.locals) (hcl : H.length + rm.cells ≤ n1 + R.cells) (hsl : sl + rm.slots ≤ R.slots) (hst : argsL.reverse ++ st = st0) (hp : pc + 3 = pc')
    (hr : ∀ v H', Q' v H' → WP l Z hB y bytes ml ret R n1 Q (sl + rm.slots) H' pc' Ls (v.toList ++ st)) : WP l Z hB y bytes ml ret R n1 Q sl H pc Ls st0 := by
  subst hp; subst hst
  intro p e s m args below meth c C T locs cells slots X N P hs I
  have hsz := C.2.2.2.2.2.2.2.2
  have hp1 := P.1
  have hz : T.heap.size = s.heap.size + (T.heap.size - s.heap.size) := by have := X.same.2.1; have : s.heap.size ≤ T.heap.size := this; omega
  obtain ⟨v, vm1, ⟨U', ls, cc, ss⟩, -, X', hS, hgr, ⟨L, hq, e1, e2, e3⟩, stp⟩ := callSS (exact' X (Nat.le_of_eq hz)) C.1 (y := y') C.2.2.2.2.1 (mvT C.2.1 w1) (mvT C.2.1 w2) (mvT C.2.1 w3) (mvT C.2.1 w4) hy (mkBack (W := (st.map fun v => v.category).sum) hC P I C.2.1 w4 w3 hfr hlo) (g := mkF m pc Ls (argsL.reverse ++ st)) rfl (hml.trans C.2.2.2.1.symm) (argsL := argsL) (rest := st) hlen rfl (by show 2 * 0 + _ ≤ _; omega) (hb C.2.2.1 hd) (fun _ _ => ⟨rfl, rfl, by show T.heap.size - s.heap.size + _ ≤ _; omega, by show slots + _ ≤ _; omega⟩)
  dsimp only [Pt.U, Pt.locs, Pt.cells, Pt.slots] at X' hS hgr e1 e2 e3 stp hq
  subst e1 e2 e3
  obtain ⟨H', q1, q2, q4, q3⟩ := hq
  obtain ⟨U, o, h1, h2⟩ := hr v H' q1 p e (s.setVm U'.vm) m args below meth c (C.re hS) U' _ _ _ X' (Fr.app N q3) q2 (by omega) q4
  exact ⟨U, o, stp.trans h1, h2.re hS hgr⟩
theorem callI {a : Addr} (hd : decode bytes pc = .ok (.invokespecial index, 3)) (hy1 : y'.name = "<init>") (w1 : (Jvm.Cond.methodLink y.cls index y').before a0 Z = true) (w2 : (Jvm.Cond.instanceMethod y').before a0 Z = true) (w3 : (Jvm.Cond.initialized y'.cls).before a0 Z = true) (w4 : (Jvm.Cond.code y' bytes' ml' none).before a0 Z = true) (hy : y'.cls ≠ "java/lang/invoke/MethodHandle" ∧ y'.cls ≠ "java/lang/invoke/VarHandle") (hlen : ∀ sig, parseMethodDescriptor y'.desc = some sig → argsL.length = sig.parameters.length)
    (hC : Ctr l Z hB y' bytes' ml' none [] rm (.ref a :: argsL).toArray H Q') (hml : Ls.size = ml) (hfr : rm.frames + 1 ≤ R.frames) (hlo : (st.map fun v => v.category).sum + (ml' + 11) + rm.locals ≤ R.locals) (hcl : H.length + rm.cells ≤ n1 + R.cells) (hsl : sl + rm.slots ≤ R.slots) (hst : argsL.reverse ++ .ref a :: st = st0) (hp : pc + 3 = pc')
    (hr : ∀ v H', Q' v H' → WP l Z hB y bytes ml ret R n1 Q (sl + rm.slots) H' pc' Ls (v.toList ++ st)) : WP l Z hB y bytes ml ret R n1 Q sl H pc Ls st0 := by
  subst hp; subst hst
  intro p e s m args below meth c C T locs cells slots X N P hs I
  have hsz := C.2.2.2.2.2.2.2.2
  have hp1 := P.1
  have hz : T.heap.size = s.heap.size + (T.heap.size - s.heap.size) := by have := X.same.2.1; have : s.heap.size ≤ T.heap.size := this; omega
  obtain ⟨v, vm1, ⟨U', ls, cc, ss⟩, -, X', hS, hgr, ⟨L, hq, e1, e2, e3⟩, stp⟩ := (exact' X (Nat.le_of_eq hz)).specialBackS C.1 (y := y') hy1 C.2.2.2.2.1 (mvT C.2.1 w1) (mvT C.2.1 w2) (mvT C.2.1 w4) hy (mkBack (W := (st.map fun v => v.category).sum) hC P I C.2.1 w4 w3 hfr hlo) (g := mkF m pc Ls (argsL.reverse ++ .ref a :: st)) rfl (hml.trans C.2.2.2.1.symm) (Steps.refl _) (a := a) (argsL := argsL) (rest := st) hlen rfl (by show 2 * 0 + _ ≤ _; omega) (hb C.2.2.1 hd) (fun _ _ => ⟨rfl, rfl, by show T.heap.size - s.heap.size + _ ≤ _; omega, by show slots + _ ≤ _; omega⟩)
  dsimp only [Pt.U, Pt.locs, Pt.cells, Pt.slots] at X' hS hgr e1 e2 e3 stp hq
  subst e1 e2 e3
  obtain ⟨H', q1, q2, q4, q3⟩ := hq
  obtain ⟨U, o, h1, h2⟩ := hr v H' q1 p e (s.setVm U'.vm) m args below meth c (C.re hS) U' _ _ _ X' (Fr.app N q3) q2 (by omega) q4
  exact ⟨U, o, stp.trans h1, h2.re hS hgr⟩
theorem nfSel {C : String} (w : (Jvm.Cond.selects C y' y').before a0 Z = true) : ∀ s : State, Z.Warmed39 s.vm → NotFace s y' := fun s hZ => notFace_of_selects (args := #[]) (mvT hZ w)
theorem callV {a : Addr} {C : String} (hd : decode bytes pc = .ok (.invokevirtual index, 3)) (w1 : (Jvm.Cond.methodLink y.cls index y').before a0 Z = true) (w2 : (Jvm.Cond.declares y').before a0 Z = true) (hnf : ∀ s : State, Z.Warmed39 s.vm → NotFace s y') (w5 : (Jvm.Cond.selects C y' z').before a0 Z = true) (w6 : (Jvm.Cond.instanceMethod z').before a0 Z = true) (w3 : (Jvm.Cond.initialized z'.cls).before a0 Z = true) (w4 : (Jvm.Cond.code z' bytes' ml' ret').before a0 Z = true) (hy : y'.cls ≠ "java/lang/invoke/MethodHandle" ∧ y'.cls ≠ "java/lang/invoke/VarHandle") (hlen : ∀ sig, parseMethodDescriptor y'.desc = some sig → argsL.length = sig.parameters.length)
    (E : ∀ h, Hp Z hB h H → Exa Z h a C) (hC : Ctr l Z hB z' bytes' ml' ret' [] rm (.ref a :: argsL).toArray H Q') (hml : Ls.size = ml) (hfr : rm.frames + 1 ≤ R.frames) (hlo : (st.map fun v => v.category).sum + (ml' + 11) + rm.locals ≤ R.locals) (hcl : H.length + rm.cells ≤ n1 + R.cells) (hsl : sl + rm.slots ≤ R.slots) (hst : argsL.reverse ++ .ref a :: st = st0) (hp : pc + 3 = pc')
    (hr : ∀ v H', Q' v H' → WP l Z hB y bytes ml ret R n1 Q (sl + rm.slots) H' pc' Ls (v.toList ++ st)) : WP l Z hB y bytes ml ret R n1 Q sl H pc Ls st0 := by
  subst hp; subst hst
  intro p e s m args below meth c C' T locs cells slots X N P hs I
  have hsz := C'.2.2.2.2.2.2.2.2
  have hp1 := P.1
  have hz : T.heap.size = s.heap.size + (T.heap.size - s.heap.size) := by have := X.same.2.1; have : s.heap.size ≤ T.heap.size := this; omega
  obtain ⟨cq, kq, qa, qb, qc⟩ := isOf (s := s) (T := T) C'.2.1 rfl (E _ P)
  obtain ⟨v, vm1, ⟨U', ls, cc, ss⟩, -, X', hS, hgr, ⟨L, hq, e1, e2, e3⟩, stp⟩ := (exact' X (Nat.le_of_eq hz)).virtualBackS C'.1 (y := y') (z := z') C'.2.2.2.2.1 (mvT C'.2.1 w1) (mvT C'.2.1 w2) (hnf s C'.2.1) (mvT C'.2.1 w5) (mvT C'.2.1 w6) hy (mkBack (W := (st.map fun v => v.category).sum) hC P I C'.2.1 w4 w3 hfr hlo) qa qc (g := mkF m pc Ls (argsL.reverse ++ .ref a :: st)) rfl (hml.trans C'.2.2.2.1.symm) (Steps.refl _) (argsL := argsL) (rest := st) hlen rfl (by show 2 * 0 + _ ≤ _; omega) (hb C'.2.2.1 hd) (fun _ _ => ⟨rfl, rfl, by show T.heap.size - s.heap.size + _ ≤ _; omega, by show slots + _ ≤ _; omega⟩)
  dsimp only [Pt.U, Pt.locs, Pt.cells, Pt.slots] at X' hS hgr e1 e2 e3 stp hq
  subst e1 e2 e3
  obtain ⟨H', q1, q2, q4, q3⟩ := hq
  obtain ⟨U, o, h1, h2⟩ := hr v H' q1 p e (s.setVm U'.vm) m args below meth c (C'.re hS) U' _ _ _ X' (Fr.app N q3) q2 (by omega) q4
  exact ⟨U, o, stp.trans h1, h2.re hS hgr⟩
/-- through a subclass's name: the class 'owner' declares it -/
theorem callU {a : Addr} {C owner : String} (hd : decode bytes pc = .ok (.invokevirtual index, 3)) (w1 : (Jvm.Cond.methodLink y.cls index y').before a0 Z = true) (w7 : (Jvm.Cond.sameMethod y'.cls owner y'.name y'.desc).before a0 Z = true) (w2 : (Jvm.Cond.declares ⟨owner, y'.name, y'.desc⟩).before a0 Z = true) (w5 : (Jvm.Cond.selects C y' z').before a0 Z = true) (w6 : (Jvm.Cond.instanceMethod z').before a0 Z = true) (w3 : (Jvm.Cond.initialized z'.cls).before a0 Z = true) (w4 : (Jvm.Cond.code z' bytes' ml' ret').before a0 Z = true) (hy : owner ≠ "java/lang/invoke/MethodHandle" ∧ owner ≠ "java/lang/invoke/VarHandle") (hlen : ∀ sig, parseMethodDescriptor y'.desc = some sig → argsL.length = sig.parameters.length)
    (E : ∀ h, Hp Z hB h H → Exa Z h a C) (hC : Ctr l Z hB z' bytes' ml' ret' [] rm (.ref a :: argsL).toArray H Q') (hml : Ls.size = ml) (hfr : rm.frames + 1 ≤ R.frames) (hlo : (st.map fun v => v.category).sum + (ml' + 11) + rm.locals ≤ R.locals) (hcl : H.length + rm.cells ≤ n1 + R.cells) (hsl : sl + rm.slots ≤ R.slots) (hst : argsL.reverse ++ .ref a :: st = st0) (hp : pc + 3 = pc')
    (hr : ∀ v H', Q' v H' → WP l Z hB y bytes ml ret R n1 Q (sl + rm.slots) H' pc' Ls (v.toList ++ st)) : WP l Z hB y bytes ml ret R n1 Q sl H pc Ls st0 := by
  subst hp; subst hst
  intro p e s m args below meth c C' T locs cells slots X N P hs I
  have hsz := C'.2.2.2.2.2.2.2.2
  have hp1 := P.1
  have hz : T.heap.size = s.heap.size + (T.heap.size - s.heap.size) := by have := X.same.2.1; have : s.heap.size ≤ T.heap.size := this; omega
  obtain ⟨cq, kq, qa, qb, qc⟩ := isOf (s := s) (T := T) C'.2.1 rfl (E _ P)
  obtain ⟨v, vm1, ⟨U', ls, cc, ss⟩, -, X', hS, hgr, ⟨L, hq, e1, e2, e3⟩, stp⟩ := (exact' X (Nat.le_of_eq hz)).virtualBackUpS C'.1 (x := y') (y := z') C'.2.2.2.2.1 (mvT C'.2.1 w1) (mvT C'.2.1 w7) (mvT C'.2.1 w2) hy (mvT C'.2.1 w5) (mvT C'.2.1 w6) (mkBack (W := (st.map fun v => v.category).sum) hC P I C'.2.1 w4 w3 hfr hlo) qa qc (g := mkF m pc Ls (argsL.reverse ++ .ref a :: st)) rfl (hml.trans C'.2.2.2.1.symm) (Steps.refl _) (argsL := argsL) (rest := st) hlen rfl (by show 2 * 0 + _ ≤ _; omega) (hb C'.2.2.1 hd) (fun _ _ => ⟨rfl, rfl, by show T.heap.size - s.heap.size + _ ≤ _; omega, by show slots + _ ≤ _; omega⟩)
  dsimp only [Pt.U, Pt.locs, Pt.cells, Pt.slots] at X' hS hgr e1 e2 e3 stp hq
  subst e1 e2 e3
  obtain ⟨H', q1, q2, q4, q3⟩ := hq
  obtain ⟨U, o, h1, h2⟩ := hr v H' q1 p e (s.setVm U'.vm) m args below meth c (C'.re hS) U' _ _ _ X' (Fr.app N q3) q2 (by omega) q4
  exact ⟨U, o, stp.trans h1, h2.re hS hgr⟩
/-- a private method, by invokevirtual -/
theorem callP {a : Addr} {C : String} (hd : decode bytes pc = .ok (.invokevirtual index, 3)) (w1 : (Jvm.Cond.methodLink y.cls index y').before a0 Z = true) (w6 : (Jvm.Cond.instanceMethod y').before a0 Z = true) (w5 : (Jvm.Cond.selects y'.cls y' y').before a0 Z = true) (w8 : (Jvm.Cond.privateMethod y').before a0 Z = true) (w3 : (Jvm.Cond.initialized y'.cls).before a0 Z = true) (w4 : (Jvm.Cond.code y' bytes' ml' ret').before a0 Z = true) (hy : y'.cls ≠ "java/lang/invoke/MethodHandle" ∧ y'.cls ≠ "java/lang/invoke/VarHandle") (hlen : ∀ sig, parseMethodDescriptor y'.desc = some sig → argsL.length = sig.parameters.length)
    (E : ∀ h, Hp Z hB h H → Exa Z h a C) (hC : Ctr l Z hB y' bytes' ml' ret' [] rm (.ref a :: argsL).toArray H Q') (hml : Ls.size = ml) (hfr : rm.frames + 1 ≤ R.frames) (hlo : (st.map fun v => v.category).sum + (ml' + 11) + rm.locals ≤ R.locals) (hcl : H.length + rm.cells ≤ n1 + R.cells) (hsl : sl + rm.slots ≤ R.slots) (hst : argsL.reverse ++ .ref a :: st = st0) (hp : pc + 3 = pc')
    (hr : ∀ v H', Q' v H' → WP l Z hB y bytes ml ret R n1 Q (sl + rm.slots) H' pc' Ls (v.toList ++ st)) : WP l Z hB y bytes ml ret R n1 Q sl H pc Ls st0 := by
  subst hp; subst hst
  intro p e s m args below meth c C' T locs cells slots X N P hs I
  have hsz := C'.2.2.2.2.2.2.2.2
  have hp1 := P.1
  have hz : T.heap.size = s.heap.size + (T.heap.size - s.heap.size) := by have := X.same.2.1; have : s.heap.size ≤ T.heap.size := this; omega
  obtain ⟨cq, qa, qb⟩ := (E _ P).cell
  obtain ⟨v, vm1, ⟨U', ls, cc, ss⟩, -, X', hS, hgr, ⟨L, hq, e1, e2, e3⟩, stp⟩ := (exact' X (Nat.le_of_eq hz)).privateBackS C'.1 (y := y') C'.2.2.2.2.1 (mvT C'.2.1 w1) (mvT C'.2.1 w6) (mvT C'.2.1 w5) (Cond.privateMethod_at (mvP C'.2.1 w8 (args := #[]))) (mvT C'.2.1 w4) hy (mkBack (W := (st.map fun v => v.category).sum) hC P I C'.2.1 w4 w3 hfr hlo) (g := mkF m pc Ls (argsL.reverse ++ .ref a :: st)) rfl (hml.trans C'.2.2.2.1.symm) (Steps.refl _) (a := a) qa qb (argsL := argsL) (rest := st) hlen rfl (by show 2 * 0 + _ ≤ _; omega) (hb C'.2.2.1 hd) (fun _ _ => ⟨rfl, rfl, by show T.heap.size - s.heap.size + _ ≤ _; omega, by show slots + _ ≤ _; omega⟩)
  dsimp only [Pt.U, Pt.locs, Pt.cells, Pt.slots] at X' hS hgr e1 e2 e3 stp hq
  subst e1 e2 e3
  obtain ⟨H', q1, q2, q4, q3⟩ := hq
  obtain ⟨U, o, h1, h2⟩ := hr v H' q1 p e (s.setVm U'.vm) m args below meth c (C'.re hS) U' _ _ _ X' (Fr.app N q3) q2 (by omega) q4
  exact ⟨U, o, stp.trans h1, h2.re hS hgr⟩
theorem callF {a : Addr} {C : String} {count : Nat} (hfa : (Jvm.Cond.interfaceMethod y'.cls y'.cls y'.name y'.desc).faceAtom = true) (hd : decode bytes pc = .ok (.invokeinterface index count, 5)) (w1 : (Jvm.Cond.methodLink y.cls index y').before a0 Z = true) (w2 : (Jvm.Cond.declares y').before a0 Z = true) (wf : (Jvm.Cond.interfaceMethod y'.cls y'.cls y'.name y'.desc).before a0 Z = true) (w5 : (Jvm.Cond.selects C y' z').before a0 Z = true) (w6 : (Jvm.Cond.instanceMethod z').before a0 Z = true) (wp : (Jvm.Cond.publicMethod z').before a0 Z = true) (wu : (Jvm.Cond.unhidden C y'.name y'.desc).before a0 Z = true) (wc : (Jvm.Cond.castable C y'.cls).before a0 Z = true) (w3 : (Jvm.Cond.initialized z'.cls).before a0 Z = true) (w4 : (Jvm.Cond.code z' bytes' ml' ret').before a0 Z = true) (hy : y'.cls ≠ "java/lang/invoke/MethodHandle" ∧ y'.cls ≠ "java/lang/invoke/VarHandle") (hlen : ∀ sig, parseMethodDescriptor y'.desc = some sig → argsL.length = sig.parameters.length)
    (E : ∀ h, Hp Z hB h H → Exa Z h a C) (hC : Ctr l Z hB z' bytes' ml' ret' [] rm (.ref a :: argsL).toArray H Q') (hml : Ls.size = ml) (hfr : rm.frames + 1 ≤ R.frames) (hlo : (st.map fun v => v.category).sum + (ml' + 11) + rm.locals ≤ R.locals) (hcl : H.length + rm.cells ≤ n1 + R.cells) (hsl : sl + rm.slots ≤ R.slots) (hst : argsL.reverse ++ .ref a :: st = st0) (hp : pc + 5 = pc')
    (hr : ∀ v H', Q' v H' → WP l Z hB y bytes ml ret R n1 Q (sl + rm.slots) H' pc' Ls (v.toList ++ st)) : WP l Z hB y bytes ml ret R n1 Q sl H pc Ls st0 := by
  subst hp; subst hst
  intro p e s m args below meth c C' T locs cells slots X N P hs I
  have hsz := C'.2.2.2.2.2.2.2.2
  have hp1 := P.1
  have hz : T.heap.size = s.heap.size + (T.heap.size - s.heap.size) := by have := X.same.2.1; have : s.heap.size ≤ T.heap.size := this; omega
  obtain ⟨cq, kq, qa, qb, qc⟩ := isOf (s := s) (T := T) C'.2.1 rfl (E _ P)
  obtain ⟨v, vm1, ⟨U', ls, cc, ss⟩, -, X', hS, hgr, ⟨L, hq, e1, e2, e3⟩, stp⟩ := (exact' X (Nat.le_of_eq hz)).interfaceBackS C'.1 (xi := y') (y := z') C'.2.2.2.2.1 (mvT C'.2.1 w1) (mvT C'.2.1 w2) (mvT C'.2.1 wf (by simp [Cond.onTables, Cond.keepsFace, Cond.keeps, Cond.steady, hfa])) (mvT C'.2.1 w5) (mvT C'.2.1 w6) (mvT C'.2.1 wp) (mvT C'.2.1 wu) (mvT C'.2.1 wc) hy (mkBack (W := (st.map fun v => v.category).sum) hC P I C'.2.1 w4 w3 hfr hlo) qa qb qc (g := mkF m pc Ls (argsL.reverse ++ .ref a :: st)) rfl (hml.trans C'.2.2.2.1.symm) (Steps.refl _) (argsL := argsL) (rest := st) hlen rfl (by show 2 * 0 + _ ≤ _; omega) (hb C'.2.2.1 hd) (fun _ _ => ⟨rfl, rfl, by show T.heap.size - s.heap.size + _ ≤ _; omega, by show slots + _ ≤ _; omega⟩)
  dsimp only [Pt.U, Pt.locs, Pt.cells, Pt.slots] at X' hS hgr e1 e2 e3 stp hq
  subst e1 e2 e3
  obtain ⟨H', q1, q2, q4, q3⟩ := hq
  obtain ⟨U, o, h1, h2⟩ := hr v H' q1 p e (s.setVm U'.vm) m args below meth c (C'.re hS) U' _ _ _ X' (Fr.app N q3) q2 (by omega) q4
  exact ⟨U, o, stp.trans h1, h2.re hS hgr⟩
end Calls
theorem gsE {H : List Rec} {i : Nat} {r r' : Rec} (h : H[i]? = some r) : (H.set i r')[i]? = some r' := by
  have := (List.getElem?_eq_some_iff.mp h).1
  simp [List.getElem?_set, this]
theorem gsN {H : List Rec} {i j : Nat} {r r' : Rec} (hn : j ≠ i) (h : H[i]? = some r) : (H.set j r')[i]? = some r := by rw [List.getElem?_set_ne hn]; exact h
theorem gaL {H : List Rec} {i : Nat} {r r' : Rec} (h : H[i]? = some r) : (H ++ [r'])[i]? = some r := by
  have := (List.getElem?_eq_some_iff.mp h).1
  rw [List.getElem?_append_left this]; exact h
theorem gaR {H : List Rec} {i : Nat} {r : Rec} (h : H.length = i) : (H ++ [r])[i]? = some r := by subst h; simp
theorem saR {H : List Rec} {a b : Rec} : (H ++ [a]).set H.length b = H ++ [b] := by simp
theorem gaA {H M : List Rec} {i : Nat} {r : Rec} (h : H[i]? = some r) : (H ++ M)[i]? = some r := by
  have := (List.getElem?_eq_some_iff.mp h).1
  rw [List.getElem?_append_left this]; exact h
theorem gaB {H M : List Rec} {k : Nat} {r : Rec} (h : M[k]? = some r) : (H ++ M)[H.length + k]? = some r := by
  rw [List.getElem?_append_right (by omega), show H.length + k - H.length = k from by omega]; exact h
theorem saB {H M : List Rec} {k : Nat} {r : Rec} : (H ++ M).set (H.length + k) r = H ++ M.set k r := by
  rw [List.set_append_right _ _ (by omega), show H.length + k - H.length = k from by omega]
theorem distK {C : String} {ks : List Key} (hl : ∀ (i : Nat) (k : Key), ks[i]? = some k → Laid Z a0 C k.1 k.2.1 k.2.2) (hn : (ks.map fun k => k.2.1).Nodup) (hd : (ks.all fun k => (parseFieldDescriptor k.2.2).isSome) = true) : ∀ (i j : Nat) (k k' : Key), ks[i]? = some k → ks[j]? = some k' → i ≠ j → kslot Z k ≠ kslot Z k' := by
  intro i j k k' h1 h2 hne
  obtain ⟨l1, g1⟩ := List.getElem?_eq_some_iff.mp h1
  obtain ⟨l2, g2⟩ := List.getElem?_eq_some_iff.mp h2
  have p1 := List.all_eq_true.mp hd k (List.mem_of_getElem? h1)
  have p2 := List.all_eq_true.mp hd k' (List.mem_of_getElem? h2)
  obtain ⟨t1, q1⟩ := Option.isSome_iff_exists.mp p1
  obtain ⟨t2, q2⟩ := Option.isSome_iff_exists.mp p2
  refine slot_ne (hl i k h1) (hl j k' h2) (fun e => hne ?_) q1 q2
  have hp := List.pairwise_iff_getElem.mp hn
  rcases Nat.lt_trichotomy i j with z | z | z
  · exact (hp i j (by simpa using l1) (by simpa using l2) z (by rw [List.getElem_map, List.getElem_map, g1, g2, e])).elim
  · exact z
  · exact (hp j i (by simpa using l2) (by simpa using l1) z (by rw [List.getElem_map, List.getElem_map, g1, g2, e])).elim
end Walk
section Start
variable {args : Array Value} {Z : State}
theorem exaOf {t : Term} {C : String} (h : (Jvm.Cond.exactly t C).value args Z none Z [] = some true) : ∃ a, t.eval args Z none [] Z = some (.ref a) ∧ Exa Z Z.heap a C := by
  obtain ⟨a, ha⟩ := exa_v h
  exact ⟨a, ha, Exa.start ha h⟩
theorem fldInt {t : Term} {C n d : String} {a : Addr} {k : Int32} (ha : t.eval args Z none [] Z = some (.ref a)) (h : (Jvm.Cond.eq (.field t C n d) (.int k)).value args Z none Z [] = some true) : Fld Z Z.heap a C n d (.int k) := by
  have e : (Term.field t C n d).eval args Z none [] Z = Z.fieldOf? a C n d := fld_at ha
  cases hf : Z.fieldOf? a C n d with
  | none => simp [Cond.value, e, hf] at h
  | some v =>
    have q : v = .int k := by cases v <;> simp [Cond.value, e, hf] at h <;> simp [Term.eval] at h; rw [h]
    exact q ▸ Fld.start hf
theorem subF {first s : State} {o : Option Outcome} {idx : List Nat} {a b : Term} {x y : Int32} (ha : a.eval args first o idx s = some (.int x)) (hb : b.eval args first o idx s = some (.int y)) : (Term.sub a b).eval args first o idx s = some (.int (x - y)) := by simp [Term.eval, ha, hb]
theorem fldV {t : Term} {C n d : String} {a : Addr} {v : Value} (ha : t.eval args Z none [] Z = some (.ref a)) (h : (Term.field t C n d).eval args Z none [] Z = some v) : Fld Z Z.heap a C n d v := Fld.start ((fld_at ha).symm.trans h)
theorem eqvR {X F : Term} {a : Addr} (hF : F.eval args Z none [] Z = some (.ref a)) (h : (Jvm.Cond.eq X F).value args Z none Z [] = some true) : X.eval args Z none [] Z = some (.ref a) := by
  cases hx : X.eval args Z none [] Z with
  | none => simp [Cond.value, hx] at h
  | some v => cases v <;> simp [Cond.value, hx, hF] at h <;> simp [h]
theorem exaNe {h : Heap} {a b : Addr} {C D : String} (A : Exa Z h a C) (B : Exa Z h b D) (hn : C ≠ D) : ¬ (Value.ref a = Value.ref b) := fun e => by
  cases e
  obtain ⟨c, k, e1, e2, e3, -⟩ := A
  obtain ⟨c', k', f1, f2, f3, -⟩ := B
  cases e1.symm.trans f1
  exact ids_ne e2 f2 hn rfl
theorem lenOfT {t : Term} {a : Addr} {cl : Cell} {k : Int32} (ht : t.eval args Z none [] Z = some (.ref a)) (ha : Z.arrayAt? a = some cl) (h : (Jvm.Cond.eq (.length t) (.int k)).value args Z none Z [] = some true) : cl.slots.size < 2 ^ 31 ∧ cl.slots.size.toInt32 = k := by
  have e := eqv_i (show (Term.int k).eval args Z none [] Z = some (.int k) from rfl) h
  by_cases hl : cl.slots.size < 2 ^ 31
  · exact ⟨hl, Value.int.inj (Option.some.inj ((len_f ht ha hl).symm.trans e))⟩
  · simp [Term.eval, ht, ha] at e; omega
theorem elemI {t : Term} {a : Addr} {cl : Cell} {j k : Int32} (ht : t.eval args Z none [] Z = some (.ref a)) (ha : Z.arrayAt? a = some cl) (hj : ¬ j < 0) (h : (Jvm.Cond.eq (.elem t (.int j)) (.int k)).value args Z none Z [] = some true) : cl.slots[j.toNatClampNeg]? = some (.int k) :=
  (elem_f (a := .int j) ht (show (Term.int j).eval args Z none [] Z = some (.int j) from rfl) ha hj).symm.trans (eqv_i (show (Term.int k).eval args Z none [] Z = some (.int k) from rfl) h)
theorem nsRoot {a0 : Array Value} {O K : String} {n : Nat} (w : (Jvm.Cond.noSuperclass O).before a0 Z = true) (wi : (Jvm.Cond.instantiable K n).before a0 Z = true) (hn : O ≠ K) : NS Z O K := by
  obtain ⟨c, k, h1, h2, h3, -, -⟩ := Cond.noSuperclass_spec w
  obtain ⟨t, kt, g1, -⟩ := Cond.instantiable_spec wi
  have ne := ids_ne h1 g1 hn
  refine ⟨c, t, h1, g1, fun fuel => ?_⟩
  cases fuel with
  | zero => rfl
  | succ f => simp [Vm.isSubclassAux, ne, h2, h3]
theorem nsNo {a0 : Array Value} {C S K : String} {n : Nat} (w : (Jvm.Cond.superclass C S).before a0 Z = true) (wi : (Jvm.Cond.instantiable K n).before a0 Z = true) (q : NS Z C K) (hn : C ≠ K) : ∃ c t, Z.vm.findClass C = some c ∧ Z.vm.findClass K = some t ∧ Z.vm.assignable c t = false := by
  obtain ⟨c, t, h0, g0, n3⟩ := q
  obtain ⟨p, k, kp, h1, h2, h3, h4, h5, -, h7⟩ := Cond.superclass_spec h0 w
  obtain ⟨t', kt, g1, g2, g3, g4, -⟩ := Cond.instantiable_spec wi
  cases g0.symm.trans g1
  have ne := ids_ne h0 g0 hn
  simp only [Bool.or_eq_false_iff] at g4
  refine ⟨c, t, h0, g0, ?_⟩
  show Z.vm.assignableAux (255 + 1) c t = false
  simp [Vm.assignableAux, ne, h2, g2, h5, g3, g4.1, Vm.isSubclass, n3]
end Start
end Jvm.Wk
namespace Jvm.Wk
open Sem ClassFile Op Lib Jvm.Stand Jvm.Free Jvm.LawKit Jvm.RoadKit
/-! Strings of Latin-1 bytes, whether made here, held at the start or interned meanwhile -/
section Strs
variable {Z : State} {hB h h' : Heap} {H M : List Rec} {a b va : Addr} {xs ys : List Int32}
/-- what the records say, whatever else has been made -/
def Hq (Z : State) (hB h : Heap) (H : List Rec) : Prop := (∀ (a : Addr) (c : Cell), hB[a]? = some c → h[a]? = some c) ∧ ∀ (i : Nat) (r : Rec), H[i]? = some r → RecAt Z h (hB.size + i) r
theorem Hp.q (P : Hp Z hB h H) : Hq Z hB h H := P.2
theorem Hq.app (P : Hq Z hB h (H ++ M)) : Hq Z hB h H := ⟨P.1, fun i r q => P.2 i r (gaA q)⟩
def AB (Z : State) (hB : Heap) (H : List Rec) (va : Addr) (xs : List Int32) : Prop := xs.length < 2 ^ 31 ∧ ∀ h, Hq Z hB h H → ∃ k, Arv Z h va k .byte xs.length.toInt32 (xs.map Value.int) (.int 0)
def SF (Z : State) (h : Heap) (a va : Addr) : Prop := Exa Z h a "java/lang/String" ∧ Fld Z h a "java/lang/String" "coder" "B" (.int 0) ∧ Fld Z h a "java/lang/String" "value" "[B" (.ref va)
def SL (Z : State) (hB : Heap) (H : List Rec) (a : Addr) (xs : List Int32) : Prop := ∃ va, (∀ h, Hq Z hB h H → SF Z h a va) ∧ AB Z hB H va xs
theorem AB.app (A : AB Z hB H va xs) : AB Z hB (H ++ M) va xs := ⟨A.1, fun h P => A.2 h P.app⟩
theorem SL.app (A : SL Z hB H a xs) : SL Z hB (H ++ M) a xs := by
  obtain ⟨va, h1, h2⟩ := A
  exact ⟨va, fun h P => h1 h P.app, h2.app⟩
theorem recArv {t : FieldType} {vs : List Value} (R : RecAt Z h a (arr t vs)) (hl : vs.length < 2 ^ 31) (d : Value) : ∃ k, Arv Z h a k t vs.length.toInt32 vs d := by
  obtain ⟨c, h1, h2, h3, h5, h6, h7⟩ := R
  have hs : c.slots.size = vs.length := by rw [h2, List.size_toArray]
  refine ⟨c.cls, c, h1, rfl, by rw [hs, (toNat_len hl).1], (toNat_len hl).2, fun k hk => ?_, fun k hk => ?_⟩
  · rw [hs] at hk
    rw [h2, List.getElem?_toArray, List.getElem?_eq_getElem hk, List.getD_eq_getElem?_getD, List.getElem?_eq_getElem hk]; rfl
  · rw [hs] at hk
    rw [List.getD_eq_getElem?_getD, List.getElem?_eq_getElem hk]; exact h7 _ (List.getElem_mem hk)
theorem AB.made {j : Nat} (hj : H[j]? = some (arr .byte (xs.map Value.int))) (hl : xs.length < 2 ^ 31) : AB Z hB H (hB.size + j) xs := ⟨hl, fun h P => by
  have q := recArv (P.2 j _ hj) (by rw [List.length_map]; exact hl) (.int 0)
  rw [List.length_map] at q; exact q⟩
theorem SL.made {i j jc jv : Nat} {ks : List Key} {vs : List Value} (hi : H[i]? = some (obj "java/lang/String" ks vs)) (c1 : ks[jc]? = some ("java/lang/String", "coder", "B")) (c2 : vs[jc]? = some (.int 0)) (v1 : ks[jv]? = some ("java/lang/String", "value", "[B")) (v2 : vs[jv]? = some (rf hB j)) (hj : H[j]? = some (arr .byte (xs.map Value.int))) (hl : xs.length < 2 ^ 31) : SL Z hB H (hB.size + i) xs :=
  ⟨hB.size + j, fun h P => have R := P.2 i _ hi; ⟨R.1, R.2.2.1 jc _ _ c1 c2, R.2.2.1 jv _ _ v1 v2⟩, AB.made hj hl⟩
/-- a String of the start -/
theorem SL.old (h1 : Exa Z hB a "java/lang/String") (h2 : Fld Z hB a "java/lang/String" "coder" "B" (.int 0)) (h3 : Fld Z hB a "java/lang/String" "value" "[B" (.ref va)) {k : ClassId} (hl : xs.length < 2 ^ 31) (h4 : Arv Z hB va k .byte xs.length.toInt32 (xs.map Value.int) (.int 0)) : SL Z hB H a xs := by
  have E : ∀ h, Hq Z hB h H → Ext hB h := fun h P => ⟨Nat.le_of_not_lt fun q => by
    have z := P.1 h.size _ (Array.getElem?_eq_getElem q)
    exact absurd (Array.getElem?_eq_some_iff.mp z).1 (Nat.lt_irrefl _), P.1⟩
  exact ⟨va, fun h P => ⟨h1.ext (E h P), h2.ext (E h P), h3.ext (E h P)⟩, hl, fun h P => ⟨k, h4.ext (E h P)⟩⟩
theorem clampBack {z : Int32} (hz : ¬ z < 0) : z.toNatClampNeg.toInt32 = z := by
  have h1 : ¬ z.toInt < 0 := by intro q; apply hz; rw [Int32.lt_iff_toInt_lt]; exact q
  have h2 := z.toInt_lt
  apply Int32.toInt_inj.mp
  rw [len_toInt (by simp only [Int32.toNatClampNeg]; omega)]
  simp only [Int32.toNatClampNeg]; omega
theorem inc1 (k : Nat) : k.toInt32 + Int32.ofInt 1 = (k + 1).toInt32 := by
  show Int32.ofNat k + Int32.ofInt 1 = Int32.ofNat (k + 1)
  rw [Int32.ofNat_add]; rfl
theorem lt32 {k n : Nat} (hn : n < 2 ^ 31) (h : k < n) : k.toInt32 < n.toInt32 := by
  rw [Int32.lt_iff_toInt_lt, len_toInt hn, len_toInt (by omega)]; omega
theorem nlt32 (k : Nat) : ¬ k.toInt32 < k.toInt32 := Int32.lt_irrefl
theorem nneg32 {k : Nat} (hk : k < 2 ^ 31) : ¬ k.toInt32 < 0 := (toNat_len hk).2
theorem clamp32 {k : Nat} (hk : k < 2 ^ 31) : k.toInt32.toNatClampNeg = k := (toNat_len hk).1
theorem eq32 {k n : Nat} (hk : k < 2 ^ 31) (hn : n < 2 ^ 31) (h : k.toInt32 = n.toInt32) : k = n := by
  have := congrArg Int32.toInt h
  rw [len_toInt hk, len_toInt hn] at this; omega
theorem takeS {k : Nat} {c d : Int32} (h1 : xs[k]? = some c) (h2 : ys[k]? = some d) (e : c = d) (ht : xs.take k = ys.take k) : xs.take (k + 1) = ys.take (k + 1) := by rw [List.take_add_one, List.take_add_one, h1, h2, e, ht]
theorem SL.uniq (P : Hq Z hB h H) (A : SL Z hB H a xs) (B : SL Z hB H a ys) : xs = ys := by
  obtain ⟨va, SA, a1, a2⟩ := A
  obtain ⟨vb, SB, b1, b2⟩ := B
  obtain ⟨-, -, c1, cf1, k1, i1, f1, q1, q2, q3, q4, q5, q6, q7⟩ := SA h P
  obtain ⟨-, -, c2, cf2, k2, i2, f2, r1, r2, r3, r4, r5, r6, r7⟩ := SB h P
  cases q1.symm.trans r1
  cases q2.symm.trans r2
  cases q7.symm.trans r7
  obtain ⟨k, c, ⟨A1, -⟩, -, A3, -, A5, -⟩ := a2 h P
  obtain ⟨k', c', ⟨B1, -⟩, -, B3, -, B5, -⟩ := b2 h P
  cases A1.symm.trans B1
  rw [clamp32 a1] at A3
  rw [clamp32 b1] at B3
  have hl : xs.length = ys.length := A3.symm.trans B3
  apply List.ext_getElem?
  intro i
  by_cases hi : i < xs.length
  · have z := (A5 i (by omega)).symm.trans (B5 i (by omega))
    rw [List.getD_eq_getElem?_getD, List.getD_eq_getElem?_getD, List.getElem?_map, List.getElem?_map, List.getElem?_eq_getElem hi, List.getElem?_eq_getElem (show i < ys.length by omega)] at z
    rw [List.getElem?_eq_getElem hi, List.getElem?_eq_getElem (show i < ys.length by omega)]
    simpa using z
  · rw [List.getElem?_eq_none (by omega), List.getElem?_eq_none (by omega)]
/-- the bytes of chars, k of them written -/
def preB (cs : List Int32) (k : Nat) : List Value := ((cs.take k).map fun c => Value.int c.toInt8.toInt32) ++ List.replicate (cs.length - k) (.int 0)
theorem preB_zero (cs : List Int32) : preB cs 0 = List.replicate cs.length (.int 0) := by simp [preB]
theorem preB_all (cs : List Int32) : preB cs cs.length = (cs.map fun c => c.toInt8.toInt32).map Value.int := by simp [preB, List.map_map, Function.comp_def]
theorem preB_len (cs : List Int32) {k : Nat} (hk : k ≤ cs.length) : (preB cs k).length = cs.length := by simp [preB]; omega
theorem nar_low (c : Int32) : nar .byte c.toInt8.toInt32 = c.toInt8.toInt32 := by
  show c.toInt8.toInt32.toInt8.toInt32 = c.toInt8.toInt32
  rw [Int8.toInt8_toInt32]
theorem preB_step {cs : List Int32} {k : Nat} {c : Int32} (hc : cs[k]? = some c) : (preB cs k).set k (.int (nar .byte c.toInt8.toInt32)) = preB cs (k + 1) := by
  obtain ⟨hk, rfl⟩ := List.getElem?_eq_some_iff.mp hc
  rw [nar_low]
  unfold preB
  have h1 : ((cs.take k).map fun c => Value.int c.toInt8.toInt32).length = k := by simp; omega
  rw [List.set_append_right _ _ (by omega), h1, Nat.sub_self, show cs.length - k = (cs.length - (k + 1)) + 1 by omega, List.replicate_succ, List.set_cons_zero, List.take_add_one, List.getElem?_eq_getElem hk, List.map_append, List.append_assoc]
  rfl
end Strs
section StrW
variable {l : LE} {Z : State} {hB : Heap} {y : MethodName} {bytes : ByteArray} {ml : Nat} {ret : Option FieldType} {R : Room} {n1 : Nat} {Q : Option Value → List Rec → Prop} {sl : Nat} {H H' : List Rec} {pc pc' : Nat} {Ls Ls' : Array Slot} {st : List Value} {a0 : Array Value} {a : Addr}
theorem WP.getH (k : ∀ h, Hp Z hB h H → WP l Z hB y bytes ml ret R n1 Q sl H pc Ls st) : WP l Z hB y bytes ml ret R n1 Q sl H pc Ls st := fun p e s m args below meth c C T locs cells slots X N P hs I => k _ P p e s m args below meth c C T locs cells slots X N P hs I
theorem arrLenQ {t : FieldType} {z : Int32} {vs : List Value} {d : Value} (hd : decode bytes pc = .ok (.arraylength, 1)) (A : ∀ h, Hp Z hB h H → ∃ k, Arv Z h a k t z vs d) (hp : pc + 1 = pc') (hr : WP l Z hB y bytes ml ret R n1 Q sl H pc' Ls (.int z :: st)) : WP l Z hB y bytes ml ret R n1 Q sl H pc Ls (.ref a :: st) := by
  subst hp
  refine WP.step (fun p e s m args below meth c T locs cells slots C X P tgt h => ?_) hr
  obtain ⟨k, cl, h1, -, h3, h4, -⟩ := A _ P
  exact X.arraylength C.1 h1.1 (State.isArrayOf_alike C.2.1.alike h1.2.1) (g := mkF m pc Ls (.ref a :: st)) rfl rfl (hb C.2.2.1 hd) _ (by rw [h3, clampBack h4]; exact h)
theorem baloadQ {z j : Int32} {vs : List Value} {d v : Value} (hd : decode bytes pc = .ok (.baload, 1)) (A : ∀ h, Hp Z hB h H → ∃ k, Arv Z h a k .byte z vs d) (h0 : ¬ j < 0) (hj : j < z) (hv : vs.getD j.toNatClampNeg d = v) (hp : pc + 1 = pc') (hr : WP l Z hB y bytes ml ret R n1 Q sl H pc' Ls (v :: st)) : WP l Z hB y bytes ml ret R n1 Q sl H pc Ls (.int j :: .ref a :: st) := by
  subst hp
  refine WP.step (fun p e s m args below meth c T locs cells slots C X P tgt h => ?_) hr
  obtain ⟨k, cl, h1, -, h3, h4, h5, -⟩ := A _ P
  have hlt : j.toNatClampNeg < cl.slots.size := by
    rw [h3]; simp only [Int32.toNatClampNeg]
    rw [Int32.lt_iff_toInt_lt] at hj h0
    have : (0 : Int32).toInt = 0 := rfl
    omega
  exact X.baloadBytes C.1 h1.1 (State.isArrayOf_alike C.2.1.alike h1.2.1) h1.2.2 (fun q => q.elim h0 (fun z => by omega)) ((h5 _ hlt).trans (by rw [hv])) (g := mkF m pc Ls (.int j :: .ref a :: st)) rfl rfl (hb C.2.2.1 hd) _ h
/-- a cell kept as it is, read as an array -/
theorem arrLenC {i : Nat} {t : FieldType} {cl : Cell} {z : Int32} (hd : decode bytes pc = .ok (.arraylength, 1)) (hi : H[i]? = some (Sum.inr cl)) (ha : Z.isArrayOf cl t) (hz : cl.slots.size.toInt32 = z) (hp : pc + 1 = pc') (hr : WP l Z hB y bytes ml ret R n1 Q sl H pc' Ls (.int z :: st)) : WP l Z hB y bytes ml ret R n1 Q sl H pc Ls (rf hB i :: st) := by
  subst hp
  refine WP.step (fun p e s m args below meth c T locs cells slots C X P tgt h => ?_) hr
  exact X.arraylength C.1 (P.at hi) (State.isArrayOf_alike C.2.1.alike ha) (g := mkF m pc Ls (rf hB i :: st)) rfl rfl (hb C.2.2.1 hd) _ (by rw [hz]; exact h)
theorem aaloadC {i : Nat} {t : FieldType} {cl : Cell} {j : Int32} {v : Value} (hd : decode bytes pc = .ok (.aaload, 1)) (hi : H[i]? = some (Sum.inr cl)) (ha : Z.isArrayOf cl t) (hk : cl.vm ≠ .unknown) (ht : t.isReference = true) (h0 : ¬ (j < 0 ∨ cl.slots.size ≤ j.toNatClampNeg)) (hv : cl.slots[j.toNatClampNeg]? = some v) (hp : pc + 1 = pc') (hr : WP l Z hB y bytes ml ret R n1 Q sl H pc' Ls (v :: st)) : WP l Z hB y bytes ml ret R n1 Q sl H pc Ls (.int j :: rf hB i :: st) := by
  subst hp
  refine WP.step (fun p e s m args below meth c T locs cells slots C X P tgt h => ?_) hr
  exact X.aaload C.1 (P.at hi) (State.isArrayOf_alike C.2.1.alike ha) ht hk h0 hv (g := mkF m pc Ls (.int j :: rf hB i :: st)) rfl rfl (hb C.2.2.1 hd) _ h
/-- the clone of an array of the start -/
theorem cloneQ {ad : String} {index : Nat} {cl : Cell} {ty : FieldType} {va : Addr} {cap : Nat} (hd : decode bytes pc = .ok (.invokevirtual index, 3)) (w1 : (Jvm.Cond.methodLink y.cls index ⟨ad, "clone", "()Ljava/lang/Object;"⟩).before a0 Z = true) (w2 : (Jvm.Cond.sameMethod ad "java/lang/Object" "clone" "()Ljava/lang/Object;").before a0 Z = true) (w3 : (Jvm.Cond.native ⟨"java/lang/Object", "clone", "()Ljava/lang/Object;"⟩).before a0 Z = true) (w4 : (Jvm.Cond.instanceMethod ⟨"java/lang/Object", "clone", "()Ljava/lang/Object;"⟩).before a0 Z = true) (w5 : (Jvm.Cond.selects ad ⟨ad, "clone", "()Ljava/lang/Object;"⟩ ⟨"java/lang/Object", "clone", "()Ljava/lang/Object;"⟩).before a0 Z = true) (w6 : (Jvm.Cond.castable ad "java/lang/Cloneable").before a0 Z = true)
    (A : Arr Z hB va cl ty) (E : Exa Z hB va ad) (F : FitC Z cl) (hml : Ls.size = ml) (hf : 1 ≤ R.frames) (hlo : (st.map fun v => v.category).sum + 14 ≤ R.locals) (hcap : cl.slots.size ≤ cap) (hc : H.length + 1 ≤ n1 + R.cells) (hsl : sl + cap ≤ R.slots) (hp : pc + 3 = pc')
    (hr : (∀ h, Hq Z hB h (H ++ [Sum.inr (cloneOf cl)]) → Exa Z h (hB.size + H.length) ad) → WP l Z hB y bytes ml ret R n1 Q (sl + cap) (H ++ [Sum.inr (cloneOf cl)]) pc' Ls (rf hB H.length :: st)) : WP l Z hB y bytes ml ret R n1 Q sl H pc Ls (.ref va :: st) := by
  subst hp
  have EX : ∀ h, Hq Z hB h (H ++ [Sum.inr (cloneOf cl)]) → Exa Z h (hB.size + H.length) ad := fun h P => by
    have q : h[hB.size + H.length]? = some (cloneOf cl) := P.2 H.length _ (gaR rfl)
    obtain ⟨c2, k, e1, e2, e3, e4, e5⟩ := E
    cases A.1.symm.trans e1
    exact ⟨_, k, q, e2, e3, rfl, e5⟩
  refine WP.stepH (by simp) (fun p e s m args below meth c T locs cells slots C X hz N P hs I => ?_) (hr EX)
  have hsz := C.2.2.2.2.2.2.2.2
  have hp1 := P.1
  obtain ⟨T', h', X', e', E', A', -, k⟩ := cloneA X C.1 C.2.1 C.2.2.2.2.1 w1 w2 w3 w4 w5 w6 rfl (A.ext P.toExt) (E.ext P.toExt) F (g := mkF m pc Ls (.ref va :: st)) rfl (hml.trans C.2.2.2.1.symm) rfl (hb C.2.2.1 hd) hf (W := (st.map fun v => v.category).sum) (by show 2 * 0 + _ ≤ _; omega) hlo hcap (by omega) (by omega)
  subst e'
  have hle := X'.heapSize
  exact ⟨T', _, _, _, X', N, P.push E' (by omega) A'.1, I.push E', by omega, by rw [show rf hB H.length = .ref T.heap.size from by show Value.ref _ = _; rw [hp1]]; exact k⟩
/-- a String constant -/
theorem ldcStr {text : String} {index n : Nat} {xs : List Int32} (hd : decode bytes pc = .ok (.ldc index, 2)) (w : (Jvm.Cond.stringLink y.cls index text).before a0 Z = true) (wS : ∀ d ∈ Bundle.stringAtoms, d.before a0 Z = true) (hmem : (y.cls, index) ∈ l.2) (ht : (∀ c ∈ text.toList, c.toNat < 256) ∧ text.toList.map (fun c => Value.int (Jvm.Lit.byteI c.toNat.toUInt16)) = xs.map Value.int) (hx : xs.length < 2 ^ 31) (hn : 4 * text.toList.length ≤ n) (hbig : n ≤ 536870912) (hc : H.length + 2 ≤ n1 + R.cells) (hsl : sl + (n + 4) ≤ R.slots) (hp : pc + 2 = pc')
    (hr : ∀ (a : Addr) (M : List Rec), M.length ≤ 2 → SL Z hB (H ++ M) a xs → WP l Z hB y bytes ml ret R n1 Q (sl + (n + 4)) (H ++ M) pc' Ls (.ref a :: st)) : WP l Z hB y bytes ml ret R n1 Q sl H pc Ls st := by
  subst hp
  intro p e s m args below meth c C T locs cells slots X N P hs I
  have hz : T.heap.size = s.heap.size + (T.heap.size - s.heap.size) := by have := X.same.2.1; have : s.heap.size ≤ T.heap.size := this; omega
  have hsz := C.2.2.2.2.2.2.2.2
  have hp1 := P.1
  obtain ⟨a1, hE⟩ := I.2.2
  obtain ⟨a, T', h', k1, b, k, X', e', E, hS, hk1, -, -, F1, F2, F3, F4, -, -, hC, -, hne, stp⟩ := ldcCH (s := s) (vm0 := s.vm) (exact' X (Nat.le_of_eq hz)) C.1 C.2.1 C.2.2.2.2.1 w wS rfl (k0 := T.heap.size) ((State.WarmedH.refl s).since _) (Nat.le_refl _) hE hmem I.1 ht (z := xs.length.toInt32) (toNat_len hx).2 (by rw [(toNat_len hx).1, List.length_map]) (g := mkF m pc Ls st) rfl (hb C.2.2.1 hd) hn hbig (by omega) (by omega)
  subst e'
  have hle : Array.size T'.heap ≤ Array.size s.heap + (Array.size T.heap - Array.size s.heap + 2) := X'.heapSize
  have hge : Array.size T.heap ≤ Array.size T'.heap := E.1
  generalize hM : ((T'.heap.toList.drop (Array.size T.heap)).map Sum.inr : List Rec) = M
  have hMl : M.length = Array.size T'.heap - Array.size T.heap := by rw [← hM]; simp
  have hMg : ∀ (y : Nat) (cell : Cell), Array.size T.heap ≤ y → T'.heap[y]? = some cell → (H ++ M)[y - hB.size]? = some (Sum.inr cell) := fun y cell hy hc => by
    have hp2 : Array.size T.heap = Array.size hB + H.length := hp1
    have h1 : H.length ≤ y - Array.size hB := by omega
    have h2 : Array.size T.heap + (y - Array.size hB - H.length) = y := by omega
    show (H ++ M)[y - Array.size hB]? = _
    rw [List.getElem?_append_right h1, ← hM, List.getElem?_map, List.getElem?_drop, h2, Array.getElem?_toList, hc]; rfl
  have P' : Hp Z hB T'.heap (H ++ M) := by
    refine ⟨by show Array.size T'.heap = _; rw [List.length_append, hMl]; omega, fun a c q => E.2 _ _ (P.2.1 a c q), fun i r q => ?_⟩
    by_cases hi : i < H.length
    · rw [List.getElem?_append_left hi] at q
      exact (P.2.2 i r q).ext E
    · have hlt : i < (H ++ M).length := (List.getElem?_eq_some_iff.mp q).1
      rw [List.length_append] at hlt
      have hy : hB.size + i < Array.size T'.heap := by omega
      have z := hMg (hB.size + i) _ (by omega) (Array.getElem?_eq_getElem hy)
      rw [show hB.size + i - hB.size = i by omega] at z
      cases q.symm.trans z
      exact Array.getElem?_eq_getElem hy
  have I' : LI Z l.2 hB (H ++ M) T'.vm T'.heap := by
    refine ⟨hC.1, fun y B => ?_, I.2.2⟩
    rcases hC.2.2 y B with q | q
    · rcases I.2.1 y q with z | ⟨j, cc, e1, f⟩
      · exact Or.inl z
      · exact Or.inr ⟨j, cc, e1, gaA f⟩
    · obtain ⟨cell, z⟩ := B.there
      have q' : Array.size T.heap ≤ y := q
      have hp2 : Array.size T.heap = Array.size hB + H.length := hp1
      exact Or.inr ⟨y - hB.size, cell, (Nat.add_sub_cancel' (show Array.size hB ≤ y by omega)).symm, hMg y cell q' z⟩
  have key : ∀ y, Bk Z l.2 T'.vm T'.heap y → ∀ h, Hq Z hB h (H ++ M) → h[y]? = T'.heap[y]? := fun y B h Qh => by
    rcases I'.2.1 y B with z | ⟨j, cc, e1, f⟩
    · have q : hB[y]? = some hB[y] := Array.getElem?_eq_getElem z
      rw [Qh.1 y _ q, P'.2.1 y _ q]
    · have q1 : h[hB.size + j]? = some cc := Qh.2 j _ f
      have q2 : T'.heap[hB.size + j]? = some cc := P'.2.2 j _ f
      rw [e1, q1, q2]
  have Ba : Bk Z l.2 T'.vm T'.heap a := Classical.byContradiction fun nb => (hne a nb).1 rfl
  have Bb : Bk Z l.2 T'.vm T'.heap b := Classical.byContradiction fun nb => (hne b nb).2 rfl
  have S' : SL Z hB (H ++ M) a xs := by
    refine ⟨b, fun h Qh => ?_, hx, fun h Qh => ⟨k, ?_⟩⟩
    · have ea := key a Ba h Qh
      refine ⟨?_, ?_, ?_⟩
      · obtain ⟨c1, k1, f1, f2⟩ := F1; exact ⟨c1, k1, ea.trans f1, f2⟩
      · obtain ⟨c1, cf, kk, i, f, q, r⟩ := F2; exact ⟨c1, cf, kk, i, f, ea.trans q, r⟩
      · obtain ⟨c1, cf, kk, i, f, q, r⟩ := F3; exact ⟨c1, cf, kk, i, f, ea.trans q, r⟩
    · obtain ⟨cc, ⟨q1, q2⟩, r⟩ := F4; exact ⟨cc, ⟨(key b Bb h Qh).trans q1, q2⟩, r⟩
  have hS' : s.Since T'.vm (Array.size T'.heap) := ⟨hS.1, hS.2.mono hk1⟩
  obtain ⟨U, o, h1, h2⟩ := hr a M (by omega) S' p e (s.setVm T'.vm) m args below meth c (C.re hS') T' _ _ _ X' N P' (by omega) I'
  exact ⟨U, o, stp U h1, h2.re hS' hge⟩
theorem LI.start {s : State} {EL : List (String × Nat)} {a0 : Array Value} (E : EW s a0 EL) (hh : ∀ p ∈ EL, Jvm.Lit.constHeld s p.1 p.2) (hcw : Jvm.Lit.compactW.before a0 s = true) (wa : (Jvm.Cond.arrayClass .byte).before a0 s = true) (wi : (Jvm.Cond.instantiable "java/lang/String" 4).before a0 s = true) : LI s EL s.heap [] s.vm s.heap :=
  ⟨CHv.start E hh hcw wa wi, fun y B => by obtain ⟨cell, q⟩ := B.there; exact Or.inl (Array.getElem?_eq_some_iff.mp q).1, a0, E⟩
end StrW
section StrS
variable {args : Array Value} {Z : State}
theorem notEqI {t : Term} (h1 : (Jvm.Cond.isInt t).value args Z none Z [] = some true) (h2 : (Jvm.Cond.not (.eq t (.int 0))).value args Z none Z [] = some true) : ∃ k, t.eval args Z none [] Z = some (.int k) ∧ ¬ k = 0 := by
  obtain ⟨k, hk⟩ := is_v h1
  refine ⟨k, hk, fun e => ?_⟩
  subst e
  simp [Cond.value, hk, Term.eval] at h2
theorem arrOf {t : Term} {ty : FieldType} (h : (Jvm.Cond.arrayOf t ty).value args Z none Z [] = some true) : ∃ a cl, t.eval args Z none [] Z = some (.ref a) ∧ Z.arrayAt? a = some cl ∧ Arr Z Z.heap a cl ty := by
  obtain ⟨a, ev⟩ := arr_v h
  obtain ⟨cl, A⟩ := Arr.start ev h
  exact ⟨a, cl, ev, A.fin (Vm.Alike.refl _), A⟩
theorem sizeOf {t : Term} {a : Addr} {cl : Cell} {k : Int32} (ht : t.eval args Z none [] Z = some (.ref a)) (ha : Z.arrayAt? a = some cl) (h : (Jvm.Cond.eq (.length t) (.int k)).value args Z none Z [] = some true) {n : Nat} (hk : k = n.toInt32) (hn : n < 2 ^ 31) : cl.slots.size = n := by
  obtain ⟨hl, e⟩ := lenOfT ht ha h
  exact eq32 hl hn (e.trans hk)
theorem elemR {t : Term} {a r : Addr} {cl : Cell} {j : Int32} (ht : t.eval args Z none [] Z = some (.ref a)) (ha : Z.arrayAt? a = some cl) (hj : ¬ j < 0) (h : (Term.elem t (.int j)).eval args Z none [] Z = some (.ref r)) : cl.slots[j.toNatClampNeg]? = some (.ref r) :=
  (elem_f (a := .int j) ht (show (Term.int j).eval args Z none [] Z = some (.int j) from rfl) ha hj).symm.trans h
theorem arvOld {a : Addr} {cl : Cell} {xs : List Int32} (A : Arr Z Z.heap a cl .byte) (sz : cl.slots.size = xs.length) (hf : Fit Z) (hl : xs.length < 2 ^ 31) (he : ∀ i, i < xs.length → cl.slots[i]? = some (.int (xs.getD i 0))) : Arv Z Z.heap a cl.cls .byte xs.length.toInt32 (xs.map Value.int) (.int 0) := by
  have hg : ∀ i, i < xs.length → (xs.map Value.int).getD i (.int 0) = .int (xs.getD i 0) := fun i hi => by
    rw [List.getD_eq_getElem?_getD, List.getD_eq_getElem?_getD, List.getElem?_map, List.getElem?_eq_getElem hi]; rfl
  refine ⟨cl, A, rfl, by rw [clamp32 hl, sz], nneg32 hl, fun k hk => ?_, fun k hk => ?_⟩
  · rw [sz] at hk; rw [hg k hk]; exact he k hk
  · rw [sz] at hk; rw [hg k hk]
    have := elem_fits hf A (j := k.toInt32) (v := .int (xs.getD k 0)) (fun q => q.elim (nneg32 (by omega)) (fun z => by rw [clamp32 (by omega), sz] at z; omega)) (by rw [clamp32 (by omega)]; exact he k hk)
    exact this
end StrS
end Jvm.Wk
namespace Jvm.Pilot.@@N@@
open Jvm Jvm.ClassFile Sem Op Lib Jvm.Free Jvm.Stand Jvm.LawKit Jvm.RoadKit Bundle Jvm.Pilot.@@N@@.Jvm.D
open Jvm.Wk (obj arr ints longs rf Rec Key kslot RecAt Hp WP Ctr gsE gsN gaL gaR distK)
theorem pn_0 : plainFor ({ cls := "java/lang/StringLatin1", name := "equals", desc := "([B[B)Z" } : Jvm.MethodName) = true := by first | decide +kernel | exact plainFor_of_name (by first | (simp [plainName, overriddenIn]; done) | decide +kernel)
theorem pn_1 : plainFor ({ cls := "java/lang/String", name := "equals", desc := "(Ljava/lang/Object;)Z" } : Jvm.MethodName) = true := by first | decide +kernel | exact plainFor_of_name (by first | (simp [plainName, overriddenIn]; done) | decide +kernel)
theorem pn_2 : plainFor ({ cls := "java/lang/StringUTF16", name := "compress", desc := "([CI[BII)I" } : Jvm.MethodName) = true := by first | decide +kernel | exact plainFor_of_name (by first | (simp [plainName, overriddenIn]; done) | decide +kernel)
theorem pn_3 : plainFor ({ cls := "java/lang/StringUTF16", name := "compress", desc := "([CII)[B" } : Jvm.MethodName) = true := by first | decide +kernel | exact plainFor_of_name (by first | (simp [plainName, overriddenIn]; done) | decide +kernel)
theorem pn_4 : plainFor ({ cls := "java/lang/StringUTF16", name := "coderFromArrayLen", desc := "([BI)B" } : Jvm.MethodName) = true := by first | decide +kernel | exact plainFor_of_name (by first | (simp [plainName, overriddenIn]; done) | decide +kernel)
theorem pn_5 : plainFor ({ cls := "java/lang/String", name := "<init>", desc := "([CIILjava/lang/Void;)V" } : Jvm.MethodName) = true := by first | decide +kernel | exact plainFor_of_name (by first | (simp [plainName, overriddenIn]; done) | decide +kernel)
theorem pn_6 : plainFor ({ cls := "java/lang/String", name := "<init>", desc := "([C)V" } : Jvm.MethodName) = true := by first | decide +kernel | exact plainFor_of_name (by first | (simp [plainName, overriddenIn]; done) | decide +kernel)
theorem pn_7 : plainFor ({ cls := "java/lang/StringLatin1", name := "canEncode", desc := "(C)Z" } : Jvm.MethodName) = true := by first | decide +kernel | exact plainFor_of_name (by first | (simp [plainName, overriddenIn]; done) | decide +kernel)
theorem pn_8 : plainFor ({ cls := "java/lang/StringLatin1", name := "toBytes", desc := "(C)[B" } : Jvm.MethodName) = true := by first | decide +kernel | exact plainFor_of_name (by first | (simp [plainName, overriddenIn]; done) | decide +kernel)
theorem pn_9 : plainFor ({ cls := "java/lang/String", name := "<init>", desc := "([BB)V" } : Jvm.MethodName) = true := by first | decide +kernel | exact plainFor_of_name (by first | (simp [plainName, overriddenIn]; done) | decide +kernel)
theorem pn_10 : plainFor ({ cls := "java/lang/String", name := "valueOf", desc := "(C)Ljava/lang/String;" } : Jvm.MethodName) = true := by first | decide +kernel | exact plainFor_of_name (by first | (simp [plainName, overriddenIn]; done) | decide +kernel)
theorem pn_11 : plainFor ({ cls := "com/example/reckon/reckon/core/RequestData$Root", name := "values", desc := "()[Lcom/example/reckon/reckon/core/RequestData$Root;" } : Jvm.MethodName) = true := by first | decide +kernel | exact plainFor_of_name (by first | (simp [plainName, overriddenIn]; done) | decide +kernel)
theorem pn_12 : plainFor ({ cls := "com/example/reckon/reckon/core/RequestData$Root", name := "named", desc := "(Ljava/lang/String;)Lcom/example/reckon/reckon/core/RequestData$Root;" } : Jvm.MethodName) = true := by first | decide +kernel | exact plainFor_of_name (by first | (simp [plainName, overriddenIn]; done) | decide +kernel)
theorem pn_13 : plainFor ({ cls := "com/example/reckon/reckon/core/RootNamedPinLaw", name := "ref", desc := "(Ljava/lang/String;)Lcom/example/reckon/reckon/core/RequestData$Root;" } : Jvm.MethodName) = true := by first | decide +kernel | exact plainFor_of_name (by first | (simp [plainName, overriddenIn]; done) | decide +kernel)
theorem pn_14 : plainFor ({ cls := "com/example/reckon/reckon/core/RootNamedPinLaw", name := "name", desc := "(I)Ljava/lang/String;" } : Jvm.MethodName) = true := by first | decide +kernel | exact plainFor_of_name (by first | (simp [plainName, overriddenIn]; done) | decide +kernel)
theorem pn_15 : plainFor ({ cls := "com/example/reckon/reckon/core/RootNamedPinLaw", name := "truncated", desc := "(I)Ljava/lang/String;" } : Jvm.MethodName) = true := by first | decide +kernel | exact plainFor_of_name (by first | (simp [plainName, overriddenIn]; done) | decide +kernel)
theorem pn_16 : plainFor ({ cls := "com/example/reckon/reckon/core/RootNamedPinLaw", name := "mutated", desc := "(IIC)Ljava/lang/String;" } : Jvm.MethodName) = true := by first | decide +kernel | exact plainFor_of_name (by first | (simp [plainName, overriddenIn]; done) | decide +kernel)
theorem pn_17 : plainFor ({ cls := "com/example/reckon/reckon/core/RootNamedPinLaw", name := "extended", desc := "(IC)Ljava/lang/String;" } : Jvm.MethodName) = true := by first | decide +kernel | exact plainFor_of_name (by first | (simp [plainName, overriddenIn]; done) | decide +kernel)
theorem pn_18 : plainFor ({ cls := "com/example/reckon/reckon/core/RootNamedPinLaw", name := "law", desc := "(IIII)Z" } : Jvm.MethodName) = true := by first | decide +kernel | exact plainFor_of_name (by first | (simp [plainName, overriddenIn]; done) | decide +kernel)
theorem pd_0 : parseMethodDescriptor "([B[B)Z" = some ⟨[(.array .byte), (.array .byte)], some .boolean⟩ := by decide +kernel
theorem pd_1 : parseMethodDescriptor "([CI[BII)I" = some ⟨[(.array .char), .int, (.array .byte), .int, .int], some .int⟩ := by decide +kernel
theorem pd_2 : parseMethodDescriptor "([CII)[B" = some ⟨[(.array .char), .int, .int], some (.array .byte)⟩ := by decide +kernel
theorem pd_3 : parseMethodDescriptor "([BI)B" = some ⟨[(.array .byte), .int], some .byte⟩ := by decide +kernel
theorem pd_4 : parseMethodDescriptor "([CIILjava/lang/Void;)V" = some ⟨[(.array .char), .int, .int, (.object "java/lang/Void")], none⟩ := by decide +kernel
theorem pd_5 : parseMethodDescriptor "(C)Z" = some ⟨[.char], some .boolean⟩ := by decide +kernel
theorem pd_6 : parseMethodDescriptor "(C)[B" = some ⟨[.char], some (.array .byte)⟩ := by decide +kernel
theorem pd_7 : parseMethodDescriptor "([BB)V" = some ⟨[(.array .byte), .byte], none⟩ := by decide +kernel
theorem pd_8 : parseMethodDescriptor "()[Lcom/example/reckon/reckon/core/RequestData$Root;" = some ⟨[], some (.array (.object "com/example/reckon/reckon/core/RequestData$Root"))⟩ := by decide +kernel
theorem pd_9 : parseMethodDescriptor "(Ljava/lang/Object;)Z" = some ⟨[(.object "java/lang/Object")], some .boolean⟩ := by decide +kernel
theorem pd_10 : parseMethodDescriptor "([C)V" = some ⟨[(.array .char)], none⟩ := by decide +kernel
theorem pd_11 : parseMethodDescriptor "(Ljava/lang/String;)Lcom/example/reckon/reckon/core/RequestData$Root;" = some ⟨[(.object "java/lang/String")], some (.object "com/example/reckon/reckon/core/RequestData$Root")⟩ := by decide +kernel
theorem pd_12 : parseMethodDescriptor "(IIC)Ljava/lang/String;" = some ⟨[.int, .int, .char], some (.object "java/lang/String")⟩ := by decide +kernel
theorem pd_13 : parseMethodDescriptor "(IC)Ljava/lang/String;" = some ⟨[.int, .char], some (.object "java/lang/String")⟩ := by decide +kernel
theorem pd_14 : parseMethodDescriptor "(I)Ljava/lang/String;" = some ⟨[.int], some (.object "java/lang/String")⟩ := by decide +kernel
theorem pd_15 : parseMethodDescriptor "(C)Ljava/lang/String;" = some ⟨[.char], some (.object "java/lang/String")⟩ := by decide +kernel
theorem d0_0 : decode method_6_code 0 = .ok (.iload_n 0, 1) := by decide +kernel
theorem d0_1 : decode method_6_code 1 = .ok (.ifCond .ne 47, 3) := by decide +kernel
theorem d0_4 : decode method_6_code 4 = .ok (.bipush 7, 2) := by decide +kernel
theorem d0_6 : decode method_6_code 6 = .ok (.newarray .char, 2) := by decide +kernel
theorem d0_8 : decode method_6_code 8 = .ok (.dup, 1) := by decide +kernel
theorem d0_9 : decode method_6_code 9 = .ok (.iconst 0, 1) := by decide +kernel
theorem d0_10 : decode method_6_code 10 = .ok (.bipush 115, 2) := by decide +kernel
theorem d0_12 : decode method_6_code 12 = .ok (.castore, 1) := by decide +kernel
theorem d0_13 : decode method_6_code 13 = .ok (.dup, 1) := by decide +kernel
theorem d0_14 : decode method_6_code 14 = .ok (.iconst 1, 1) := by decide +kernel
theorem d0_15 : decode method_6_code 15 = .ok (.bipush 117, 2) := by decide +kernel
theorem d0_17 : decode method_6_code 17 = .ok (.castore, 1) := by decide +kernel
theorem d0_18 : decode method_6_code 18 = .ok (.dup, 1) := by decide +kernel
theorem d0_19 : decode method_6_code 19 = .ok (.iconst 2, 1) := by decide +kernel
theorem d0_20 : decode method_6_code 20 = .ok (.bipush 98, 2) := by decide +kernel
theorem d0_22 : decode method_6_code 22 = .ok (.castore, 1) := by decide +kernel
theorem d0_23 : decode method_6_code 23 = .ok (.dup, 1) := by decide +kernel
theorem d0_24 : decode method_6_code 24 = .ok (.iconst 3, 1) := by decide +kernel
theorem d0_25 : decode method_6_code 25 = .ok (.bipush 106, 2) := by decide +kernel
theorem d0_27 : decode method_6_code 27 = .ok (.castore, 1) := by decide +kernel
theorem d0_28 : decode method_6_code 28 = .ok (.dup, 1) := by decide +kernel
theorem d0_29 : decode method_6_code 29 = .ok (.iconst 4, 1) := by decide +kernel
theorem d0_30 : decode method_6_code 30 = .ok (.bipush 101, 2) := by decide +kernel
theorem d0_32 : decode method_6_code 32 = .ok (.castore, 1) := by decide +kernel
theorem d0_33 : decode method_6_code 33 = .ok (.dup, 1) := by decide +kernel
theorem d0_34 : decode method_6_code 34 = .ok (.iconst 5, 1) := by decide +kernel
theorem d0_35 : decode method_6_code 35 = .ok (.bipush 99, 2) := by decide +kernel
theorem d0_37 : decode method_6_code 37 = .ok (.castore, 1) := by decide +kernel
theorem d0_38 : decode method_6_code 38 = .ok (.dup, 1) := by decide +kernel
theorem d0_39 : decode method_6_code 39 = .ok (.bipush 6, 2) := by decide +kernel
theorem d0_41 : decode method_6_code 41 = .ok (.bipush 116, 2) := by decide +kernel
theorem d0_43 : decode method_6_code 43 = .ok (.castore, 1) := by decide +kernel
theorem d0_44 : decode method_6_code 44 = .ok (.astore_n 3, 1) := by decide +kernel
theorem d0_45 : decode method_6_code 45 = .ok (.goto 142, 3) := by decide +kernel
theorem d0_48 : decode method_6_code 48 = .ok (.iload_n 0, 1) := by decide +kernel
theorem d0_49 : decode method_6_code 49 = .ok (.iconst 1, 1) := by decide +kernel
theorem d0_50 : decode method_6_code 50 = .ok (.if_icmp .ne 41, 3) := by decide +kernel
theorem d0_53 : decode method_6_code 53 = .ok (.bipush 6, 2) := by decide +kernel
theorem d0_55 : decode method_6_code 55 = .ok (.newarray .char, 2) := by decide +kernel
theorem d0_57 : decode method_6_code 57 = .ok (.dup, 1) := by decide +kernel
theorem d0_58 : decode method_6_code 58 = .ok (.iconst 0, 1) := by decide +kernel
theorem d0_59 : decode method_6_code 59 = .ok (.bipush 97, 2) := by decide +kernel
theorem d0_61 : decode method_6_code 61 = .ok (.castore, 1) := by decide +kernel
theorem d0_62 : decode method_6_code 62 = .ok (.dup, 1) := by decide +kernel
theorem d0_63 : decode method_6_code 63 = .ok (.iconst 1, 1) := by decide +kernel
theorem d0_64 : decode method_6_code 64 = .ok (.bipush 99, 2) := by decide +kernel
theorem d0_66 : decode method_6_code 66 = .ok (.castore, 1) := by decide +kernel
theorem d0_67 : decode method_6_code 67 = .ok (.dup, 1) := by decide +kernel
theorem d0_68 : decode method_6_code 68 = .ok (.iconst 2, 1) := by decide +kernel
theorem d0_69 : decode method_6_code 69 = .ok (.bipush 116, 2) := by decide +kernel
theorem d0_71 : decode method_6_code 71 = .ok (.castore, 1) := by decide +kernel
theorem d0_72 : decode method_6_code 72 = .ok (.dup, 1) := by decide +kernel
theorem d0_73 : decode method_6_code 73 = .ok (.iconst 3, 1) := by decide +kernel
theorem d0_74 : decode method_6_code 74 = .ok (.bipush 105, 2) := by decide +kernel
theorem d0_76 : decode method_6_code 76 = .ok (.castore, 1) := by decide +kernel
theorem d0_77 : decode method_6_code 77 = .ok (.dup, 1) := by decide +kernel
theorem d0_78 : decode method_6_code 78 = .ok (.iconst 4, 1) := by decide +kernel
theorem d0_79 : decode method_6_code 79 = .ok (.bipush 111, 2) := by decide +kernel
theorem d0_81 : decode method_6_code 81 = .ok (.castore, 1) := by decide +kernel
theorem d0_82 : decode method_6_code 82 = .ok (.dup, 1) := by decide +kernel
theorem d0_83 : decode method_6_code 83 = .ok (.iconst 5, 1) := by decide +kernel
theorem d0_84 : decode method_6_code 84 = .ok (.bipush 110, 2) := by decide +kernel
theorem d0_86 : decode method_6_code 86 = .ok (.castore, 1) := by decide +kernel
theorem d0_87 : decode method_6_code 87 = .ok (.astore_n 3, 1) := by decide +kernel
theorem d0_88 : decode method_6_code 88 = .ok (.goto 99, 3) := by decide +kernel
theorem d0_91 : decode method_6_code 91 = .ok (.iload_n 0, 1) := by decide +kernel
theorem d0_92 : decode method_6_code 92 = .ok (.iconst 2, 1) := by decide +kernel
theorem d0_93 : decode method_6_code 93 = .ok (.if_icmp .ne 53, 3) := by decide +kernel
theorem d0_96 : decode method_6_code 96 = .ok (.bipush 8, 2) := by decide +kernel
theorem d0_98 : decode method_6_code 98 = .ok (.newarray .char, 2) := by decide +kernel
theorem d0_100 : decode method_6_code 100 = .ok (.dup, 1) := by decide +kernel
theorem d0_101 : decode method_6_code 101 = .ok (.iconst 0, 1) := by decide +kernel
theorem d0_102 : decode method_6_code 102 = .ok (.bipush 114, 2) := by decide +kernel
theorem d0_104 : decode method_6_code 104 = .ok (.castore, 1) := by decide +kernel
theorem d0_105 : decode method_6_code 105 = .ok (.dup, 1) := by decide +kernel
theorem d0_106 : decode method_6_code 106 = .ok (.iconst 1, 1) := by decide +kernel
theorem d0_107 : decode method_6_code 107 = .ok (.bipush 101, 2) := by decide +kernel
theorem d0_109 : decode method_6_code 109 = .ok (.castore, 1) := by decide +kernel
theorem d0_110 : decode method_6_code 110 = .ok (.dup, 1) := by decide +kernel
theorem d0_111 : decode method_6_code 111 = .ok (.iconst 2, 1) := by decide +kernel
theorem d0_112 : decode method_6_code 112 = .ok (.bipush 115, 2) := by decide +kernel
theorem d0_114 : decode method_6_code 114 = .ok (.castore, 1) := by decide +kernel
theorem d0_115 : decode method_6_code 115 = .ok (.dup, 1) := by decide +kernel
theorem d0_116 : decode method_6_code 116 = .ok (.iconst 3, 1) := by decide +kernel
theorem d0_117 : decode method_6_code 117 = .ok (.bipush 111, 2) := by decide +kernel
theorem d0_119 : decode method_6_code 119 = .ok (.castore, 1) := by decide +kernel
theorem d0_120 : decode method_6_code 120 = .ok (.dup, 1) := by decide +kernel
theorem d0_121 : decode method_6_code 121 = .ok (.iconst 4, 1) := by decide +kernel
theorem d0_122 : decode method_6_code 122 = .ok (.bipush 117, 2) := by decide +kernel
theorem d0_124 : decode method_6_code 124 = .ok (.castore, 1) := by decide +kernel
theorem d0_125 : decode method_6_code 125 = .ok (.dup, 1) := by decide +kernel
theorem d0_126 : decode method_6_code 126 = .ok (.iconst 5, 1) := by decide +kernel
theorem d0_127 : decode method_6_code 127 = .ok (.bipush 114, 2) := by decide +kernel
theorem d0_129 : decode method_6_code 129 = .ok (.castore, 1) := by decide +kernel
theorem d0_130 : decode method_6_code 130 = .ok (.dup, 1) := by decide +kernel
theorem d0_131 : decode method_6_code 131 = .ok (.bipush 6, 2) := by decide +kernel
theorem d0_133 : decode method_6_code 133 = .ok (.bipush 99, 2) := by decide +kernel
theorem d0_135 : decode method_6_code 135 = .ok (.castore, 1) := by decide +kernel
theorem d0_136 : decode method_6_code 136 = .ok (.dup, 1) := by decide +kernel
theorem d0_137 : decode method_6_code 137 = .ok (.bipush 7, 2) := by decide +kernel
theorem d0_139 : decode method_6_code 139 = .ok (.bipush 101, 2) := by decide +kernel
theorem d0_141 : decode method_6_code 141 = .ok (.castore, 1) := by decide +kernel
theorem d0_142 : decode method_6_code 142 = .ok (.astore_n 3, 1) := by decide +kernel
theorem d0_143 : decode method_6_code 143 = .ok (.goto 44, 3) := by decide +kernel
theorem d0_146 : decode method_6_code 146 = .ok (.bipush 7, 2) := by decide +kernel
theorem d0_148 : decode method_6_code 148 = .ok (.newarray .char, 2) := by decide +kernel
theorem d0_150 : decode method_6_code 150 = .ok (.dup, 1) := by decide +kernel
theorem d0_151 : decode method_6_code 151 = .ok (.iconst 0, 1) := by decide +kernel
theorem d0_152 : decode method_6_code 152 = .ok (.bipush 99, 2) := by decide +kernel
theorem d0_154 : decode method_6_code 154 = .ok (.castore, 1) := by decide +kernel
theorem d0_155 : decode method_6_code 155 = .ok (.dup, 1) := by decide +kernel
theorem d0_156 : decode method_6_code 156 = .ok (.iconst 1, 1) := by decide +kernel
theorem d0_157 : decode method_6_code 157 = .ok (.bipush 111, 2) := by decide +kernel
theorem d0_159 : decode method_6_code 159 = .ok (.castore, 1) := by decide +kernel
theorem d0_160 : decode method_6_code 160 = .ok (.dup, 1) := by decide +kernel
theorem d0_161 : decode method_6_code 161 = .ok (.iconst 2, 1) := by decide +kernel
theorem d0_162 : decode method_6_code 162 = .ok (.bipush 110, 2) := by decide +kernel
theorem d0_164 : decode method_6_code 164 = .ok (.castore, 1) := by decide +kernel
theorem d0_165 : decode method_6_code 165 = .ok (.dup, 1) := by decide +kernel
theorem d0_166 : decode method_6_code 166 = .ok (.iconst 3, 1) := by decide +kernel
theorem d0_167 : decode method_6_code 167 = .ok (.bipush 116, 2) := by decide +kernel
theorem d0_169 : decode method_6_code 169 = .ok (.castore, 1) := by decide +kernel
theorem d0_170 : decode method_6_code 170 = .ok (.dup, 1) := by decide +kernel
theorem d0_171 : decode method_6_code 171 = .ok (.iconst 4, 1) := by decide +kernel
theorem d0_172 : decode method_6_code 172 = .ok (.bipush 101, 2) := by decide +kernel
theorem d0_174 : decode method_6_code 174 = .ok (.castore, 1) := by decide +kernel
theorem d0_175 : decode method_6_code 175 = .ok (.dup, 1) := by decide +kernel
theorem d0_176 : decode method_6_code 176 = .ok (.iconst 5, 1) := by decide +kernel
theorem d0_177 : decode method_6_code 177 = .ok (.bipush 120, 2) := by decide +kernel
theorem d0_179 : decode method_6_code 179 = .ok (.castore, 1) := by decide +kernel
theorem d0_180 : decode method_6_code 180 = .ok (.dup, 1) := by decide +kernel
theorem d0_181 : decode method_6_code 181 = .ok (.bipush 6, 2) := by decide +kernel
theorem d0_183 : decode method_6_code 183 = .ok (.bipush 116, 2) := by decide +kernel
theorem d0_185 : decode method_6_code 185 = .ok (.castore, 1) := by decide +kernel
theorem d0_186 : decode method_6_code 186 = .ok (.astore_n 3, 1) := by decide +kernel
theorem d0_187 : decode method_6_code 187 = .ok (.aload_n 3, 1) := by decide +kernel
theorem d0_188 : decode method_6_code 188 = .ok (.iload_n 1, 1) := by decide +kernel
theorem d0_189 : decode method_6_code 189 = .ok (.ldc 77, 2) := by decide +kernel
theorem d0_191 : decode method_6_code 191 = .ok (.iand, 1) := by decide +kernel
theorem d0_192 : decode method_6_code 192 = .ok (.aload_n 3, 1) := by decide +kernel
theorem d0_193 : decode method_6_code 193 = .ok (.arraylength, 1) := by decide +kernel
theorem d0_194 : decode method_6_code 194 = .ok (.irem, 1) := by decide +kernel
theorem d0_195 : decode method_6_code 195 = .ok (.iload_n 2, 1) := by decide +kernel
theorem d0_196 : decode method_6_code 196 = .ok (.castore, 1) := by decide +kernel
theorem d0_197 : decode method_6_code 197 = .ok (.new 22, 3) := by decide +kernel
theorem d0_200 : decode method_6_code 200 = .ok (.dup, 1) := by decide +kernel
theorem d0_201 : decode method_6_code 201 = .ok (.aload_n 3, 1) := by decide +kernel
theorem d0_202 : decode method_6_code 202 = .ok (.invokespecial 29, 3) := by decide +kernel
theorem d0_205 : decode method_6_code 205 = .ok (.areturn, 1) := by decide +kernel
theorem d1_0 : decode jdk_42_method_3_code 0 = .ok (.aload_n 0, 1) := by decide +kernel
theorem d1_1 : decode jdk_42_method_3_code 1 = .ok (.aload_n 1, 1) := by decide +kernel
theorem d1_2 : decode jdk_42_method_3_code 2 = .ok (.iconst 0, 1) := by decide +kernel
theorem d1_3 : decode jdk_42_method_3_code 3 = .ok (.aload_n 1, 1) := by decide +kernel
theorem d1_4 : decode jdk_42_method_3_code 4 = .ok (.arraylength, 1) := by decide +kernel
theorem d1_5 : decode jdk_42_method_3_code 5 = .ok (.aconst_null, 1) := by decide +kernel
theorem d1_6 : decode jdk_42_method_3_code 6 = .ok (.invokespecial 27, 3) := by decide +kernel
theorem d1_9 : decode jdk_42_method_3_code 9 = .ok (.return_, 1) := by decide +kernel
theorem d2_0 : decode jdk_42_method_149_code 0 = .ok (.aload_n 0, 1) := by decide +kernel
theorem d2_1 : decode jdk_42_method_149_code 1 = .ok (.invokespecial 1, 3) := by decide +kernel
theorem d2_4 : decode jdk_42_method_149_code 4 = .ok (.iload_n 3, 1) := by decide +kernel
theorem d2_5 : decode jdk_42_method_149_code 5 = .ok (.ifCond .ne 22, 3) := by decide +kernel
theorem d2_27 : decode jdk_42_method_149_code 27 = .ok (.getstatic 38, 3) := by decide +kernel
theorem d2_30 : decode jdk_42_method_149_code 30 = .ok (.ifCond .eq 28, 3) := by decide +kernel
theorem d2_33 : decode jdk_42_method_149_code 33 = .ok (.aload_n 1, 1) := by decide +kernel
theorem d2_34 : decode jdk_42_method_149_code 34 = .ok (.iload_n 2, 1) := by decide +kernel
theorem d2_35 : decode jdk_42_method_149_code 35 = .ok (.iload_n 3, 1) := by decide +kernel
theorem d2_36 : decode jdk_42_method_149_code 36 = .ok (.invokestatic 177, 3) := by decide +kernel
theorem d2_39 : decode jdk_42_method_149_code 39 = .ok (.astore 5, 2) := by decide +kernel
theorem d2_41 : decode jdk_42_method_149_code 41 = .ok (.aload_n 0, 1) := by decide +kernel
theorem d2_42 : decode jdk_42_method_149_code 42 = .ok (.aload 5, 2) := by decide +kernel
theorem d2_44 : decode jdk_42_method_149_code 44 = .ok (.iload_n 3, 1) := by decide +kernel
theorem d2_45 : decode jdk_42_method_149_code 45 = .ok (.invokestatic 47, 3) := by decide +kernel
theorem d2_48 : decode jdk_42_method_149_code 48 = .ok (.putfield 15, 3) := by decide +kernel
theorem d2_51 : decode jdk_42_method_149_code 51 = .ok (.aload_n 0, 1) := by decide +kernel
theorem d2_52 : decode jdk_42_method_149_code 52 = .ok (.aload 5, 2) := by decide +kernel
theorem d2_54 : decode jdk_42_method_149_code 54 = .ok (.putfield 9, 3) := by decide +kernel
theorem d2_57 : decode jdk_42_method_149_code 57 = .ok (.return_, 1) := by decide +kernel
theorem d4_0 : decode jdk_52_method_16_code 0 = .ok (.iload_n 2, 1) := by decide +kernel
theorem d4_1 : decode jdk_52_method_16_code 1 = .ok (.newarray .byte, 2) := by decide +kernel
theorem d4_3 : decode jdk_52_method_16_code 3 = .ok (.astore_n 3, 1) := by decide +kernel
theorem d4_4 : decode jdk_52_method_16_code 4 = .ok (.aload_n 0, 1) := by decide +kernel
theorem d4_5 : decode jdk_52_method_16_code 5 = .ok (.iload_n 1, 1) := by decide +kernel
theorem d4_6 : decode jdk_52_method_16_code 6 = .ok (.aload_n 3, 1) := by decide +kernel
theorem d4_7 : decode jdk_52_method_16_code 7 = .ok (.iconst 0, 1) := by decide +kernel
theorem d4_8 : decode jdk_52_method_16_code 8 = .ok (.iload_n 2, 1) := by decide +kernel
theorem d4_9 : decode jdk_52_method_16_code 9 = .ok (.invokestatic 115, 3) := by decide +kernel
theorem d4_12 : decode jdk_52_method_16_code 12 = .ok (.istore 4, 2) := by decide +kernel
theorem d4_14 : decode jdk_52_method_16_code 14 = .ok (.iload 4, 2) := by decide +kernel
theorem d4_16 : decode jdk_52_method_16_code 16 = .ok (.iload_n 2, 1) := by decide +kernel
theorem d4_17 : decode jdk_52_method_16_code 17 = .ok (.if_icmp .eq 40, 3) := by decide +kernel
theorem d4_57 : decode jdk_52_method_16_code 57 = .ok (.aload_n 3, 1) := by decide +kernel
theorem d4_58 : decode jdk_52_method_16_code 58 = .ok (.areturn, 1) := by decide +kernel
theorem d5_0 : decode jdk_52_method_21_code 0 = .ok (.iconst 0, 1) := by decide +kernel
theorem d5_1 : decode jdk_52_method_21_code 1 = .ok (.istore 5, 2) := by decide +kernel
theorem d5_3 : decode jdk_52_method_21_code 3 = .ok (.iload 5, 2) := by decide +kernel
theorem d5_5 : decode jdk_52_method_21_code 5 = .ok (.iload 4, 2) := by decide +kernel
theorem d5_7 : decode jdk_52_method_21_code 7 = .ok (.if_icmp .ge 37, 3) := by decide +kernel
theorem d5_10 : decode jdk_52_method_21_code 10 = .ok (.aload_n 0, 1) := by decide +kernel
theorem d5_11 : decode jdk_52_method_21_code 11 = .ok (.iload_n 1, 1) := by decide +kernel
theorem d5_12 : decode jdk_52_method_21_code 12 = .ok (.caload, 1) := by decide +kernel
theorem d5_13 : decode jdk_52_method_21_code 13 = .ok (.istore 6, 2) := by decide +kernel
theorem d5_15 : decode jdk_52_method_21_code 15 = .ok (.iload 6, 2) := by decide +kernel
theorem d5_17 : decode jdk_52_method_21_code 17 = .ok (.sipush 255, 3) := by decide +kernel
theorem d5_20 : decode jdk_52_method_21_code 20 = .ok (.if_icmp .le 6, 3) := by decide +kernel
theorem d5_26 : decode jdk_52_method_21_code 26 = .ok (.aload_n 2, 1) := by decide +kernel
theorem d5_27 : decode jdk_52_method_21_code 27 = .ok (.iload_n 3, 1) := by decide +kernel
theorem d5_28 : decode jdk_52_method_21_code 28 = .ok (.iload 6, 2) := by decide +kernel
theorem d5_30 : decode jdk_52_method_21_code 30 = .ok (.i2b, 1) := by decide +kernel
theorem d5_31 : decode jdk_52_method_21_code 31 = .ok (.bastore, 1) := by decide +kernel
theorem d5_32 : decode jdk_52_method_21_code 32 = .ok (.iinc 1 1, 3) := by decide +kernel
theorem d5_35 : decode jdk_52_method_21_code 35 = .ok (.iinc 3 1, 3) := by decide +kernel
theorem d5_38 : decode jdk_52_method_21_code 38 = .ok (.iinc 5 1, 3) := by decide +kernel
theorem d5_41 : decode jdk_52_method_21_code 41 = .ok (.goto (-38), 3) := by decide +kernel
theorem d5_44 : decode jdk_52_method_21_code 44 = .ok (.iload 4, 2) := by decide +kernel
theorem d5_46 : decode jdk_52_method_21_code 46 = .ok (.ireturn, 1) := by decide +kernel
theorem d6_0 : decode jdk_52_method_15_code 0 = .ok (.iload_n 1, 1) := by decide +kernel
theorem d6_1 : decode jdk_52_method_15_code 1 = .ok (.aload_n 0, 1) := by decide +kernel
theorem d6_2 : decode jdk_52_method_15_code 2 = .ok (.arraylength, 1) := by decide +kernel
theorem d6_3 : decode jdk_52_method_15_code 3 = .ok (.isub, 1) := by decide +kernel
theorem d6_4 : decode jdk_52_method_15_code 4 = .ok (.bipush 31, 2) := by decide +kernel
theorem d6_6 : decode jdk_52_method_15_code 6 = .ok (.iushr, 1) := by decide +kernel
theorem d6_7 : decode jdk_52_method_15_code 7 = .ok (.i2b, 1) := by decide +kernel
theorem d6_8 : decode jdk_52_method_15_code 8 = .ok (.ireturn, 1) := by decide +kernel
theorem d7_0 : decode prog_52_method_4_code 0 = .ok (.aconst_null, 1) := by decide +kernel
theorem d7_1 : decode prog_52_method_4_code 1 = .ok (.astore_n 1, 1) := by decide +kernel
theorem d7_2 : decode prog_52_method_4_code 2 = .ok (.invokestatic 39, 3) := by decide +kernel
theorem d7_5 : decode prog_52_method_4_code 5 = .ok (.astore_n 2, 1) := by decide +kernel
theorem d7_6 : decode prog_52_method_4_code 6 = .ok (.aload_n 2, 1) := by decide +kernel
theorem d7_7 : decode prog_52_method_4_code 7 = .ok (.arraylength, 1) := by decide +kernel
theorem d7_8 : decode prog_52_method_4_code 8 = .ok (.istore_n 3, 1) := by decide +kernel
theorem d7_9 : decode prog_52_method_4_code 9 = .ok (.iconst 0, 1) := by decide +kernel
theorem d7_10 : decode prog_52_method_4_code 10 = .ok (.istore 4, 2) := by decide +kernel
theorem d7_12 : decode prog_52_method_4_code 12 = .ok (.iload 4, 2) := by decide +kernel
theorem d7_14 : decode prog_52_method_4_code 14 = .ok (.iload_n 3, 1) := by decide +kernel
theorem d7_15 : decode prog_52_method_4_code 15 = .ok (.if_icmp .ge 30, 3) := by decide +kernel
theorem d7_18 : decode prog_52_method_4_code 18 = .ok (.aload_n 2, 1) := by decide +kernel
theorem d7_19 : decode prog_52_method_4_code 19 = .ok (.iload 4, 2) := by decide +kernel
theorem d7_21 : decode prog_52_method_4_code 21 = .ok (.aaload, 1) := by decide +kernel
theorem d7_22 : decode prog_52_method_4_code 22 = .ok (.astore 5, 2) := by decide +kernel
theorem d7_24 : decode prog_52_method_4_code 24 = .ok (.aload 5, 2) := by decide +kernel
theorem d7_26 : decode prog_52_method_4_code 26 = .ok (.getfield 35, 3) := by decide +kernel
theorem d7_29 : decode prog_52_method_4_code 29 = .ok (.aload_n 0, 1) := by decide +kernel
theorem d7_30 : decode prog_52_method_4_code 30 = .ok (.invokevirtual 43, 3) := by decide +kernel
theorem d7_33 : decode prog_52_method_4_code 33 = .ok (.ifCond .eq 6, 3) := by decide +kernel
theorem d7_36 : decode prog_52_method_4_code 36 = .ok (.aload 5, 2) := by decide +kernel
theorem d7_38 : decode prog_52_method_4_code 38 = .ok (.astore_n 1, 1) := by decide +kernel
theorem d7_39 : decode prog_52_method_4_code 39 = .ok (.iinc 4 1, 3) := by decide +kernel
theorem d7_42 : decode prog_52_method_4_code 42 = .ok (.goto (-30), 3) := by decide +kernel
theorem d7_45 : decode prog_52_method_4_code 45 = .ok (.aload_n 1, 1) := by decide +kernel
theorem d7_46 : decode prog_52_method_4_code 46 = .ok (.areturn, 1) := by decide +kernel
theorem d8_0 : decode prog_52_method_1_code 0 = .ok (.getstatic 16, 3) := by decide +kernel
theorem d8_3 : decode prog_52_method_1_code 3 = .ok (.invokevirtual 20, 3) := by decide +kernel
theorem d8_6 : decode prog_52_method_1_code 6 = .ok (.checkcast 21, 3) := by decide +kernel
theorem d8_9 : decode prog_52_method_1_code 9 = .ok (.areturn, 1) := by decide +kernel
theorem d9_0 : decode jdk_42_method_66_code 0 = .ok (.aload_n 0, 1) := by decide +kernel
theorem d9_1 : decode jdk_42_method_66_code 1 = .ok (.aload_n 1, 1) := by decide +kernel
theorem d9_2 : decode jdk_42_method_66_code 2 = .ok (.if_acmp .ne 5, 3) := by decide +kernel
theorem d9_5 : decode jdk_42_method_66_code 5 = .ok (.iconst 1, 1) := by decide +kernel
theorem d9_6 : decode jdk_42_method_66_code 6 = .ok (.ireturn, 1) := by decide +kernel
theorem d9_7 : decode jdk_42_method_66_code 7 = .ok (.aload_n 1, 1) := by decide +kernel
theorem d9_8 : decode jdk_42_method_66_code 8 = .ok (.instanceof 10, 3) := by decide +kernel
theorem d9_11 : decode jdk_42_method_66_code 11 = .ok (.ifCond .eq 43, 3) := by decide +kernel
theorem d9_14 : decode jdk_42_method_66_code 14 = .ok (.aload_n 1, 1) := by decide +kernel
theorem d9_15 : decode jdk_42_method_66_code 15 = .ok (.checkcast 10, 3) := by decide +kernel
theorem d9_18 : decode jdk_42_method_66_code 18 = .ok (.astore_n 2, 1) := by decide +kernel
theorem d9_19 : decode jdk_42_method_66_code 19 = .ok (.getstatic 38, 3) := by decide +kernel
theorem d9_22 : decode jdk_42_method_66_code 22 = .ok (.ifCond .eq 14, 3) := by decide +kernel
theorem d9_25 : decode jdk_42_method_66_code 25 = .ok (.aload_n 0, 1) := by decide +kernel
theorem d9_26 : decode jdk_42_method_66_code 26 = .ok (.getfield 15, 3) := by decide +kernel
theorem d9_29 : decode jdk_42_method_66_code 29 = .ok (.aload_n 2, 1) := by decide +kernel
theorem d9_30 : decode jdk_42_method_66_code 30 = .ok (.getfield 15, 3) := by decide +kernel
theorem d9_33 : decode jdk_42_method_66_code 33 = .ok (.if_icmp .ne 21, 3) := by decide +kernel
theorem d9_36 : decode jdk_42_method_66_code 36 = .ok (.aload_n 0, 1) := by decide +kernel
theorem d9_37 : decode jdk_42_method_66_code 37 = .ok (.getfield 9, 3) := by decide +kernel
theorem d9_40 : decode jdk_42_method_66_code 40 = .ok (.aload_n 2, 1) := by decide +kernel
theorem d9_41 : decode jdk_42_method_66_code 41 = .ok (.getfield 9, 3) := by decide +kernel
theorem d9_44 : decode jdk_42_method_66_code 44 = .ok (.invokestatic 541, 3) := by decide +kernel
theorem d9_47 : decode jdk_42_method_66_code 47 = .ok (.ifCond .eq 7, 3) := by decide +kernel
theorem d9_50 : decode jdk_42_method_66_code 50 = .ok (.iconst 1, 1) := by decide +kernel
theorem d9_51 : decode jdk_42_method_66_code 51 = .ok (.goto 4, 3) := by decide +kernel
theorem d9_54 : decode jdk_42_method_66_code 54 = .ok (.iconst 0, 1) := by decide +kernel
theorem d9_55 : decode jdk_42_method_66_code 55 = .ok (.ireturn, 1) := by decide +kernel
theorem d10_0 : decode jdk_43_method_13_code 0 = .ok (.aload_n 0, 1) := by decide +kernel
theorem d10_1 : decode jdk_43_method_13_code 1 = .ok (.arraylength, 1) := by decide +kernel
theorem d10_2 : decode jdk_43_method_13_code 2 = .ok (.aload_n 1, 1) := by decide +kernel
theorem d10_3 : decode jdk_43_method_13_code 3 = .ok (.arraylength, 1) := by decide +kernel
theorem d10_4 : decode jdk_43_method_13_code 4 = .ok (.if_icmp .ne 30, 3) := by decide +kernel
theorem d10_7 : decode jdk_43_method_13_code 7 = .ok (.iconst 0, 1) := by decide +kernel
theorem d10_8 : decode jdk_43_method_13_code 8 = .ok (.istore_n 2, 1) := by decide +kernel
theorem d10_9 : decode jdk_43_method_13_code 9 = .ok (.iload_n 2, 1) := by decide +kernel
theorem d10_10 : decode jdk_43_method_13_code 10 = .ok (.aload_n 0, 1) := by decide +kernel
theorem d10_11 : decode jdk_43_method_13_code 11 = .ok (.arraylength, 1) := by decide +kernel
theorem d10_12 : decode jdk_43_method_13_code 12 = .ok (.if_icmp .ge 20, 3) := by decide +kernel
theorem d10_15 : decode jdk_43_method_13_code 15 = .ok (.aload_n 0, 1) := by decide +kernel
theorem d10_16 : decode jdk_43_method_13_code 16 = .ok (.iload_n 2, 1) := by decide +kernel
theorem d10_17 : decode jdk_43_method_13_code 17 = .ok (.baload, 1) := by decide +kernel
theorem d10_18 : decode jdk_43_method_13_code 18 = .ok (.aload_n 1, 1) := by decide +kernel
theorem d10_19 : decode jdk_43_method_13_code 19 = .ok (.iload_n 2, 1) := by decide +kernel
theorem d10_20 : decode jdk_43_method_13_code 20 = .ok (.baload, 1) := by decide +kernel
theorem d10_21 : decode jdk_43_method_13_code 21 = .ok (.if_icmp .eq 5, 3) := by decide +kernel
theorem d10_24 : decode jdk_43_method_13_code 24 = .ok (.iconst 0, 1) := by decide +kernel
theorem d10_25 : decode jdk_43_method_13_code 25 = .ok (.ireturn, 1) := by decide +kernel
theorem d10_26 : decode jdk_43_method_13_code 26 = .ok (.iinc 2 1, 3) := by decide +kernel
theorem d10_29 : decode jdk_43_method_13_code 29 = .ok (.goto (-20), 3) := by decide +kernel
theorem d10_32 : decode jdk_43_method_13_code 32 = .ok (.iconst 1, 1) := by decide +kernel
theorem d10_33 : decode jdk_43_method_13_code 33 = .ok (.ireturn, 1) := by decide +kernel
theorem d10_34 : decode jdk_43_method_13_code 34 = .ok (.iconst 0, 1) := by decide +kernel
theorem d10_35 : decode jdk_43_method_13_code 35 = .ok (.ireturn, 1) := by decide +kernel
theorem d11_0 : decode method_3_code 0 = .ok (.aload_n 0, 1) := by decide +kernel
theorem d11_1 : decode method_3_code 1 = .ok (.ldc 44, 2) := by decide +kernel
theorem d11_3 : decode method_3_code 3 = .ok (.invokevirtual 46, 3) := by decide +kernel
theorem d11_6 : decode method_3_code 6 = .ok (.ifCond .eq 7, 3) := by decide +kernel
theorem d11_9 : decode method_3_code 9 = .ok (.getstatic 50, 3) := by decide +kernel
theorem d11_12 : decode method_3_code 12 = .ok (.areturn, 1) := by decide +kernel
theorem d11_13 : decode method_3_code 13 = .ok (.aload_n 0, 1) := by decide +kernel
theorem d11_14 : decode method_3_code 14 = .ok (.ldc 54, 2) := by decide +kernel
theorem d11_16 : decode method_3_code 16 = .ok (.invokevirtual 46, 3) := by decide +kernel
theorem d11_19 : decode method_3_code 19 = .ok (.ifCond .eq 7, 3) := by decide +kernel
theorem d11_22 : decode method_3_code 22 = .ok (.getstatic 56, 3) := by decide +kernel
theorem d11_25 : decode method_3_code 25 = .ok (.areturn, 1) := by decide +kernel
theorem d11_26 : decode method_3_code 26 = .ok (.aload_n 0, 1) := by decide +kernel
theorem d11_27 : decode method_3_code 27 = .ok (.ldc 59, 2) := by decide +kernel
theorem d11_29 : decode method_3_code 29 = .ok (.invokevirtual 46, 3) := by decide +kernel
theorem d11_32 : decode method_3_code 32 = .ok (.ifCond .eq 7, 3) := by decide +kernel
theorem d11_35 : decode method_3_code 35 = .ok (.getstatic 61, 3) := by decide +kernel
theorem d11_38 : decode method_3_code 38 = .ok (.areturn, 1) := by decide +kernel
theorem d11_39 : decode method_3_code 39 = .ok (.aload_n 0, 1) := by decide +kernel
theorem d11_40 : decode method_3_code 40 = .ok (.ldc 64, 2) := by decide +kernel
theorem d11_42 : decode method_3_code 42 = .ok (.invokevirtual 46, 3) := by decide +kernel
theorem d11_45 : decode method_3_code 45 = .ok (.ifCond .eq 7, 3) := by decide +kernel
theorem d11_48 : decode method_3_code 48 = .ok (.getstatic 66, 3) := by decide +kernel
theorem d11_51 : decode method_3_code 51 = .ok (.areturn, 1) := by decide +kernel
theorem d11_52 : decode method_3_code 52 = .ok (.aconst_null, 1) := by decide +kernel
theorem d11_53 : decode method_3_code 53 = .ok (.areturn, 1) := by decide +kernel
theorem d12_0 : decode method_7_code 0 = .ok (.iload_n 0, 1) := by decide +kernel
theorem d12_1 : decode method_7_code 1 = .ok (.ifCond .ne 52, 3) := by decide +kernel
theorem d12_4 : decode method_7_code 4 = .ok (.bipush 8, 2) := by decide +kernel
theorem d12_6 : decode method_7_code 6 = .ok (.newarray .char, 2) := by decide +kernel
theorem d12_8 : decode method_7_code 8 = .ok (.dup, 1) := by decide +kernel
theorem d12_9 : decode method_7_code 9 = .ok (.iconst 0, 1) := by decide +kernel
theorem d12_10 : decode method_7_code 10 = .ok (.bipush 115, 2) := by decide +kernel
theorem d12_12 : decode method_7_code 12 = .ok (.castore, 1) := by decide +kernel
theorem d12_13 : decode method_7_code 13 = .ok (.dup, 1) := by decide +kernel
theorem d12_14 : decode method_7_code 14 = .ok (.iconst 1, 1) := by decide +kernel
theorem d12_15 : decode method_7_code 15 = .ok (.bipush 117, 2) := by decide +kernel
theorem d12_17 : decode method_7_code 17 = .ok (.castore, 1) := by decide +kernel
theorem d12_18 : decode method_7_code 18 = .ok (.dup, 1) := by decide +kernel
theorem d12_19 : decode method_7_code 19 = .ok (.iconst 2, 1) := by decide +kernel
theorem d12_20 : decode method_7_code 20 = .ok (.bipush 98, 2) := by decide +kernel
theorem d12_22 : decode method_7_code 22 = .ok (.castore, 1) := by decide +kernel
theorem d12_23 : decode method_7_code 23 = .ok (.dup, 1) := by decide +kernel
theorem d12_24 : decode method_7_code 24 = .ok (.iconst 3, 1) := by decide +kernel
theorem d12_25 : decode method_7_code 25 = .ok (.bipush 106, 2) := by decide +kernel
theorem d12_27 : decode method_7_code 27 = .ok (.castore, 1) := by decide +kernel
theorem d12_28 : decode method_7_code 28 = .ok (.dup, 1) := by decide +kernel
theorem d12_29 : decode method_7_code 29 = .ok (.iconst 4, 1) := by decide +kernel
theorem d12_30 : decode method_7_code 30 = .ok (.bipush 101, 2) := by decide +kernel
theorem d12_32 : decode method_7_code 32 = .ok (.castore, 1) := by decide +kernel
theorem d12_33 : decode method_7_code 33 = .ok (.dup, 1) := by decide +kernel
theorem d12_34 : decode method_7_code 34 = .ok (.iconst 5, 1) := by decide +kernel
theorem d12_35 : decode method_7_code 35 = .ok (.bipush 99, 2) := by decide +kernel
theorem d12_37 : decode method_7_code 37 = .ok (.castore, 1) := by decide +kernel
theorem d12_38 : decode method_7_code 38 = .ok (.dup, 1) := by decide +kernel
theorem d12_39 : decode method_7_code 39 = .ok (.bipush 6, 2) := by decide +kernel
theorem d12_41 : decode method_7_code 41 = .ok (.bipush 116, 2) := by decide +kernel
theorem d12_43 : decode method_7_code 43 = .ok (.castore, 1) := by decide +kernel
theorem d12_44 : decode method_7_code 44 = .ok (.dup, 1) := by decide +kernel
theorem d12_45 : decode method_7_code 45 = .ok (.bipush 7, 2) := by decide +kernel
theorem d12_47 : decode method_7_code 47 = .ok (.iload_n 1, 1) := by decide +kernel
theorem d12_48 : decode method_7_code 48 = .ok (.castore, 1) := by decide +kernel
theorem d12_49 : decode method_7_code 49 = .ok (.astore_n 2, 1) := by decide +kernel
theorem d12_50 : decode method_7_code 50 = .ok (.goto 157, 3) := by decide +kernel
theorem d12_53 : decode method_7_code 53 = .ok (.iload_n 0, 1) := by decide +kernel
theorem d12_54 : decode method_7_code 54 = .ok (.iconst 1, 1) := by decide +kernel
theorem d12_55 : decode method_7_code 55 = .ok (.if_icmp .ne 46, 3) := by decide +kernel
theorem d12_58 : decode method_7_code 58 = .ok (.bipush 7, 2) := by decide +kernel
theorem d12_60 : decode method_7_code 60 = .ok (.newarray .char, 2) := by decide +kernel
theorem d12_62 : decode method_7_code 62 = .ok (.dup, 1) := by decide +kernel
theorem d12_63 : decode method_7_code 63 = .ok (.iconst 0, 1) := by decide +kernel
theorem d12_64 : decode method_7_code 64 = .ok (.bipush 97, 2) := by decide +kernel
theorem d12_66 : decode method_7_code 66 = .ok (.castore, 1) := by decide +kernel
theorem d12_67 : decode method_7_code 67 = .ok (.dup, 1) := by decide +kernel
theorem d12_68 : decode method_7_code 68 = .ok (.iconst 1, 1) := by decide +kernel
theorem d12_69 : decode method_7_code 69 = .ok (.bipush 99, 2) := by decide +kernel
theorem d12_71 : decode method_7_code 71 = .ok (.castore, 1) := by decide +kernel
theorem d12_72 : decode method_7_code 72 = .ok (.dup, 1) := by decide +kernel
theorem d12_73 : decode method_7_code 73 = .ok (.iconst 2, 1) := by decide +kernel
theorem d12_74 : decode method_7_code 74 = .ok (.bipush 116, 2) := by decide +kernel
theorem d12_76 : decode method_7_code 76 = .ok (.castore, 1) := by decide +kernel
theorem d12_77 : decode method_7_code 77 = .ok (.dup, 1) := by decide +kernel
theorem d12_78 : decode method_7_code 78 = .ok (.iconst 3, 1) := by decide +kernel
theorem d12_79 : decode method_7_code 79 = .ok (.bipush 105, 2) := by decide +kernel
theorem d12_81 : decode method_7_code 81 = .ok (.castore, 1) := by decide +kernel
theorem d12_82 : decode method_7_code 82 = .ok (.dup, 1) := by decide +kernel
theorem d12_83 : decode method_7_code 83 = .ok (.iconst 4, 1) := by decide +kernel
theorem d12_84 : decode method_7_code 84 = .ok (.bipush 111, 2) := by decide +kernel
theorem d12_86 : decode method_7_code 86 = .ok (.castore, 1) := by decide +kernel
theorem d12_87 : decode method_7_code 87 = .ok (.dup, 1) := by decide +kernel
theorem d12_88 : decode method_7_code 88 = .ok (.iconst 5, 1) := by decide +kernel
theorem d12_89 : decode method_7_code 89 = .ok (.bipush 110, 2) := by decide +kernel
theorem d12_91 : decode method_7_code 91 = .ok (.castore, 1) := by decide +kernel
theorem d12_92 : decode method_7_code 92 = .ok (.dup, 1) := by decide +kernel
theorem d12_93 : decode method_7_code 93 = .ok (.bipush 6, 2) := by decide +kernel
theorem d12_95 : decode method_7_code 95 = .ok (.iload_n 1, 1) := by decide +kernel
theorem d12_96 : decode method_7_code 96 = .ok (.castore, 1) := by decide +kernel
theorem d12_97 : decode method_7_code 97 = .ok (.astore_n 2, 1) := by decide +kernel
theorem d12_98 : decode method_7_code 98 = .ok (.goto 109, 3) := by decide +kernel
theorem d12_101 : decode method_7_code 101 = .ok (.iload_n 0, 1) := by decide +kernel
theorem d12_102 : decode method_7_code 102 = .ok (.iconst 2, 1) := by decide +kernel
theorem d12_103 : decode method_7_code 103 = .ok (.if_icmp .ne 58, 3) := by decide +kernel
theorem d12_106 : decode method_7_code 106 = .ok (.bipush 9, 2) := by decide +kernel
theorem d12_108 : decode method_7_code 108 = .ok (.newarray .char, 2) := by decide +kernel
theorem d12_110 : decode method_7_code 110 = .ok (.dup, 1) := by decide +kernel
theorem d12_111 : decode method_7_code 111 = .ok (.iconst 0, 1) := by decide +kernel
theorem d12_112 : decode method_7_code 112 = .ok (.bipush 114, 2) := by decide +kernel
theorem d12_114 : decode method_7_code 114 = .ok (.castore, 1) := by decide +kernel
theorem d12_115 : decode method_7_code 115 = .ok (.dup, 1) := by decide +kernel
theorem d12_116 : decode method_7_code 116 = .ok (.iconst 1, 1) := by decide +kernel
theorem d12_117 : decode method_7_code 117 = .ok (.bipush 101, 2) := by decide +kernel
theorem d12_119 : decode method_7_code 119 = .ok (.castore, 1) := by decide +kernel
theorem d12_120 : decode method_7_code 120 = .ok (.dup, 1) := by decide +kernel
theorem d12_121 : decode method_7_code 121 = .ok (.iconst 2, 1) := by decide +kernel
theorem d12_122 : decode method_7_code 122 = .ok (.bipush 115, 2) := by decide +kernel
theorem d12_124 : decode method_7_code 124 = .ok (.castore, 1) := by decide +kernel
theorem d12_125 : decode method_7_code 125 = .ok (.dup, 1) := by decide +kernel
theorem d12_126 : decode method_7_code 126 = .ok (.iconst 3, 1) := by decide +kernel
theorem d12_127 : decode method_7_code 127 = .ok (.bipush 111, 2) := by decide +kernel
theorem d12_129 : decode method_7_code 129 = .ok (.castore, 1) := by decide +kernel
theorem d12_130 : decode method_7_code 130 = .ok (.dup, 1) := by decide +kernel
theorem d12_131 : decode method_7_code 131 = .ok (.iconst 4, 1) := by decide +kernel
theorem d12_132 : decode method_7_code 132 = .ok (.bipush 117, 2) := by decide +kernel
theorem d12_134 : decode method_7_code 134 = .ok (.castore, 1) := by decide +kernel
theorem d12_135 : decode method_7_code 135 = .ok (.dup, 1) := by decide +kernel
theorem d12_136 : decode method_7_code 136 = .ok (.iconst 5, 1) := by decide +kernel
theorem d12_137 : decode method_7_code 137 = .ok (.bipush 114, 2) := by decide +kernel
theorem d12_139 : decode method_7_code 139 = .ok (.castore, 1) := by decide +kernel
theorem d12_140 : decode method_7_code 140 = .ok (.dup, 1) := by decide +kernel
theorem d12_141 : decode method_7_code 141 = .ok (.bipush 6, 2) := by decide +kernel
theorem d12_143 : decode method_7_code 143 = .ok (.bipush 99, 2) := by decide +kernel
theorem d12_145 : decode method_7_code 145 = .ok (.castore, 1) := by decide +kernel
theorem d12_146 : decode method_7_code 146 = .ok (.dup, 1) := by decide +kernel
theorem d12_147 : decode method_7_code 147 = .ok (.bipush 7, 2) := by decide +kernel
theorem d12_149 : decode method_7_code 149 = .ok (.bipush 101, 2) := by decide +kernel
theorem d12_151 : decode method_7_code 151 = .ok (.castore, 1) := by decide +kernel
theorem d12_152 : decode method_7_code 152 = .ok (.dup, 1) := by decide +kernel
theorem d12_153 : decode method_7_code 153 = .ok (.bipush 8, 2) := by decide +kernel
theorem d12_155 : decode method_7_code 155 = .ok (.iload_n 1, 1) := by decide +kernel
theorem d12_156 : decode method_7_code 156 = .ok (.castore, 1) := by decide +kernel
theorem d12_157 : decode method_7_code 157 = .ok (.astore_n 2, 1) := by decide +kernel
theorem d12_158 : decode method_7_code 158 = .ok (.goto 49, 3) := by decide +kernel
theorem d12_161 : decode method_7_code 161 = .ok (.bipush 8, 2) := by decide +kernel
theorem d12_163 : decode method_7_code 163 = .ok (.newarray .char, 2) := by decide +kernel
theorem d12_165 : decode method_7_code 165 = .ok (.dup, 1) := by decide +kernel
theorem d12_166 : decode method_7_code 166 = .ok (.iconst 0, 1) := by decide +kernel
theorem d12_167 : decode method_7_code 167 = .ok (.bipush 99, 2) := by decide +kernel
theorem d12_169 : decode method_7_code 169 = .ok (.castore, 1) := by decide +kernel
theorem d12_170 : decode method_7_code 170 = .ok (.dup, 1) := by decide +kernel
theorem d12_171 : decode method_7_code 171 = .ok (.iconst 1, 1) := by decide +kernel
theorem d12_172 : decode method_7_code 172 = .ok (.bipush 111, 2) := by decide +kernel
theorem d12_174 : decode method_7_code 174 = .ok (.castore, 1) := by decide +kernel
theorem d12_175 : decode method_7_code 175 = .ok (.dup, 1) := by decide +kernel
theorem d12_176 : decode method_7_code 176 = .ok (.iconst 2, 1) := by decide +kernel
theorem d12_177 : decode method_7_code 177 = .ok (.bipush 110, 2) := by decide +kernel
theorem d12_179 : decode method_7_code 179 = .ok (.castore, 1) := by decide +kernel
theorem d12_180 : decode method_7_code 180 = .ok (.dup, 1) := by decide +kernel
theorem d12_181 : decode method_7_code 181 = .ok (.iconst 3, 1) := by decide +kernel
theorem d12_182 : decode method_7_code 182 = .ok (.bipush 116, 2) := by decide +kernel
theorem d12_184 : decode method_7_code 184 = .ok (.castore, 1) := by decide +kernel
theorem d12_185 : decode method_7_code 185 = .ok (.dup, 1) := by decide +kernel
theorem d12_186 : decode method_7_code 186 = .ok (.iconst 4, 1) := by decide +kernel
theorem d12_187 : decode method_7_code 187 = .ok (.bipush 101, 2) := by decide +kernel
theorem d12_189 : decode method_7_code 189 = .ok (.castore, 1) := by decide +kernel
theorem d12_190 : decode method_7_code 190 = .ok (.dup, 1) := by decide +kernel
theorem d12_191 : decode method_7_code 191 = .ok (.iconst 5, 1) := by decide +kernel
theorem d12_192 : decode method_7_code 192 = .ok (.bipush 120, 2) := by decide +kernel
theorem d12_194 : decode method_7_code 194 = .ok (.castore, 1) := by decide +kernel
theorem d12_195 : decode method_7_code 195 = .ok (.dup, 1) := by decide +kernel
theorem d12_196 : decode method_7_code 196 = .ok (.bipush 6, 2) := by decide +kernel
theorem d12_198 : decode method_7_code 198 = .ok (.bipush 116, 2) := by decide +kernel
theorem d12_200 : decode method_7_code 200 = .ok (.castore, 1) := by decide +kernel
theorem d12_201 : decode method_7_code 201 = .ok (.dup, 1) := by decide +kernel
theorem d12_202 : decode method_7_code 202 = .ok (.bipush 7, 2) := by decide +kernel
theorem d12_204 : decode method_7_code 204 = .ok (.iload_n 1, 1) := by decide +kernel
theorem d12_205 : decode method_7_code 205 = .ok (.castore, 1) := by decide +kernel
theorem d12_206 : decode method_7_code 206 = .ok (.astore_n 2, 1) := by decide +kernel
theorem d12_207 : decode method_7_code 207 = .ok (.new 22, 3) := by decide +kernel
theorem d12_210 : decode method_7_code 210 = .ok (.dup, 1) := by decide +kernel
theorem d12_211 : decode method_7_code 211 = .ok (.aload_n 2, 1) := by decide +kernel
theorem d12_212 : decode method_7_code 212 = .ok (.invokespecial 29, 3) := by decide +kernel
theorem d12_215 : decode method_7_code 215 = .ok (.areturn, 1) := by decide +kernel
theorem d13_0 : decode method_4_code 0 = .ok (.iload_n 0, 1) := by decide +kernel
theorem d13_1 : decode method_4_code 1 = .ok (.ifCond .ne 6, 3) := by decide +kernel
theorem d13_4 : decode method_4_code 4 = .ok (.ldc 44, 2) := by decide +kernel
theorem d13_6 : decode method_4_code 6 = .ok (.areturn, 1) := by decide +kernel
theorem d13_7 : decode method_4_code 7 = .ok (.iload_n 0, 1) := by decide +kernel
theorem d13_8 : decode method_4_code 8 = .ok (.iconst 1, 1) := by decide +kernel
theorem d13_9 : decode method_4_code 9 = .ok (.if_icmp .ne 6, 3) := by decide +kernel
theorem d13_12 : decode method_4_code 12 = .ok (.ldc 54, 2) := by decide +kernel
theorem d13_14 : decode method_4_code 14 = .ok (.areturn, 1) := by decide +kernel
theorem d13_15 : decode method_4_code 15 = .ok (.iload_n 0, 1) := by decide +kernel
theorem d13_16 : decode method_4_code 16 = .ok (.iconst 2, 1) := by decide +kernel
theorem d13_17 : decode method_4_code 17 = .ok (.if_icmp .ne 6, 3) := by decide +kernel
theorem d13_20 : decode method_4_code 20 = .ok (.ldc 59, 2) := by decide +kernel
theorem d13_22 : decode method_4_code 22 = .ok (.areturn, 1) := by decide +kernel
theorem d13_23 : decode method_4_code 23 = .ok (.ldc 64, 2) := by decide +kernel
theorem d13_25 : decode method_4_code 25 = .ok (.areturn, 1) := by decide +kernel
theorem d14_0 : decode jdk_42_method_139_code 0 = .ok (.getstatic 38, 3) := by decide +kernel
theorem d14_3 : decode jdk_42_method_139_code 3 = .ok (.ifCond .eq 23, 3) := by decide +kernel
theorem d14_6 : decode jdk_42_method_139_code 6 = .ok (.iload_n 0, 1) := by decide +kernel
theorem d14_7 : decode jdk_42_method_139_code 7 = .ok (.invokestatic 1015, 3) := by decide +kernel
theorem d14_10 : decode jdk_42_method_139_code 10 = .ok (.ifCond .eq 16, 3) := by decide +kernel
theorem d14_13 : decode jdk_42_method_139_code 13 = .ok (.new 10, 3) := by decide +kernel
theorem d14_16 : decode jdk_42_method_139_code 16 = .ok (.dup, 1) := by decide +kernel
theorem d14_17 : decode jdk_42_method_139_code 17 = .ok (.iload_n 0, 1) := by decide +kernel
theorem d14_18 : decode jdk_42_method_139_code 18 = .ok (.invokestatic 1018, 3) := by decide +kernel
theorem d14_21 : decode jdk_42_method_139_code 21 = .ok (.iconst 0, 1) := by decide +kernel
theorem d14_22 : decode jdk_42_method_139_code 22 = .ok (.invokespecial 209, 3) := by decide +kernel
theorem d14_25 : decode jdk_42_method_139_code 25 = .ok (.areturn, 1) := by decide +kernel
theorem d15_0 : decode jdk_43_method_3_code 0 = .ok (.iload_n 0, 1) := by decide +kernel
theorem d15_1 : decode jdk_43_method_3_code 1 = .ok (.sipush 255, 3) := by decide +kernel
theorem d15_4 : decode jdk_43_method_3_code 4 = .ok (.if_icmp .gt 7, 3) := by decide +kernel
theorem d15_7 : decode jdk_43_method_3_code 7 = .ok (.iconst 1, 1) := by decide +kernel
theorem d15_8 : decode jdk_43_method_3_code 8 = .ok (.goto 4, 3) := by decide +kernel
theorem d15_12 : decode jdk_43_method_3_code 12 = .ok (.ireturn, 1) := by decide +kernel
theorem d16_0 : decode jdk_43_method_46_code 0 = .ok (.iconst 1, 1) := by decide +kernel
theorem d16_1 : decode jdk_43_method_46_code 1 = .ok (.newarray .byte, 2) := by decide +kernel
theorem d16_3 : decode jdk_43_method_46_code 3 = .ok (.dup, 1) := by decide +kernel
theorem d16_4 : decode jdk_43_method_46_code 4 = .ok (.iconst 0, 1) := by decide +kernel
theorem d16_5 : decode jdk_43_method_46_code 5 = .ok (.iload_n 0, 1) := by decide +kernel
theorem d16_6 : decode jdk_43_method_46_code 6 = .ok (.i2b, 1) := by decide +kernel
theorem d16_7 : decode jdk_43_method_46_code 7 = .ok (.bastore, 1) := by decide +kernel
theorem d16_8 : decode jdk_43_method_46_code 8 = .ok (.areturn, 1) := by decide +kernel
theorem d17_0 : decode jdk_42_method_151_code 0 = .ok (.aload_n 0, 1) := by decide +kernel
theorem d17_1 : decode jdk_42_method_151_code 1 = .ok (.invokespecial 1, 3) := by decide +kernel
theorem d17_4 : decode jdk_42_method_151_code 4 = .ok (.aload_n 0, 1) := by decide +kernel
theorem d17_5 : decode jdk_42_method_151_code 5 = .ok (.aload_n 1, 1) := by decide +kernel
theorem d17_6 : decode jdk_42_method_151_code 6 = .ok (.putfield 9, 3) := by decide +kernel
theorem d17_9 : decode jdk_42_method_151_code 9 = .ok (.aload_n 0, 1) := by decide +kernel
theorem d17_10 : decode jdk_42_method_151_code 10 = .ok (.iload_n 2, 1) := by decide +kernel
theorem d17_11 : decode jdk_42_method_151_code 11 = .ok (.putfield 15, 3) := by decide +kernel
theorem d17_14 : decode jdk_42_method_151_code 14 = .ok (.return_, 1) := by decide +kernel
theorem d18_0 : decode method_5_code 0 = .ok (.iload_n 0, 1) := by decide +kernel
theorem d18_1 : decode method_5_code 1 = .ok (.ifCond .ne 6, 3) := by decide +kernel
theorem d18_4 : decode method_5_code 4 = .ok (.ldc 69, 2) := by decide +kernel
theorem d18_6 : decode method_5_code 6 = .ok (.areturn, 1) := by decide +kernel
theorem d18_7 : decode method_5_code 7 = .ok (.iload_n 0, 1) := by decide +kernel
theorem d18_8 : decode method_5_code 8 = .ok (.iconst 1, 1) := by decide +kernel
theorem d18_9 : decode method_5_code 9 = .ok (.if_icmp .ne 6, 3) := by decide +kernel
theorem d18_12 : decode method_5_code 12 = .ok (.ldc 71, 2) := by decide +kernel
theorem d18_14 : decode method_5_code 14 = .ok (.areturn, 1) := by decide +kernel
theorem d18_15 : decode method_5_code 15 = .ok (.iload_n 0, 1) := by decide +kernel
theorem d18_16 : decode method_5_code 16 = .ok (.iconst 2, 1) := by decide +kernel
theorem d18_17 : decode method_5_code 17 = .ok (.if_icmp .ne 6, 3) := by decide +kernel
theorem d18_20 : decode method_5_code 20 = .ok (.ldc 73, 2) := by decide +kernel
theorem d18_22 : decode method_5_code 22 = .ok (.areturn, 1) := by decide +kernel
theorem d18_23 : decode method_5_code 23 = .ok (.ldc 75, 2) := by decide +kernel
theorem d18_25 : decode method_5_code 25 = .ok (.areturn, 1) := by decide +kernel
theorem wd0 {a0 : Array Value} {Z : State} (hw : ∀ d ∈ tables_1, d.before a0 Z = true) : ((Jvm.Cond.methodLink "com/example/reckon/reckon/core/RootNamedPinLaw" (7 : Nat) ({ cls := "com/example/reckon/reckon/core/RootNamedPinLaw", name := "mutated", desc := "(IIC)Ljava/lang/String;" } : Jvm.MethodName)) : Jvm.Cond).before a0 Z = true := hw _ (List.mem_of_getElem? (i := 0) rfl)
theorem wd1 {a0 : Array Value} {Z : State} (hw : ∀ d ∈ tables_1, d.before a0 Z = true) : ((Jvm.Cond.static ({ cls := "com/example/reckon/reckon/core/RootNamedPinLaw", name := "mutated", desc := "(IIC)Ljava/lang/String;" } : Jvm.MethodName)) : Jvm.Cond).before a0 Z = true := hw _ (List.mem_of_getElem? (i := 1) rfl)
theorem wd2 {a0 : Array Value} {Z : State} (hw : ∀ d ∈ tables_1, d.before a0 Z = true) : ((Jvm.Cond.initialized "com/example/reckon/reckon/core/RootNamedPinLaw") : Jvm.Cond).before a0 Z = true := hw _ (List.mem_of_getElem? (i := 2) rfl)
theorem wd3 {a0 : Array Value} {Z : State} (hw : ∀ d ∈ tables_1, d.before a0 Z = true) : ((Jvm.Cond.code ({ cls := "com/example/reckon/reckon/core/RootNamedPinLaw", name := "mutated", desc := "(IIC)Ljava/lang/String;" } : Jvm.MethodName) method_6_code (4 : Nat) (Option.some (Jvm.ClassFile.FieldType.object "java/lang/String"))) : Jvm.Cond).before a0 Z = true := hw _ (List.mem_of_getElem? (i := 3) rfl)
theorem wd4 {a0 : Array Value} {Z : State} (hw : ∀ d ∈ tables_1, d.before a0 Z = true) : ((Jvm.Cond.arrayClass Jvm.ClassFile.FieldType.char) : Jvm.Cond).before a0 Z = true := hw _ (List.mem_of_getElem? (i := 4) rfl)
theorem wd5 {a0 : Array Value} {Z : State} (hw : ∀ d ∈ tables_1, d.before a0 Z = true) : ((Jvm.Cond.constant "com/example/reckon/reckon/core/RootNamedPinLaw" (77 : Nat) (2147483647 : Int32)) : Jvm.Cond).before a0 Z = true := hw _ (List.mem_of_getElem? (i := 5) rfl)
theorem wd6 {a0 : Array Value} {Z : State} (hw : ∀ d ∈ tables_1, d.before a0 Z = true) : ((Jvm.Cond.classLink "com/example/reckon/reckon/core/RootNamedPinLaw" (22 : Nat) "java/lang/String") : Jvm.Cond).before a0 Z = true := hw _ (List.mem_of_getElem? (i := 6) rfl)
theorem wd7 {a0 : Array Value} {Z : State} (hw : ∀ d ∈ tables_1, d.before a0 Z = true) : ((Jvm.Cond.instantiable "java/lang/String" (4 : Nat)) : Jvm.Cond).before a0 Z = true := hw _ (List.mem_of_getElem? (i := 7) rfl)
theorem wd8 {a0 : Array Value} {Z : State} (hw : ∀ d ∈ tables_1, d.before a0 Z = true) : ((Jvm.Cond.initialized "java/lang/String") : Jvm.Cond).before a0 Z = true := hw _ (List.mem_of_getElem? (i := 8) rfl)
theorem wd9 {a0 : Array Value} {Z : State} (hw : ∀ d ∈ tables_1, d.before a0 Z = true) : ((Jvm.Cond.methodLink "com/example/reckon/reckon/core/RootNamedPinLaw" (29 : Nat) ({ cls := "java/lang/String", name := "<init>", desc := "([C)V" } : Jvm.MethodName)) : Jvm.Cond).before a0 Z = true := hw _ (List.mem_of_getElem? (i := 9) rfl)
theorem wd10 {a0 : Array Value} {Z : State} (hw : ∀ d ∈ tables_1, d.before a0 Z = true) : ((Jvm.Cond.instanceMethod ({ cls := "java/lang/String", name := "<init>", desc := "([C)V" } : Jvm.MethodName)) : Jvm.Cond).before a0 Z = true := hw _ (List.mem_of_getElem? (i := 10) rfl)
theorem wd11 {a0 : Array Value} {Z : State} (hw : ∀ d ∈ tables_1, d.before a0 Z = true) : ((Jvm.Cond.code ({ cls := "java/lang/String", name := "<init>", desc := "([C)V" } : Jvm.MethodName) jdk_42_method_3_code (2 : Nat) (Option.none : Option Jvm.ClassFile.FieldType)) : Jvm.Cond).before a0 Z = true := hw _ (List.mem_of_getElem? (i := 11) rfl)
theorem wd12 {a0 : Array Value} {Z : State} (hw : ∀ d ∈ tables_1, d.before a0 Z = true) : ((Jvm.Cond.methodLink "java/lang/String" (27 : Nat) ({ cls := "java/lang/String", name := "<init>", desc := "([CIILjava/lang/Void;)V" } : Jvm.MethodName)) : Jvm.Cond).before a0 Z = true := hw _ (List.mem_of_getElem? (i := 12) rfl)
theorem wd13 {a0 : Array Value} {Z : State} (hw : ∀ d ∈ tables_1, d.before a0 Z = true) : ((Jvm.Cond.instanceMethod ({ cls := "java/lang/String", name := "<init>", desc := "([CIILjava/lang/Void;)V" } : Jvm.MethodName)) : Jvm.Cond).before a0 Z = true := hw _ (List.mem_of_getElem? (i := 13) rfl)
theorem wd15 {a0 : Array Value} {Z : State} (hw : ∀ d ∈ tables_1, d.before a0 Z = true) : ((Jvm.Cond.code ({ cls := "java/lang/String", name := "<init>", desc := "([CIILjava/lang/Void;)V" } : Jvm.MethodName) jdk_42_method_149_code (6 : Nat) (Option.none : Option Jvm.ClassFile.FieldType)) : Jvm.Cond).before a0 Z = true := hw _ (List.mem_of_getElem? (i := 15) rfl)
theorem wd16 {a0 : Array Value} {Z : State} (hw : ∀ d ∈ tables_1, d.before a0 Z = true) : ((Jvm.Cond.methodLink "java/lang/String" (1 : Nat) ({ cls := "java/lang/Object", name := "<init>", desc := "()V" } : Jvm.MethodName)) : Jvm.Cond).before a0 Z = true := hw _ (List.mem_of_getElem? (i := 16) rfl)
theorem wd17 {a0 : Array Value} {Z : State} (hw : ∀ d ∈ tables_1, d.before a0 Z = true) : ((Jvm.Cond.instanceMethod ({ cls := "java/lang/Object", name := "<init>", desc := "()V" } : Jvm.MethodName)) : Jvm.Cond).before a0 Z = true := hw _ (List.mem_of_getElem? (i := 17) rfl)
theorem wd18 {a0 : Array Value} {Z : State} (hw : ∀ d ∈ tables_1, d.before a0 Z = true) : ((Jvm.Cond.code ({ cls := "java/lang/Object", name := "<init>", desc := "()V" } : Jvm.MethodName) object_method_1_code (1 : Nat) (Option.none : Option Jvm.ClassFile.FieldType)) : Jvm.Cond).before a0 Z = true := hw _ (List.mem_of_getElem? (i := 18) rfl)
theorem wd19 {a0 : Array Value} {Z : State} (hw : ∀ d ∈ tables_1, d.before a0 Z = true) : ((Jvm.Cond.fieldLink "java/lang/String" (38 : Nat) "java/lang/String" "COMPACT_STRINGS" "Z") : Jvm.Cond).before a0 Z = true := hw _ (List.mem_of_getElem? (i := 19) rfl)
theorem wd20 {a0 : Array Value} {Z : State} (hw : ∀ d ∈ tables_1, d.before a0 Z = true) : ((Jvm.Cond.methodLink "java/lang/String" (177 : Nat) ({ cls := "java/lang/StringUTF16", name := "compress", desc := "([CII)[B" } : Jvm.MethodName)) : Jvm.Cond).before a0 Z = true := hw _ (List.mem_of_getElem? (i := 20) rfl)
theorem wd21 {a0 : Array Value} {Z : State} (hw : ∀ d ∈ tables_1, d.before a0 Z = true) : ((Jvm.Cond.static ({ cls := "java/lang/StringUTF16", name := "compress", desc := "([CII)[B" } : Jvm.MethodName)) : Jvm.Cond).before a0 Z = true := hw _ (List.mem_of_getElem? (i := 21) rfl)
theorem wd22 {a0 : Array Value} {Z : State} (hw : ∀ d ∈ tables_1, d.before a0 Z = true) : ((Jvm.Cond.initialized "java/lang/StringUTF16") : Jvm.Cond).before a0 Z = true := hw _ (List.mem_of_getElem? (i := 22) rfl)
theorem wd23 {a0 : Array Value} {Z : State} (hw : ∀ d ∈ tables_1, d.before a0 Z = true) : ((Jvm.Cond.code ({ cls := "java/lang/StringUTF16", name := "compress", desc := "([CII)[B" } : Jvm.MethodName) jdk_52_method_16_code (6 : Nat) (Option.some (Jvm.ClassFile.FieldType.array Jvm.ClassFile.FieldType.byte))) : Jvm.Cond).before a0 Z = true := hw _ (List.mem_of_getElem? (i := 23) rfl)
theorem wd24 {a0 : Array Value} {Z : State} (hw : ∀ d ∈ tables_1, d.before a0 Z = true) : ((Jvm.Cond.arrayClass Jvm.ClassFile.FieldType.byte) : Jvm.Cond).before a0 Z = true := hw _ (List.mem_of_getElem? (i := 24) rfl)
theorem wd25 {a0 : Array Value} {Z : State} (hw : ∀ d ∈ tables_1, d.before a0 Z = true) : ((Jvm.Cond.methodLink "java/lang/StringUTF16" (115 : Nat) ({ cls := "java/lang/StringUTF16", name := "compress", desc := "([CI[BII)I" } : Jvm.MethodName)) : Jvm.Cond).before a0 Z = true := hw _ (List.mem_of_getElem? (i := 25) rfl)
theorem wd26 {a0 : Array Value} {Z : State} (hw : ∀ d ∈ tables_1, d.before a0 Z = true) : ((Jvm.Cond.static ({ cls := "java/lang/StringUTF16", name := "compress", desc := "([CI[BII)I" } : Jvm.MethodName)) : Jvm.Cond).before a0 Z = true := hw _ (List.mem_of_getElem? (i := 26) rfl)
theorem wd27 {a0 : Array Value} {Z : State} (hw : ∀ d ∈ tables_1, d.before a0 Z = true) : ((Jvm.Cond.code ({ cls := "java/lang/StringUTF16", name := "compress", desc := "([CI[BII)I" } : Jvm.MethodName) jdk_52_method_21_code (7 : Nat) (Option.some Jvm.ClassFile.FieldType.int)) : Jvm.Cond).before a0 Z = true := hw _ (List.mem_of_getElem? (i := 27) rfl)
theorem wd28 {a0 : Array Value} {Z : State} (hw : ∀ d ∈ tables_1, d.before a0 Z = true) : ((Jvm.Cond.methodLink "java/lang/String" (47 : Nat) ({ cls := "java/lang/StringUTF16", name := "coderFromArrayLen", desc := "([BI)B" } : Jvm.MethodName)) : Jvm.Cond).before a0 Z = true := hw _ (List.mem_of_getElem? (i := 28) rfl)
theorem wd29 {a0 : Array Value} {Z : State} (hw : ∀ d ∈ tables_1, d.before a0 Z = true) : ((Jvm.Cond.static ({ cls := "java/lang/StringUTF16", name := "coderFromArrayLen", desc := "([BI)B" } : Jvm.MethodName)) : Jvm.Cond).before a0 Z = true := hw _ (List.mem_of_getElem? (i := 29) rfl)
theorem wd30 {a0 : Array Value} {Z : State} (hw : ∀ d ∈ tables_1, d.before a0 Z = true) : ((Jvm.Cond.code ({ cls := "java/lang/StringUTF16", name := "coderFromArrayLen", desc := "([BI)B" } : Jvm.MethodName) jdk_52_method_15_code (2 : Nat) (Option.some Jvm.ClassFile.FieldType.byte)) : Jvm.Cond).before a0 Z = true := hw _ (List.mem_of_getElem? (i := 30) rfl)
theorem wd31 {a0 : Array Value} {Z : State} (hw : ∀ d ∈ tables_1, d.before a0 Z = true) : ((Jvm.Cond.fieldLink "java/lang/String" (15 : Nat) "java/lang/String" "coder" "B") : Jvm.Cond).before a0 Z = true := hw _ (List.mem_of_getElem? (i := 31) rfl)
theorem wd32 {a0 : Array Value} {Z : State} (hw : ∀ d ∈ tables_1, d.before a0 Z = true) : ((Jvm.Cond.laysFinal "java/lang/String" "java/lang/String" "coder" "B") : Jvm.Cond).before a0 Z = true := hw _ (List.mem_of_getElem? (i := 32) rfl)
theorem wd33 {a0 : Array Value} {Z : State} (hw : ∀ d ∈ tables_1, d.before a0 Z = true) : ((Jvm.Cond.fieldLink "java/lang/String" (9 : Nat) "java/lang/String" "value" "[B") : Jvm.Cond).before a0 Z = true := hw _ (List.mem_of_getElem? (i := 33) rfl)
theorem wd34 {a0 : Array Value} {Z : State} (hw : ∀ d ∈ tables_1, d.before a0 Z = true) : ((Jvm.Cond.laysFinal "java/lang/String" "java/lang/String" "value" "[B") : Jvm.Cond).before a0 Z = true := hw _ (List.mem_of_getElem? (i := 34) rfl)
theorem wd35 {a0 : Array Value} {Z : State} (hw : ∀ d ∈ tables_1, d.before a0 Z = true) : ((Jvm.Cond.methodLink "com/example/reckon/reckon/core/RootNamedPinLaw" (35 : Nat) ({ cls := "com/example/reckon/reckon/core/RequestData$Root", name := "named", desc := "(Ljava/lang/String;)Lcom/example/reckon/reckon/core/RequestData$Root;" } : Jvm.MethodName)) : Jvm.Cond).before a0 Z = true := hw _ (List.mem_of_getElem? (i := 35) rfl)
theorem wd36 {a0 : Array Value} {Z : State} (hw : ∀ d ∈ tables_1, d.before a0 Z = true) : ((Jvm.Cond.static ({ cls := "com/example/reckon/reckon/core/RequestData$Root", name := "named", desc := "(Ljava/lang/String;)Lcom/example/reckon/reckon/core/RequestData$Root;" } : Jvm.MethodName)) : Jvm.Cond).before a0 Z = true := hw _ (List.mem_of_getElem? (i := 36) rfl)
theorem wd37 {a0 : Array Value} {Z : State} (hw : ∀ d ∈ tables_1, d.before a0 Z = true) : ((Jvm.Cond.initialized "com/example/reckon/reckon/core/RequestData$Root") : Jvm.Cond).before a0 Z = true := hw _ (List.mem_of_getElem? (i := 37) rfl)
theorem wd38 {a0 : Array Value} {Z : State} (hw : ∀ d ∈ tables_1, d.before a0 Z = true) : ((Jvm.Cond.code ({ cls := "com/example/reckon/reckon/core/RequestData$Root", name := "named", desc := "(Ljava/lang/String;)Lcom/example/reckon/reckon/core/RequestData$Root;" } : Jvm.MethodName) prog_52_method_4_code (6 : Nat) (Option.some (Jvm.ClassFile.FieldType.object "com/example/reckon/reckon/core/RequestData$Root"))) : Jvm.Cond).before a0 Z = true := hw _ (List.mem_of_getElem? (i := 38) rfl)
theorem wd39 {a0 : Array Value} {Z : State} (hw : ∀ d ∈ tables_1, d.before a0 Z = true) : ((Jvm.Cond.methodLink "com/example/reckon/reckon/core/RequestData$Root" (39 : Nat) ({ cls := "com/example/reckon/reckon/core/RequestData$Root", name := "values", desc := "()[Lcom/example/reckon/reckon/core/RequestData$Root;" } : Jvm.MethodName)) : Jvm.Cond).before a0 Z = true := hw _ (List.mem_of_getElem? (i := 39) rfl)
theorem wd40 {a0 : Array Value} {Z : State} (hw : ∀ d ∈ tables_1, d.before a0 Z = true) : ((Jvm.Cond.static ({ cls := "com/example/reckon/reckon/core/RequestData$Root", name := "values", desc := "()[Lcom/example/reckon/reckon/core/RequestData$Root;" } : Jvm.MethodName)) : Jvm.Cond).before a0 Z = true := hw _ (List.mem_of_getElem? (i := 40) rfl)
theorem wd41 {a0 : Array Value} {Z : State} (hw : ∀ d ∈ tables_1, d.before a0 Z = true) : ((Jvm.Cond.code ({ cls := "com/example/reckon/reckon/core/RequestData$Root", name := "values", desc := "()[Lcom/example/reckon/reckon/core/RequestData$Root;" } : Jvm.MethodName) prog_52_method_1_code (0 : Nat) (Option.some (Jvm.ClassFile.FieldType.array (Jvm.ClassFile.FieldType.object "com/example/reckon/reckon/core/RequestData$Root")))) : Jvm.Cond).before a0 Z = true := hw _ (List.mem_of_getElem? (i := 41) rfl)
theorem wd42 {a0 : Array Value} {Z : State} (hw : ∀ d ∈ tables_1, d.before a0 Z = true) : ((Jvm.Cond.fieldLink "com/example/reckon/reckon/core/RequestData$Root" (16 : Nat) "com/example/reckon/reckon/core/RequestData$Root" "$VALUES" "[Lcom/example/reckon/reckon/core/RequestData$Root;") : Jvm.Cond).before a0 Z = true := hw _ (List.mem_of_getElem? (i := 42) rfl)
theorem wd43 {a0 : Array Value} {Z : State} (hw : ∀ d ∈ tables_1, d.before a0 Z = true) : ((Jvm.Cond.laysStatic "com/example/reckon/reckon/core/RequestData$Root" "$VALUES" "[Lcom/example/reckon/reckon/core/RequestData$Root;") : Jvm.Cond).before a0 Z = true := hw _ (List.mem_of_getElem? (i := 43) rfl)
theorem wd44 {a0 : Array Value} {Z : State} (hw : ∀ d ∈ tables_1, d.before a0 Z = true) : ((Jvm.Cond.methodLink "com/example/reckon/reckon/core/RequestData$Root" (20 : Nat) ({ cls := "[Lcom/example/reckon/reckon/core/RequestData$Root;", name := "clone", desc := "()Ljava/lang/Object;" } : Jvm.MethodName)) : Jvm.Cond).before a0 Z = true := hw _ (List.mem_of_getElem? (i := 44) rfl)
theorem wd45 {a0 : Array Value} {Z : State} (hw : ∀ d ∈ tables_1, d.before a0 Z = true) : ((Jvm.Cond.sameMethod "[Lcom/example/reckon/reckon/core/RequestData$Root;" "java/lang/Object" "clone" "()Ljava/lang/Object;") : Jvm.Cond).before a0 Z = true := hw _ (List.mem_of_getElem? (i := 45) rfl)
theorem wd47 {a0 : Array Value} {Z : State} (hw : ∀ d ∈ tables_1, d.before a0 Z = true) : ((Jvm.Cond.instanceMethod ({ cls := "java/lang/Object", name := "clone", desc := "()Ljava/lang/Object;" } : Jvm.MethodName)) : Jvm.Cond).before a0 Z = true := hw _ (List.mem_of_getElem? (i := 47) rfl)
theorem wd48 {a0 : Array Value} {Z : State} (hw : ∀ d ∈ tables_1, d.before a0 Z = true) : ((Jvm.Cond.selects "[Lcom/example/reckon/reckon/core/RequestData$Root;" ({ cls := "[Lcom/example/reckon/reckon/core/RequestData$Root;", name := "clone", desc := "()Ljava/lang/Object;" } : Jvm.MethodName) ({ cls := "java/lang/Object", name := "clone", desc := "()Ljava/lang/Object;" } : Jvm.MethodName)) : Jvm.Cond).before a0 Z = true := hw _ (List.mem_of_getElem? (i := 48) rfl)
theorem wd49 {a0 : Array Value} {Z : State} (hw : ∀ d ∈ tables_1, d.before a0 Z = true) : ((Jvm.Cond.native ({ cls := "java/lang/Object", name := "clone", desc := "()Ljava/lang/Object;" } : Jvm.MethodName)) : Jvm.Cond).before a0 Z = true := hw _ (List.mem_of_getElem? (i := 49) rfl)
theorem wd50 {a0 : Array Value} {Z : State} (hw : ∀ d ∈ tables_1, d.before a0 Z = true) : ((Jvm.Cond.castable "[Lcom/example/reckon/reckon/core/RequestData$Root;" "java/lang/Cloneable") : Jvm.Cond).before a0 Z = true := hw _ (List.mem_of_getElem? (i := 50) rfl)
theorem wd51 {a0 : Array Value} {Z : State} (hw : ∀ d ∈ tables_1, d.before a0 Z = true) : ((Jvm.Cond.laysStatic "com/example/reckon/reckon/core/RequestData$Root" "SUBJECT" "Lcom/example/reckon/reckon/core/RequestData$Root;") : Jvm.Cond).before a0 Z = true := hw _ (List.mem_of_getElem? (i := 51) rfl)
theorem wd52 {a0 : Array Value} {Z : State} (hw : ∀ d ∈ tables_1, d.before a0 Z = true) : ((Jvm.Cond.laysStatic "com/example/reckon/reckon/core/RequestData$Root" "ACTION" "Lcom/example/reckon/reckon/core/RequestData$Root;") : Jvm.Cond).before a0 Z = true := hw _ (List.mem_of_getElem? (i := 52) rfl)
theorem wd53 {a0 : Array Value} {Z : State} (hw : ∀ d ∈ tables_1, d.before a0 Z = true) : ((Jvm.Cond.laysStatic "com/example/reckon/reckon/core/RequestData$Root" "RESOURCE" "Lcom/example/reckon/reckon/core/RequestData$Root;") : Jvm.Cond).before a0 Z = true := hw _ (List.mem_of_getElem? (i := 53) rfl)
theorem wd54 {a0 : Array Value} {Z : State} (hw : ∀ d ∈ tables_1, d.before a0 Z = true) : ((Jvm.Cond.laysStatic "com/example/reckon/reckon/core/RequestData$Root" "CONTEXT" "Lcom/example/reckon/reckon/core/RequestData$Root;") : Jvm.Cond).before a0 Z = true := hw _ (List.mem_of_getElem? (i := 54) rfl)
theorem wd56 {a0 : Array Value} {Z : State} (hw : ∀ d ∈ tables_1, d.before a0 Z = true) : ((Jvm.Cond.classLink "com/example/reckon/reckon/core/RequestData$Root" (21 : Nat) "[Lcom/example/reckon/reckon/core/RequestData$Root;") : Jvm.Cond).before a0 Z = true := hw _ (List.mem_of_getElem? (i := 56) rfl)
theorem wd57 {a0 : Array Value} {Z : State} (hw : ∀ d ∈ tables_1, d.before a0 Z = true) : ((Jvm.Cond.castable "[Lcom/example/reckon/reckon/core/RequestData$Root;" "[Lcom/example/reckon/reckon/core/RequestData$Root;") : Jvm.Cond).before a0 Z = true := hw _ (List.mem_of_getElem? (i := 57) rfl)
theorem wd58 {a0 : Array Value} {Z : State} (hw : ∀ d ∈ tables_1, d.before a0 Z = true) : ((Jvm.Cond.fieldLink "com/example/reckon/reckon/core/RequestData$Root" (35 : Nat) "com/example/reckon/reckon/core/RequestData$Root" "name" "Ljava/lang/String;") : Jvm.Cond).before a0 Z = true := hw _ (List.mem_of_getElem? (i := 58) rfl)
theorem wd60 {a0 : Array Value} {Z : State} (hw : ∀ d ∈ tables_1, d.before a0 Z = true) : ((Jvm.Cond.methodLink "com/example/reckon/reckon/core/RequestData$Root" (43 : Nat) ({ cls := "java/lang/String", name := "equals", desc := "(Ljava/lang/Object;)Z" } : Jvm.MethodName)) : Jvm.Cond).before a0 Z = true := hw _ (List.mem_of_getElem? (i := 60) rfl)
theorem wd61 {a0 : Array Value} {Z : State} (hw : ∀ d ∈ tables_1, d.before a0 Z = true) : ((Jvm.Cond.declares ({ cls := "java/lang/String", name := "equals", desc := "(Ljava/lang/Object;)Z" } : Jvm.MethodName)) : Jvm.Cond).before a0 Z = true := hw _ (List.mem_of_getElem? (i := 61) rfl)
theorem wd62 {a0 : Array Value} {Z : State} (hw : ∀ d ∈ tables_1, d.before a0 Z = true) : ((Jvm.Cond.instanceMethod ({ cls := "java/lang/String", name := "equals", desc := "(Ljava/lang/Object;)Z" } : Jvm.MethodName)) : Jvm.Cond).before a0 Z = true := hw _ (List.mem_of_getElem? (i := 62) rfl)
theorem wd63 {a0 : Array Value} {Z : State} (hw : ∀ d ∈ tables_1, d.before a0 Z = true) : ((Jvm.Cond.selects "java/lang/String" ({ cls := "java/lang/String", name := "equals", desc := "(Ljava/lang/Object;)Z" } : Jvm.MethodName) ({ cls := "java/lang/String", name := "equals", desc := "(Ljava/lang/Object;)Z" } : Jvm.MethodName)) : Jvm.Cond).before a0 Z = true := hw _ (List.mem_of_getElem? (i := 63) rfl)
theorem wd64 {a0 : Array Value} {Z : State} (hw : ∀ d ∈ tables_1, d.before a0 Z = true) : ((Jvm.Cond.code ({ cls := "java/lang/String", name := "equals", desc := "(Ljava/lang/Object;)Z" } : Jvm.MethodName) jdk_42_method_66_code (3 : Nat) (Option.some Jvm.ClassFile.FieldType.boolean)) : Jvm.Cond).before a0 Z = true := hw _ (List.mem_of_getElem? (i := 64) rfl)
theorem wd65 {a0 : Array Value} {Z : State} (hw : ∀ d ∈ tables_1, d.before a0 Z = true) : ((Jvm.Cond.classLink "java/lang/String" (10 : Nat) "java/lang/String") : Jvm.Cond).before a0 Z = true := hw _ (List.mem_of_getElem? (i := 65) rfl)
theorem wd66 {a0 : Array Value} {Z : State} (hw : ∀ d ∈ tables_1, d.before a0 Z = true) : ((Jvm.Cond.methodLink "java/lang/String" (541 : Nat) ({ cls := "java/lang/StringLatin1", name := "equals", desc := "([B[B)Z" } : Jvm.MethodName)) : Jvm.Cond).before a0 Z = true := hw _ (List.mem_of_getElem? (i := 66) rfl)
theorem wd67 {a0 : Array Value} {Z : State} (hw : ∀ d ∈ tables_1, d.before a0 Z = true) : ((Jvm.Cond.static ({ cls := "java/lang/StringLatin1", name := "equals", desc := "([B[B)Z" } : Jvm.MethodName)) : Jvm.Cond).before a0 Z = true := hw _ (List.mem_of_getElem? (i := 67) rfl)
theorem wd68 {a0 : Array Value} {Z : State} (hw : ∀ d ∈ tables_1, d.before a0 Z = true) : ((Jvm.Cond.initialized "java/lang/StringLatin1") : Jvm.Cond).before a0 Z = true := hw _ (List.mem_of_getElem? (i := 68) rfl)
theorem wd69 {a0 : Array Value} {Z : State} (hw : ∀ d ∈ tables_1, d.before a0 Z = true) : ((Jvm.Cond.code ({ cls := "java/lang/StringLatin1", name := "equals", desc := "([B[B)Z" } : Jvm.MethodName) jdk_43_method_13_code (3 : Nat) (Option.some Jvm.ClassFile.FieldType.boolean)) : Jvm.Cond).before a0 Z = true := hw _ (List.mem_of_getElem? (i := 69) rfl)
theorem wd70 {a0 : Array Value} {Z : State} (hw : ∀ d ∈ tables_1, d.before a0 Z = true) : ((Jvm.Cond.methodLink "com/example/reckon/reckon/core/RootNamedPinLaw" (41 : Nat) ({ cls := "com/example/reckon/reckon/core/RootNamedPinLaw", name := "ref", desc := "(Ljava/lang/String;)Lcom/example/reckon/reckon/core/RequestData$Root;" } : Jvm.MethodName)) : Jvm.Cond).before a0 Z = true := hw _ (List.mem_of_getElem? (i := 70) rfl)
theorem wd71 {a0 : Array Value} {Z : State} (hw : ∀ d ∈ tables_1, d.before a0 Z = true) : ((Jvm.Cond.static ({ cls := "com/example/reckon/reckon/core/RootNamedPinLaw", name := "ref", desc := "(Ljava/lang/String;)Lcom/example/reckon/reckon/core/RequestData$Root;" } : Jvm.MethodName)) : Jvm.Cond).before a0 Z = true := hw _ (List.mem_of_getElem? (i := 71) rfl)
theorem wd72 {a0 : Array Value} {Z : State} (hw : ∀ d ∈ tables_1, d.before a0 Z = true) : ((Jvm.Cond.code ({ cls := "com/example/reckon/reckon/core/RootNamedPinLaw", name := "ref", desc := "(Ljava/lang/String;)Lcom/example/reckon/reckon/core/RequestData$Root;" } : Jvm.MethodName) method_3_code (1 : Nat) (Option.some (Jvm.ClassFile.FieldType.object "com/example/reckon/reckon/core/RequestData$Root"))) : Jvm.Cond).before a0 Z = true := hw _ (List.mem_of_getElem? (i := 72) rfl)
theorem wd73 {a0 : Array Value} {Z : State} (hw : ∀ d ∈ tables_1, d.before a0 Z = true) : ((Jvm.Cond.stringLink "com/example/reckon/reckon/core/RootNamedPinLaw" (44 : Nat) "subject") : Jvm.Cond).before a0 Z = true := hw _ (List.mem_of_getElem? (i := 73) rfl)
theorem wd74 {a0 : Array Value} {Z : State} (hw : ∀ d ∈ tables_1, d.before a0 Z = true) : ((Jvm.Cond.soleField "java/lang/String" "value") : Jvm.Cond).before a0 Z = true := hw _ (List.mem_of_getElem? (i := 74) rfl)
theorem wd75 {a0 : Array Value} {Z : State} (hw : ∀ d ∈ tables_1, d.before a0 Z = true) : ((Jvm.Cond.soleField "java/lang/String" "coder") : Jvm.Cond).before a0 Z = true := hw _ (List.mem_of_getElem? (i := 75) rfl)
theorem wd76 {a0 : Array Value} {Z : State} (hw : ∀ d ∈ tables_1, d.before a0 Z = true) : ((Jvm.Cond.methodLink "com/example/reckon/reckon/core/RootNamedPinLaw" (46 : Nat) ({ cls := "java/lang/String", name := "equals", desc := "(Ljava/lang/Object;)Z" } : Jvm.MethodName)) : Jvm.Cond).before a0 Z = true := hw _ (List.mem_of_getElem? (i := 76) rfl)
theorem wd77 {a0 : Array Value} {Z : State} (hw : ∀ d ∈ tables_1, d.before a0 Z = true) : ((Jvm.Cond.stringLink "com/example/reckon/reckon/core/RootNamedPinLaw" (54 : Nat) "action") : Jvm.Cond).before a0 Z = true := hw _ (List.mem_of_getElem? (i := 77) rfl)
theorem wd78 {a0 : Array Value} {Z : State} (hw : ∀ d ∈ tables_1, d.before a0 Z = true) : ((Jvm.Cond.stringLink "com/example/reckon/reckon/core/RootNamedPinLaw" (59 : Nat) "resource") : Jvm.Cond).before a0 Z = true := hw _ (List.mem_of_getElem? (i := 78) rfl)
theorem wd79 {a0 : Array Value} {Z : State} (hw : ∀ d ∈ tables_1, d.before a0 Z = true) : ((Jvm.Cond.stringLink "com/example/reckon/reckon/core/RootNamedPinLaw" (64 : Nat) "context") : Jvm.Cond).before a0 Z = true := hw _ (List.mem_of_getElem? (i := 79) rfl)
theorem wd80 {a0 : Array Value} {Z : State} (hw : ∀ d ∈ tables_1, d.before a0 Z = true) : ((Jvm.Cond.methodLink "com/example/reckon/reckon/core/RootNamedPinLaw" (13 : Nat) ({ cls := "com/example/reckon/reckon/core/RootNamedPinLaw", name := "extended", desc := "(IC)Ljava/lang/String;" } : Jvm.MethodName)) : Jvm.Cond).before a0 Z = true := hw _ (List.mem_of_getElem? (i := 80) rfl)
theorem wd81 {a0 : Array Value} {Z : State} (hw : ∀ d ∈ tables_1, d.before a0 Z = true) : ((Jvm.Cond.static ({ cls := "com/example/reckon/reckon/core/RootNamedPinLaw", name := "extended", desc := "(IC)Ljava/lang/String;" } : Jvm.MethodName)) : Jvm.Cond).before a0 Z = true := hw _ (List.mem_of_getElem? (i := 81) rfl)
theorem wd82 {a0 : Array Value} {Z : State} (hw : ∀ d ∈ tables_1, d.before a0 Z = true) : ((Jvm.Cond.code ({ cls := "com/example/reckon/reckon/core/RootNamedPinLaw", name := "extended", desc := "(IC)Ljava/lang/String;" } : Jvm.MethodName) method_7_code (3 : Nat) (Option.some (Jvm.ClassFile.FieldType.object "java/lang/String"))) : Jvm.Cond).before a0 Z = true := hw _ (List.mem_of_getElem? (i := 82) rfl)
theorem wd83 {a0 : Array Value} {Z : State} (hw : ∀ d ∈ tables_1, d.before a0 Z = true) : ((Jvm.Cond.methodLink "com/example/reckon/reckon/core/RootNamedPinLaw" (32 : Nat) ({ cls := "com/example/reckon/reckon/core/RootNamedPinLaw", name := "name", desc := "(I)Ljava/lang/String;" } : Jvm.MethodName)) : Jvm.Cond).before a0 Z = true := hw _ (List.mem_of_getElem? (i := 83) rfl)
theorem wd84 {a0 : Array Value} {Z : State} (hw : ∀ d ∈ tables_1, d.before a0 Z = true) : ((Jvm.Cond.static ({ cls := "com/example/reckon/reckon/core/RootNamedPinLaw", name := "name", desc := "(I)Ljava/lang/String;" } : Jvm.MethodName)) : Jvm.Cond).before a0 Z = true := hw _ (List.mem_of_getElem? (i := 84) rfl)
theorem wd85 {a0 : Array Value} {Z : State} (hw : ∀ d ∈ tables_1, d.before a0 Z = true) : ((Jvm.Cond.code ({ cls := "com/example/reckon/reckon/core/RootNamedPinLaw", name := "name", desc := "(I)Ljava/lang/String;" } : Jvm.MethodName) method_4_code (1 : Nat) (Option.some (Jvm.ClassFile.FieldType.object "java/lang/String"))) : Jvm.Cond).before a0 Z = true := hw _ (List.mem_of_getElem? (i := 85) rfl)
theorem wd86 {a0 : Array Value} {Z : State} (hw : ∀ d ∈ tables_1, d.before a0 Z = true) : ((Jvm.Cond.fieldLink "com/example/reckon/reckon/core/RootNamedPinLaw" (61 : Nat) "com/example/reckon/reckon/core/RequestData$Root" "RESOURCE" "Lcom/example/reckon/reckon/core/RequestData$Root;") : Jvm.Cond).before a0 Z = true := hw _ (List.mem_of_getElem? (i := 86) rfl)
theorem wd87 {a0 : Array Value} {Z : State} (hw : ∀ d ∈ tables_1, d.before a0 Z = true) : ((Jvm.Cond.fieldLink "com/example/reckon/reckon/core/RootNamedPinLaw" (56 : Nat) "com/example/reckon/reckon/core/RequestData$Root" "ACTION" "Lcom/example/reckon/reckon/core/RequestData$Root;") : Jvm.Cond).before a0 Z = true := hw _ (List.mem_of_getElem? (i := 87) rfl)
theorem wd88 {a0 : Array Value} {Z : State} (hw : ∀ d ∈ tables_1, d.before a0 Z = true) : ((Jvm.Cond.methodLink "com/example/reckon/reckon/core/RootNamedPinLaw" (21 : Nat) ({ cls := "java/lang/String", name := "valueOf", desc := "(C)Ljava/lang/String;" } : Jvm.MethodName)) : Jvm.Cond).before a0 Z = true := hw _ (List.mem_of_getElem? (i := 88) rfl)
theorem wd89 {a0 : Array Value} {Z : State} (hw : ∀ d ∈ tables_1, d.before a0 Z = true) : ((Jvm.Cond.static ({ cls := "java/lang/String", name := "valueOf", desc := "(C)Ljava/lang/String;" } : Jvm.MethodName)) : Jvm.Cond).before a0 Z = true := hw _ (List.mem_of_getElem? (i := 89) rfl)
theorem wd90 {a0 : Array Value} {Z : State} (hw : ∀ d ∈ tables_1, d.before a0 Z = true) : ((Jvm.Cond.code ({ cls := "java/lang/String", name := "valueOf", desc := "(C)Ljava/lang/String;" } : Jvm.MethodName) jdk_42_method_139_code (1 : Nat) (Option.some (Jvm.ClassFile.FieldType.object "java/lang/String"))) : Jvm.Cond).before a0 Z = true := hw _ (List.mem_of_getElem? (i := 90) rfl)
theorem wd91 {a0 : Array Value} {Z : State} (hw : ∀ d ∈ tables_1, d.before a0 Z = true) : ((Jvm.Cond.methodLink "java/lang/String" (1015 : Nat) ({ cls := "java/lang/StringLatin1", name := "canEncode", desc := "(C)Z" } : Jvm.MethodName)) : Jvm.Cond).before a0 Z = true := hw _ (List.mem_of_getElem? (i := 91) rfl)
theorem wd92 {a0 : Array Value} {Z : State} (hw : ∀ d ∈ tables_1, d.before a0 Z = true) : ((Jvm.Cond.static ({ cls := "java/lang/StringLatin1", name := "canEncode", desc := "(C)Z" } : Jvm.MethodName)) : Jvm.Cond).before a0 Z = true := hw _ (List.mem_of_getElem? (i := 92) rfl)
theorem wd93 {a0 : Array Value} {Z : State} (hw : ∀ d ∈ tables_1, d.before a0 Z = true) : ((Jvm.Cond.code ({ cls := "java/lang/StringLatin1", name := "canEncode", desc := "(C)Z" } : Jvm.MethodName) jdk_43_method_3_code (1 : Nat) (Option.some Jvm.ClassFile.FieldType.boolean)) : Jvm.Cond).before a0 Z = true := hw _ (List.mem_of_getElem? (i := 93) rfl)
theorem wd94 {a0 : Array Value} {Z : State} (hw : ∀ d ∈ tables_1, d.before a0 Z = true) : ((Jvm.Cond.methodLink "java/lang/String" (1018 : Nat) ({ cls := "java/lang/StringLatin1", name := "toBytes", desc := "(C)[B" } : Jvm.MethodName)) : Jvm.Cond).before a0 Z = true := hw _ (List.mem_of_getElem? (i := 94) rfl)
theorem wd95 {a0 : Array Value} {Z : State} (hw : ∀ d ∈ tables_1, d.before a0 Z = true) : ((Jvm.Cond.static ({ cls := "java/lang/StringLatin1", name := "toBytes", desc := "(C)[B" } : Jvm.MethodName)) : Jvm.Cond).before a0 Z = true := hw _ (List.mem_of_getElem? (i := 95) rfl)
theorem wd96 {a0 : Array Value} {Z : State} (hw : ∀ d ∈ tables_1, d.before a0 Z = true) : ((Jvm.Cond.code ({ cls := "java/lang/StringLatin1", name := "toBytes", desc := "(C)[B" } : Jvm.MethodName) jdk_43_method_46_code (1 : Nat) (Option.some (Jvm.ClassFile.FieldType.array Jvm.ClassFile.FieldType.byte))) : Jvm.Cond).before a0 Z = true := hw _ (List.mem_of_getElem? (i := 96) rfl)
theorem wd97 {a0 : Array Value} {Z : State} (hw : ∀ d ∈ tables_1, d.before a0 Z = true) : ((Jvm.Cond.methodLink "java/lang/String" (209 : Nat) ({ cls := "java/lang/String", name := "<init>", desc := "([BB)V" } : Jvm.MethodName)) : Jvm.Cond).before a0 Z = true := hw _ (List.mem_of_getElem? (i := 97) rfl)
theorem wd98 {a0 : Array Value} {Z : State} (hw : ∀ d ∈ tables_1, d.before a0 Z = true) : ((Jvm.Cond.instanceMethod ({ cls := "java/lang/String", name := "<init>", desc := "([BB)V" } : Jvm.MethodName)) : Jvm.Cond).before a0 Z = true := hw _ (List.mem_of_getElem? (i := 98) rfl)
theorem wd99 {a0 : Array Value} {Z : State} (hw : ∀ d ∈ tables_1, d.before a0 Z = true) : ((Jvm.Cond.code ({ cls := "java/lang/String", name := "<init>", desc := "([BB)V" } : Jvm.MethodName) jdk_42_method_151_code (3 : Nat) (Option.none : Option Jvm.ClassFile.FieldType)) : Jvm.Cond).before a0 Z = true := hw _ (List.mem_of_getElem? (i := 99) rfl)
theorem wd100 {a0 : Array Value} {Z : State} (hw : ∀ d ∈ tables_1, d.before a0 Z = true) : ((Jvm.Cond.fieldLink "com/example/reckon/reckon/core/RootNamedPinLaw" (66 : Nat) "com/example/reckon/reckon/core/RequestData$Root" "CONTEXT" "Lcom/example/reckon/reckon/core/RequestData$Root;") : Jvm.Cond).before a0 Z = true := hw _ (List.mem_of_getElem? (i := 100) rfl)
theorem wd101 {a0 : Array Value} {Z : State} (hw : ∀ d ∈ tables_1, d.before a0 Z = true) : ((Jvm.Cond.fieldLink "com/example/reckon/reckon/core/RootNamedPinLaw" (50 : Nat) "com/example/reckon/reckon/core/RequestData$Root" "SUBJECT" "Lcom/example/reckon/reckon/core/RequestData$Root;") : Jvm.Cond).before a0 Z = true := hw _ (List.mem_of_getElem? (i := 101) rfl)
theorem wd102 {a0 : Array Value} {Z : State} (hw : ∀ d ∈ tables_1, d.before a0 Z = true) : ((Jvm.Cond.methodLink "com/example/reckon/reckon/core/RootNamedPinLaw" (17 : Nat) ({ cls := "com/example/reckon/reckon/core/RootNamedPinLaw", name := "truncated", desc := "(I)Ljava/lang/String;" } : Jvm.MethodName)) : Jvm.Cond).before a0 Z = true := hw _ (List.mem_of_getElem? (i := 102) rfl)
theorem wd103 {a0 : Array Value} {Z : State} (hw : ∀ d ∈ tables_1, d.before a0 Z = true) : ((Jvm.Cond.static ({ cls := "com/example/reckon/reckon/core/RootNamedPinLaw", name := "truncated", desc := "(I)Ljava/lang/String;" } : Jvm.MethodName)) : Jvm.Cond).before a0 Z = true := hw _ (List.mem_of_getElem? (i := 103) rfl)
theorem wd104 {a0 : Array Value} {Z : State} (hw : ∀ d ∈ tables_1, d.before a0 Z = true) : ((Jvm.Cond.code ({ cls := "com/example/reckon/reckon/core/RootNamedPinLaw", name := "truncated", desc := "(I)Ljava/lang/String;" } : Jvm.MethodName) method_5_code (1 : Nat) (Option.some (Jvm.ClassFile.FieldType.object "java/lang/String"))) : Jvm.Cond).before a0 Z = true := hw _ (List.mem_of_getElem? (i := 104) rfl)
theorem wd105 {a0 : Array Value} {Z : State} (hw : ∀ d ∈ tables_1, d.before a0 Z = true) : ((Jvm.Cond.stringLink "com/example/reckon/reckon/core/RootNamedPinLaw" (69 : Nat) "subjec") : Jvm.Cond).before a0 Z = true := hw _ (List.mem_of_getElem? (i := 105) rfl)
theorem wd106 {a0 : Array Value} {Z : State} (hw : ∀ d ∈ tables_1, d.before a0 Z = true) : ((Jvm.Cond.stringLink "com/example/reckon/reckon/core/RootNamedPinLaw" (75 : Nat) "contex") : Jvm.Cond).before a0 Z = true := hw _ (List.mem_of_getElem? (i := 106) rfl)
theorem wd107 {a0 : Array Value} {Z : State} (hw : ∀ d ∈ tables_1, d.before a0 Z = true) : ((Jvm.Cond.stringLink "com/example/reckon/reckon/core/RootNamedPinLaw" (71 : Nat) "actio") : Jvm.Cond).before a0 Z = true := hw _ (List.mem_of_getElem? (i := 107) rfl)
theorem wd108 {a0 : Array Value} {Z : State} (hw : ∀ d ∈ tables_1, d.before a0 Z = true) : ((Jvm.Cond.stringLink "com/example/reckon/reckon/core/RootNamedPinLaw" (27 : Nat) "") : Jvm.Cond).before a0 Z = true := hw _ (List.mem_of_getElem? (i := 108) rfl)
theorem wd109 {a0 : Array Value} {Z : State} (hw : ∀ d ∈ tables_1, d.before a0 Z = true) : ((Jvm.Cond.stringLink "com/example/reckon/reckon/core/RootNamedPinLaw" (73 : Nat) "resourc") : Jvm.Cond).before a0 Z = true := hw _ (List.mem_of_getElem? (i := 109) rfl)
theorem strW {a0 : Array Value} {Z : State} (hw : ∀ d ∈ tables_1, d.before a0 Z = true) : ∀ d ∈ Bundle.stringAtoms, d.before a0 Z = true := fun d hd => by
  simp only [Bundle.stringAtoms, List.mem_cons, List.not_mem_nil, or_false] at hd
  rcases hd with rfl | rfl | rfl | rfl | rfl | rfl | rfl
  · exact (wd8 hw)
  · exact (wd7 hw)
  · exact (wd24 hw)
  · exact (wd34 hw)
  · exact (wd32 hw)
  · exact (wd74 hw)
  · exact (wd75 hw)
set_option maxRecDepth 65536 in
set_option maxHeartbeats 40000000 in
theorem m_leqL (l : Launch) (Z : State) (a0 : Array Value) (hw : ∀ d ∈ tables_1, d.before a0 Z = true) (hB : Heap) (H : List Rec) (va vb : Addr) (xs ys : List Int32) (A : Wk.AB Z hB H va xs) (B : Wk.AB Z hB H vb ys) (hl : xs.length = ys.length) : ∀ (m k : Nat), k + m = xs.length → xs.take k = ys.take k → WP (l, consts_1) Z hB ({ cls := "java/lang/StringLatin1", name := "equals", desc := "([B[B)Z" } : Jvm.MethodName) jdk_43_method_13_code 3 (some .boolean) ({ frames := 0, cells := 0, slots := 0, locals := 0 } : Room) H.length (fun v H' => v = some (.int (if xs = ys then 1 else 0)) ∧ H' = H) 0 H 9 #[.val (.ref va), .val (.ref vb), .val (.int k.toInt32)] [] := by
  intro m
  induction m with
  | zero =>
    intro k hk ht
    obtain rfl : k = xs.length := by omega
    have he : xs = ys := by rw [List.take_of_length_le (Nat.le_refl _), List.take_of_length_le (by omega)] at ht; exact ht
    refine Wk.iloadN (pc' := 10) d10_9 rfl rfl ?_
    refine Wk.aloadN (pc' := 11) d10_10 rfl rfl rfl ?_
    refine Wk.arrLenQ (pc' := 12) d10_11 (fun h P => A.2 h P.q) rfl ?_
    refine Wk.icY (pc' := 32) d10_12 (XT.ii_ge_t (Wk.nlt32 _)) (by decide) (by decide) ?_
    refine Wk.iconst (pc' := 33) (1 : Int32) d10_32 (by decide) rfl ?_
    exact Wk.iret (t := .boolean) d10_33 rfl (by simp) rfl (by first | (simp only [List.length_append, List.length_cons, List.length_nil] <;> omega) | simp) (Nat.le_of_ble_eq_true rfl) ⟨congrArg (fun z => some (Value.int z)) (if_pos he).symm, rfl⟩
  | succ m ih =>
    intro k hk ht
    have hk31 : k < 2 ^ 31 := by have := A.1; omega
    obtain ⟨cx, hcx⟩ : ∃ c, xs[k]? = some c := ⟨_, List.getElem?_eq_getElem (by omega)⟩
    obtain ⟨cy, hcy⟩ : ∃ c, ys[k]? = some c := ⟨_, List.getElem?_eq_getElem (by omega)⟩
    refine Wk.iloadN (pc' := 10) d10_9 rfl rfl ?_
    refine Wk.aloadN (pc' := 11) d10_10 rfl rfl rfl ?_
    refine Wk.arrLenQ (pc' := 12) d10_11 (fun h P => A.2 h P.q) rfl ?_
    refine Wk.icN (pc' := 15) d10_12 (XT.ii_ge_f (Wk.lt32 A.1 (by omega))) rfl ?_
    refine Wk.aloadN (pc' := 16) d10_15 rfl rfl rfl ?_
    refine Wk.iloadN (pc' := 17) d10_16 rfl rfl ?_
    refine Wk.baloadQ (pc' := 18) (v := (.int cx)) d10_17 (fun h P => A.2 h P.q) (Wk.nneg32 hk31) (Wk.lt32 A.1 (by omega)) (by rw [Wk.clamp32 hk31, List.getD_eq_getElem?_getD, List.getElem?_map, hcx]; rfl) rfl ?_
    refine Wk.aloadN (pc' := 19) d10_18 rfl rfl rfl ?_
    refine Wk.iloadN (pc' := 20) d10_19 rfl rfl ?_
    refine Wk.baloadQ (pc' := 21) (v := (.int cy)) d10_20 (fun h P => B.2 h P.q) (Wk.nneg32 hk31) (Wk.lt32 B.1 (by omega)) (by rw [Wk.clamp32 hk31, List.getD_eq_getElem?_getD, List.getElem?_map, hcy]; rfl) rfl ?_
    by_cases hc1 : cx = cy
    ·
      refine Wk.icY (pc' := 26) d10_21 (XT.ii_eq_t hc1) (by decide) (by decide) ?_
      refine Wk.iinc (pc' := 29) (Ls' := #[.val (.ref va), .val (.ref vb), .val (.int (k + 1).toInt32)]) ((k + 1).toInt32) d10_26 rfl (Wk.inc1 k) rfl rfl ?_
      refine Wk.goTo (pc' := 9) d10_29 (by decide) (by decide) ?_
      exact ih (k + 1) (by omega) (Wk.takeS hcx hcy hc1 ht)
    ·
      refine Wk.icN (pc' := 24) d10_21 (XT.ii_eq_f hc1) rfl ?_
      refine Wk.iconst (pc' := 25) (0 : Int32) d10_24 (by decide) rfl ?_
      exact Wk.iret (t := .boolean) d10_25 rfl (by simp) rfl (by first | (simp only [List.length_append, List.length_cons, List.length_nil] <;> omega) | simp) (Nat.le_of_ble_eq_true rfl) ⟨congrArg (fun z => some (Value.int z)) (if_neg (fun he => hc1 (by subst he; exact Option.some.inj (hcx.symm.trans hcy)))).symm, rfl⟩
set_option maxRecDepth 65536 in
set_option maxHeartbeats 40000000 in
theorem m_leq (l : Launch) (Z : State) (a0 : Array Value) (hw : ∀ d ∈ tables_1, d.before a0 Z = true) (hB : Heap) (H : List Rec) (va vb : Addr) (xs ys : List Int32) (A : Wk.AB Z hB H va xs) (B : Wk.AB Z hB H vb ys) : Ctr (l, consts_1) Z hB ({ cls := "java/lang/StringLatin1", name := "equals", desc := "([B[B)Z" } : Jvm.MethodName) jdk_43_method_13_code 3 (some .boolean) [] ({ frames := 0, cells := 0, slots := 0, locals := 0 } : Room) #[(.ref va), (.ref vb)] H (fun v H' => v = some (.int (if xs = ys then 1 else 0)) ∧ H' = H) := by
  refine Wk.ctr pn_0 (Ls := #[.val (.ref va), .val (.ref vb), .unset]) (fun m => by first | rfl | (simp [entryFrame, mkF, argsToLocals, Value.category]; done)) ?_
  refine Wk.aloadN (pc' := 1) d10_0 rfl rfl rfl ?_
  refine Wk.arrLenQ (pc' := 2) d10_1 (fun h P => A.2 h P.q) rfl ?_
  refine Wk.aloadN (pc' := 3) d10_2 rfl rfl rfl ?_
  refine Wk.arrLenQ (pc' := 4) d10_3 (fun h P => B.2 h P.q) rfl ?_
  by_cases hc1 : xs.length.toInt32 = ys.length.toInt32
  ·
    refine Wk.icN (pc' := 7) d10_4 (XT.ii_ne_f hc1) rfl ?_
    refine Wk.iconst (pc' := 8) (0 : Int32) d10_7 (by decide) rfl ?_
    refine Wk.istoreN (pc' := 9) (Ls' := #[.val (.ref va), .val (.ref vb), .val (.int (0 : Int32))]) d10_8 rfl rfl ?_
    exact m_leqL l Z a0 hw hB H va vb xs ys A B (Wk.eq32 A.1 B.1 hc1) xs.length 0 (by omega) rfl
  ·
    refine Wk.icY (pc' := 34) d10_4 (XT.ii_ne_t hc1) (by decide) (by decide) ?_
    refine Wk.iconst (pc' := 35) (0 : Int32) d10_34 (by decide) rfl ?_
    exact Wk.iret (t := .boolean) d10_35 rfl (by simp) rfl (by first | (simp only [List.length_append, List.length_cons, List.length_nil] <;> omega) | simp) (Nat.le_of_ble_eq_true rfl) ⟨congrArg (fun z => some (Value.int z)) (if_neg (fun he => hc1 (by rw [he]))).symm, rfl⟩
set_option maxRecDepth 65536 in
set_option maxHeartbeats 40000000 in
theorem m_seq (l : Launch) (Z : State) (a0 : Array Value) (hw : ∀ d ∈ tables_1, d.before a0 Z = true) (hB : Heap) (H : List Rec) (ck : Int32) (sC : Sta Z hB "java/lang/String" "COMPACT_STRINGS" "Z" (.int ck)) (hck : ¬ ck = 0) (a b : Addr) (xs ys : List Int32) (A : Wk.SL Z hB H a xs) (B : Wk.SL Z hB H b ys) : Ctr (l, consts_1) Z hB ({ cls := "java/lang/String", name := "equals", desc := "(Ljava/lang/Object;)Z" } : Jvm.MethodName) jdk_42_method_66_code 3 (some .boolean) [] ({ frames := 1, cells := 0, slots := 0, locals := 14 } : Room) #[(.ref a), (.ref b)] H (fun v H' => v = some (.int (if xs = ys then 1 else 0)) ∧ H' = H) := by
  refine Wk.ctr pn_1 (Ls := #[.val (.ref a), .val (.ref b), .unset]) (fun m => by first | rfl | (simp [entryFrame, mkF, argsToLocals, Value.category]; done)) ?_
  obtain ⟨va, SA, AA⟩ := id A
  obtain ⟨vb, SB, BB⟩ := id B
  refine Wk.aloadN (pc' := 1) d9_0 rfl rfl rfl ?_
  refine Wk.aloadN (pc' := 2) d9_1 rfl rfl rfl ?_
  by_cases hab : a = b
  ·
    obtain rfl := hab
    refine Wk.acN (pc' := 5) d9_2 rfl rfl (XT.aa_ne_f rfl) rfl ?_
    refine Wk.WP.getH (fun h P => ?_)
    rw [if_pos (Wk.SL.uniq P.q A B)]
    refine Wk.iconst (pc' := 6) (1 : Int32) d9_5 (by decide) rfl ?_
    exact Wk.iret (t := .boolean) d9_6 rfl (by simp) rfl (by first | (simp only [List.length_append, List.length_cons, List.length_nil] <;> omega) | simp) (Nat.le_of_ble_eq_true rfl) ⟨rfl, rfl⟩
  ·
    refine Wk.acY (pc' := 7) d9_2 rfl rfl (XT.aa_ne_t (fun q => hab (Value.ref.inj q))) (by decide) (by decide) ?_
    refine Wk.aloadN (pc' := 8) d9_7 rfl rfl rfl ?_
    refine Wk.instYes (pc' := 11) d9_8 (wd65 hw) (fun _ P => Ins.self (SB _ P.q).1) rfl ?_
    refine Wk.ifN (pc' := 14) d9_11 (XT.i0_eq_f (by decide)) rfl ?_
    refine Wk.aloadN (pc' := 15) d9_14 rfl rfl rfl ?_
    refine Wk.castTo (pc' := 18) d9_15 (wd65 hw) (fun _ P => Ins.self (SB _ P.q).1) rfl ?_
    refine Wk.astoreN (pc' := 19) (Ls' := #[.val (.ref a), .val (.ref b), .val (.ref b)]) d9_18 rfl rfl rfl ?_
    refine Wk.getSt (pc' := 22) d9_19 (wd19 hw) sC rfl ?_
    refine Wk.ifN (pc' := 25) d9_22 (XT.i0_eq_f hck) rfl ?_
    refine Wk.aloadN (pc' := 26) d9_25 rfl rfl rfl ?_
    refine Wk.getFl (pc' := 29) (host := "") d9_26 (Or.inl (wd31 hw)) Via.refl (fun _ P => (SA _ P.q).2.1) rfl ?_
    refine Wk.aloadN (pc' := 30) d9_29 rfl rfl rfl ?_
    refine Wk.getFl (pc' := 33) (host := "") d9_30 (Or.inl (wd31 hw)) Via.refl (fun _ P => (SB _ P.q).2.1) rfl ?_
    refine Wk.icN (pc' := 36) d9_33 (XT.ii_ne_f rfl) rfl ?_
    refine Wk.aloadN (pc' := 37) d9_36 rfl rfl rfl ?_
    refine Wk.getFl (pc' := 40) (host := "") d9_37 (Or.inl (wd33 hw)) Via.refl (fun _ P => (SA _ P.q).2.2) rfl ?_
    refine Wk.aloadN (pc' := 41) d9_40 rfl rfl rfl ?_
    refine Wk.getFl (pc' := 44) (host := "") d9_41 (Or.inl (wd33 hw)) Via.refl (fun _ P => (SB _ P.q).2.2) rfl ?_
    refine Wk.callS (pc' := 47) (argsL := [(.ref va), (.ref vb)]) (st := []) d9_44 (wd66 hw) (wd67 hw) (wd68 hw) (wd69 hw) (by decide) (lenOf pd_0 rfl) (m_leq l Z a0 hw hB H va vb xs ys AA BB) rfl (Nat.le_of_ble_eq_true rfl) (Nat.le_of_ble_eq_true rfl) (by first | (simp only [List.length_append, List.length_cons, List.length_nil] <;> omega) | simp) (Nat.le_of_ble_eq_true rfl) rfl rfl ?_
    rintro _ _ ⟨rfl, hH⟩; obtain rfl := hH.symm
    show WP (l, consts_1) Z hB _ _ _ _ _ _ _ _ H _ _ [(.int (if xs = ys then 1 else 0))]
    by_cases he : xs = ys
    ·
      rw [if_pos he]
      refine Wk.ifN (pc' := 50) d9_47 (XT.i0_eq_f (by decide)) rfl ?_
      refine Wk.iconst (pc' := 51) (1 : Int32) d9_50 (by decide) rfl ?_
      refine Wk.goTo (pc' := 55) d9_51 (by decide) (by decide) ?_
      exact Wk.iret (t := .boolean) d9_55 rfl (by simp) rfl (by first | (simp only [List.length_append, List.length_cons, List.length_nil] <;> omega) | simp) (Nat.le_of_ble_eq_true rfl) ⟨rfl, rfl⟩
    ·
      rw [if_neg he]
      refine Wk.ifY (pc' := 54) d9_47 (XT.i0_eq_t rfl) (by decide) (by decide) ?_
      refine Wk.iconst (pc' := 55) (0 : Int32) d9_54 (by decide) rfl ?_
      exact Wk.iret (t := .boolean) d9_55 rfl (by simp) rfl (by first | (simp only [List.length_append, List.length_cons, List.length_nil] <;> omega) | simp) (Nat.le_of_ble_eq_true rfl) ⟨rfl, rfl⟩
abbrev ksS : List Key := [("java/lang/String", "coder", "B"), ("java/lang/String", "value", "[B")]
theorem ksS_laidk {a0 : Array Value} {Z : State} (hw : ∀ d ∈ tables_1, d.before a0 Z = true) : ∀ (i : Nat) (k : Key), ksS[i]? = some k → Laid Z a0 "java/lang/String" k.1 k.2.1 k.2.2
  | 0, _, rfl => (Or.inr (wd32 hw))
  | 1, _, rfl => (Or.inr (wd34 hw))
  | i + 2, k, h => by simp at h
theorem ksS_laid {a0 : Array Value} {Z : State} (hw : ∀ d ∈ tables_1, d.before a0 Z = true) : ∀ (i : Nat) (k : Key) (v : Value), ksS[i]? = some k → ([(.int (0 : Int32)), .null] : List Value)[i]? = some v → Laid Z a0 "java/lang/String" k.1 k.2.1 k.2.2 ∧ ∃ ty, parseFieldDescriptor k.2.2 = some ty ∧ v = defaultValue ty
  | 0, _, _, rfl, rfl => ⟨ksS_laidk hw 0 _ rfl, .byte, by decide, rfl⟩
  | 1, _, _, rfl, rfl => ⟨ksS_laidk hw 1 _ rfl, (.array .byte), by decide, rfl⟩
  | i + 2, k, v, h, _ => by simp at h
theorem ksS_dist {a0 : Array Value} {Z : State} (hw : ∀ d ∈ tables_1, d.before a0 Z = true) (i j : Nat) (k k' : Key) (h1 : ksS[i]? = some k) (h2 : ksS[j]? = some k') (hne : i ≠ j) : kslot Z k ≠ kslot Z k' :=
  distK (C := "java/lang/String") (ksS_laidk hw) (by decide) (by decide) i j k k' h1 h2 hne
set_option maxRecDepth 65536 in
set_option maxHeartbeats 40000000 in
theorem m_cmpL (l : Launch) (Z : State) (a0 : Array Value) (hw : ∀ d ∈ tables_1, d.before a0 Z = true) (hB : Heap) (H : List Rec) (i j : Nat) (cs : List Int32) (hcs : ∀ c ∈ cs, ¬ (255 : Int32) < c) (hl : cs.length ≤ 16) (hi : H[i]? = some (arr .char (cs.map Value.int))) (X : List Value) (hj : H[j]? = some (arr .byte X)) (hij : i ≠ j) : ∀ (m k : Nat) (s6 : Slot) (h6 : s6 = .unset ∨ ∃ w, s6 = .val w ∧ w.category = 1), k + m = cs.length → WP (l, consts_1) Z hB ({ cls := "java/lang/StringUTF16", name := "compress", desc := "([CI[BII)I" } : Jvm.MethodName) jdk_52_method_21_code 7 (some .int) ({ frames := 0, cells := 0, slots := 0, locals := 0 } : Room) H.length (fun v H' => v = some (.int cs.length.toInt32) ∧ H' = H.set j (arr .byte (((cs.map fun c => c.toInt8.toInt32)).map Value.int))) 0 (H.set j (arr .byte (Wk.preB cs k))) 3 #[.val (rf hB i), .val (.int k.toInt32), .val (rf hB j), .val (.int k.toInt32), .val (.int cs.length.toInt32), .val (.int k.toInt32), s6] [] := by
  intro m
  induction m with
  | zero =>
    intro k s6 h6 hk
    obtain rfl : k = cs.length := by omega
    rw [Wk.preB_all]
    refine Wk.iload (pc' := 5) d5_3 rfl rfl ?_
    refine Wk.iload (pc' := 7) d5_5 rfl rfl ?_
    refine Wk.icY (pc' := 44) d5_7 (XT.ii_ge_t (Wk.nlt32 _)) (by decide) (by decide) ?_
    refine Wk.iload (pc' := 46) d5_44 rfl rfl ?_
    exact Wk.iret (t := .int) d5_46 rfl (by simp) rfl (by rw [List.length_set]; omega) (Nat.le_of_ble_eq_true rfl) ⟨rfl, rfl⟩
  | succ m ih =>
    intro k s6 h6 hk
    have hk31 : k < 2 ^ 31 := by omega
    obtain ⟨cx, hcx⟩ : ∃ c, cs[k]? = some c := ⟨_, List.getElem?_eq_getElem (by omega)⟩
    refine Wk.iload (pc' := 5) d5_3 rfl rfl ?_
    refine Wk.iload (pc' := 7) d5_5 rfl rfl ?_
    refine Wk.icN (pc' := 10) d5_7 (XT.ii_ge_f (Wk.lt32 (by omega) (by omega))) rfl ?_
    refine Wk.aloadN (pc' := 11) d5_10 rfl rfl rfl ?_
    refine Wk.iloadN (pc' := 12) d5_11 rfl rfl ?_
    refine Wk.caload (pc' := 13) (i := i) (jn := k) (v := (.int cx)) d5_12 (gsN (Ne.symm hij) hi) (Wk.nneg32 hk31) (Wk.clamp32 hk31) (by rw [List.getElem?_map, hcx]; rfl) rfl ?_
    refine Wk.istore (pc' := 15) (Ls' := #[.val (rf hB i), .val (.int k.toInt32), .val (rf hB j), .val (.int k.toInt32), .val (.int cs.length.toInt32), .val (.int k.toInt32), .val (.int cx)]) d5_13 (XS.store1 rfl h6 rfl) rfl ?_
    refine Wk.iload (pc' := 17) d5_15 rfl rfl ?_
    refine Wk.sipush (pc' := 20) (255 : Int32) d5_17 (by decide) rfl ?_
    refine Wk.icY (pc' := 26) d5_20 (XT.ii_le_t (hcs cx (List.mem_of_getElem? hcx))) (by decide) (by decide) ?_
    refine Wk.aloadN (pc' := 27) d5_26 rfl rfl rfl ?_
    refine Wk.iloadN (pc' := 28) d5_27 rfl rfl ?_
    refine Wk.iload (pc' := 30) d5_28 rfl rfl ?_
    refine Wk.i2b (pc' := 31) d5_30 rfl ?_
    refine Wk.bastore (pc' := 32) (i := j) (jn := k) (H' := (H.set j (arr .byte (Wk.preB cs (k + 1))))) d5_31 (gsE hj) (Wk.nneg32 hk31) (Wk.clamp32 hk31) (by rw [Wk.preB_len cs (by omega)]; omega) (by rw [List.set_set, Wk.preB_step hcx]) rfl ?_
    refine Wk.iinc (pc' := 35) (Ls' := #[.val (rf hB i), .val (.int (k + 1).toInt32), .val (rf hB j), .val (.int k.toInt32), .val (.int cs.length.toInt32), .val (.int k.toInt32), .val (.int cx)]) ((k + 1).toInt32) d5_32 rfl (Wk.inc1 k) rfl rfl ?_
    refine Wk.iinc (pc' := 38) (Ls' := #[.val (rf hB i), .val (.int (k + 1).toInt32), .val (rf hB j), .val (.int (k + 1).toInt32), .val (.int cs.length.toInt32), .val (.int k.toInt32), .val (.int cx)]) ((k + 1).toInt32) d5_35 rfl (Wk.inc1 k) rfl rfl ?_
    refine Wk.iinc (pc' := 41) (Ls' := #[.val (rf hB i), .val (.int (k + 1).toInt32), .val (rf hB j), .val (.int (k + 1).toInt32), .val (.int cs.length.toInt32), .val (.int (k + 1).toInt32), .val (.int cx)]) ((k + 1).toInt32) d5_38 rfl (Wk.inc1 k) rfl rfl ?_
    refine Wk.goTo (pc' := 3) d5_41 (by decide) (by decide) ?_
    exact ih (k + 1) _ (Or.inr ⟨_, rfl, rfl⟩) (by omega)
set_option maxRecDepth 65536 in
set_option maxHeartbeats 40000000 in
theorem m_cmp1 (l : Launch) (Z : State) (a0 : Array Value) (hw : ∀ d ∈ tables_1, d.before a0 Z = true) (hB : Heap) (H : List Rec) (i j : Nat) (cs : List Int32) (hcs : ∀ c ∈ cs, ¬ (255 : Int32) < c) (hl : cs.length ≤ 16) (hi : H[i]? = some (arr .char (cs.map Value.int))) (X : List Value) (hj : H[j]? = some (arr .byte X)) (hij : i ≠ j) (hX : X = List.replicate cs.length (.int 0)) : Ctr (l, consts_1) Z hB ({ cls := "java/lang/StringUTF16", name := "compress", desc := "([CI[BII)I" } : Jvm.MethodName) jdk_52_method_21_code 7 (some .int) [] ({ frames := 0, cells := 0, slots := 0, locals := 0 } : Room) #[(rf hB i), (.int (0 : Int32)), (rf hB j), (.int (0 : Int32)), (.int cs.length.toInt32)] H (fun v H' => v = some (.int cs.length.toInt32) ∧ H' = H.set j (arr .byte (((cs.map fun c => c.toInt8.toInt32)).map Value.int))) := by
  refine Wk.ctr pn_2 (Ls := #[.val (rf hB i), .val (.int (0 : Int32)), .val (rf hB j), .val (.int (0 : Int32)), .val (.int cs.length.toInt32), .unset, .unset]) (fun m => by first | rfl | (simp [entryFrame, mkF, argsToLocals, Value.category]; done)) ?_
  have hS : H = H.set j (arr .byte (Wk.preB cs 0)) := by rw [Wk.preB_zero, ← hX]; exact (Wk.setSelf hj).symm
  refine Wk.iconst (pc' := 1) (0 : Int32) d5_0 (by decide) rfl ?_
  refine Wk.istore (pc' := 3) (Ls' := #[.val (rf hB i), .val (.int (0 : Int32)), .val (rf hB j), .val (.int (0 : Int32)), .val (.int cs.length.toInt32), .val (.int (0 : Int32)), .unset]) d5_1 rfl rfl ?_
  refine Wk.WP.heap hS ?_
  exact m_cmpL l Z a0 hw hB H i j cs hcs hl hi X hj hij cs.length 0 _ (Or.inl rfl) (by omega)
set_option maxRecDepth 65536 in
set_option maxHeartbeats 40000000 in
theorem m_cmp (l : Launch) (Z : State) (a0 : Array Value) (hw : ∀ d ∈ tables_1, d.before a0 Z = true) (hB : Heap) (H : List Rec) (i : Nat) (cs : List Int32) (hcs : ∀ c ∈ cs, ¬ (255 : Int32) < c) (hl : cs.length ≤ 16) (hi : H[i]? = some (arr .char (cs.map Value.int))) : Ctr (l, consts_1) Z hB ({ cls := "java/lang/StringUTF16", name := "compress", desc := "([CII)[B" } : Jvm.MethodName) jdk_52_method_16_code 6 (some (.array .byte)) [] ({ frames := 1, cells := 1, slots := 16, locals := 18 } : Room) #[(rf hB i), (.int (0 : Int32)), (.int cs.length.toInt32)] H (fun v H' => v = some (rf hB H.length) ∧ H' = (H ++ [arr .byte (((cs.map fun c => c.toInt8.toInt32)).map Value.int)])) := by
  refine Wk.ctr pn_3 (Ls := #[.val (rf hB i), .val (.int (0 : Int32)), .val (.int cs.length.toInt32), .unset, .unset, .unset]) (fun m => by first | rfl | (simp [entryFrame, mkF, argsToLocals, Value.category]; done)) ?_
  have hilt := (List.getElem?_eq_some_iff.mp hi).1
  refine Wk.iloadN (pc' := 1) d4_0 rfl rfl ?_
  refine Wk.newArr (pc' := 3) (i := H.length) (nn := cs.length) (H' := (H ++ [arr .byte (List.replicate cs.length (.int 0))])) d4_1 (wd24 hw) (Wk.nneg32 (by omega)) (Wk.clamp32 (by omega)) (by omega) rfl ⟨(by intro C; simp [newarray.typeOf]), (by intro C; simp [newarray.typeOf])⟩ (by show H.length + 1 ≤ H.length + 1; omega) (by show 0 + cs.length ≤ 16; omega) rfl rfl rfl ?_
  refine Wk.WP.mono (sl' := 16) (by omega) ?_
  refine Wk.astoreN (pc' := 4) (Ls' := #[.val (rf hB i), .val (.int (0 : Int32)), .val (.int cs.length.toInt32), .val (rf hB H.length), .unset, .unset]) d4_3 rfl rfl rfl ?_
  refine Wk.aloadN (pc' := 5) d4_4 rfl rfl rfl ?_
  refine Wk.iloadN (pc' := 6) d4_5 rfl rfl ?_
  refine Wk.aloadN (pc' := 7) d4_6 rfl rfl rfl ?_
  refine Wk.iconst (pc' := 8) (0 : Int32) d4_7 (by decide) rfl ?_
  refine Wk.iloadN (pc' := 9) d4_8 rfl rfl ?_
  refine Wk.callS (pc' := 12) (argsL := [(rf hB i), (.int (0 : Int32)), (rf hB H.length), (.int (0 : Int32)), (.int cs.length.toInt32)]) (st := []) d4_9 (wd25 hw) (wd26 hw) (wd22 hw) (wd27 hw) (by decide) (lenOf pd_1 rfl) (m_cmp1 l Z a0 hw hB (H ++ [arr .byte (List.replicate cs.length (.int 0))]) i H.length cs hcs hl (gaL hi) _ (gaR rfl) (by omega) rfl) rfl (Nat.le_of_ble_eq_true rfl) (Nat.le_of_ble_eq_true rfl) (by first | (simp only [List.length_append, List.length_cons, List.length_nil] <;> omega) | simp) (Nat.le_of_ble_eq_true rfl) rfl rfl ?_
  rintro _ _ ⟨rfl, hH⟩; rw [Wk.saR] at hH; obtain rfl := hH.symm
  show WP (l, consts_1) Z hB _ _ _ _ _ _ _ _ (H ++ [arr .byte (((cs.map fun c => c.toInt8.toInt32)).map Value.int)]) _ _ [(.int cs.length.toInt32)]
  refine Wk.istore (pc' := 14) (Ls' := #[.val (rf hB i), .val (.int (0 : Int32)), .val (.int cs.length.toInt32), .val (rf hB H.length), .val (.int cs.length.toInt32), .unset]) d4_12 rfl rfl ?_
  refine Wk.iload (pc' := 16) d4_14 rfl rfl ?_
  refine Wk.iloadN (pc' := 17) d4_16 rfl rfl ?_
  refine Wk.icY (pc' := 57) d4_17 (XT.ii_eq_t rfl) (by decide) (by decide) ?_
  refine Wk.aloadN (pc' := 58) d4_57 rfl rfl rfl ?_
  exact Wk.aret (t := (.array .byte)) d4_58 rfl rfl rfl (by first | (simp only [List.length_append, List.length_cons, List.length_nil] <;> omega) | simp) (Nat.le_of_ble_eq_true rfl) ⟨rfl, rfl⟩
set_option maxRecDepth 65536 in
set_option maxHeartbeats 40000000 in
theorem m_cfa (l : Launch) (Z : State) (a0 : Array Value) (hw : ∀ d ∈ tables_1, d.before a0 Z = true) (hB : Heap) (H : List Rec) (i : Nat) (cs : List Int32) (X : List Value) (hi : H[i]? = some (arr .byte X)) (hz : X.length.toInt32 = cs.length.toInt32) : Ctr (l, consts_1) Z hB ({ cls := "java/lang/StringUTF16", name := "coderFromArrayLen", desc := "([BI)B" } : Jvm.MethodName) jdk_52_method_15_code 2 (some .byte) [] ({ frames := 0, cells := 0, slots := 0, locals := 0 } : Room) #[(rf hB i), (.int cs.length.toInt32)] H (fun v H' => v = some (.int 0) ∧ H' = H) := by
  refine Wk.ctr pn_4 (Ls := #[.val (rf hB i), .val (.int cs.length.toInt32)]) (fun m => by first | rfl | (simp [entryFrame, mkF, argsToLocals, Value.category]; done)) ?_
  refine Wk.iloadN (pc' := 1) d6_0 rfl rfl ?_
  refine Wk.aloadN (pc' := 2) d6_1 rfl rfl rfl ?_
  refine Wk.arrLen (pc' := 3) (i := i) (z := cs.length.toInt32) d6_2 hi hz rfl ?_
  refine Wk.isub (pc' := 4) d6_3 rfl ?_
  refine Wk.bipush (pc' := 6) (31 : Int32) d6_4 (by decide) rfl ?_
  refine Wk.iushr (pc' := 7) d6_6 rfl ?_
  refine Wk.i2b (pc' := 8) d6_7 rfl ?_
  rw [show ((((Jvm.Free.XT.ushr (cs.length.toInt32 - cs.length.toInt32) (31 : Int32))).toInt8.toInt32)) = (0 : Int32) from by rw [Int32.sub_self]; decide]
  exact Wk.iret (t := .byte) d6_8 rfl (by simp) rfl (by first | (simp only [List.length_append, List.length_cons, List.length_nil] <;> omega) | simp) (Nat.le_of_ble_eq_true rfl) ⟨rfl, rfl⟩
set_option maxRecDepth 65536 in
set_option maxHeartbeats 40000000 in
theorem m_siv (l : Launch) (Z : State) (a0 : Array Value) (hw : ∀ d ∈ tables_1, d.before a0 Z = true) (hB : Heap) (H : List Rec) (ck : Int32) (sC : Sta Z hB "java/lang/String" "COMPACT_STRINGS" "Z" (.int ck)) (hck : ¬ ck = 0) (i j : Nat) (cs : List Int32) (hcs : ∀ c ∈ cs, ¬ (255 : Int32) < c) (h0 : 0 < cs.length) (hl : cs.length ≤ 16) (hi : H[i]? = some (obj "java/lang/String" ksS [(.int (0 : Int32)), .null])) (hj : H[j]? = some (arr .char (cs.map Value.int))) : Ctr (l, consts_1) Z hB ({ cls := "java/lang/String", name := "<init>", desc := "([CIILjava/lang/Void;)V" } : Jvm.MethodName) jdk_42_method_149_code 6 none [] ({ frames := 2, cells := 1, slots := 16, locals := 35 } : Room) #[(rf hB i), (rf hB j), (.int (0 : Int32)), (.int cs.length.toInt32), .null] H (fun v H' => v = none ∧ H' = ((H ++ [arr .byte (((cs.map fun c => c.toInt8.toInt32)).map Value.int)]).set i (obj "java/lang/String" ksS [(.int (0 : Int32)), (rf hB H.length)]))) := by
  refine Wk.ctr pn_5 (Ls := #[.val (rf hB i), .val (rf hB j), .val (.int (0 : Int32)), .val (.int cs.length.toInt32), .val .null, .unset]) (fun m => by first | rfl | (simp [entryFrame, mkF, argsToLocals, Value.category]; done)) ?_
  have hilt := (List.getElem?_eq_some_iff.mp hi).1
  have hij : i ≠ j := fun q => by subst q; rw [hi] at hj; cases hj
  refine Wk.aloadN (pc' := 1) d2_0 rfl rfl rfl ?_
  refine Wk.initObj (pc' := 4) d2_1 (wd16 hw) (wd17 hw) (wd18 hw) rfl (Nat.le_of_ble_eq_true rfl) (Nat.le_of_ble_eq_true rfl) rfl ?_
  refine Wk.iloadN (pc' := 5) d2_4 rfl rfl ?_
  refine Wk.ifY (pc' := 27) d2_5 (XT.i0_ne_t (fun q => absurd (Wk.eq32 (n := 0) (by omega) (by decide) q) (by omega))) (by decide) (by decide) ?_
  refine Wk.getSt (pc' := 30) d2_27 (wd19 hw) sC rfl ?_
  refine Wk.ifN (pc' := 33) d2_30 (XT.i0_eq_f hck) rfl ?_
  refine Wk.aloadN (pc' := 34) d2_33 rfl rfl rfl ?_
  refine Wk.iloadN (pc' := 35) d2_34 rfl rfl ?_
  refine Wk.iloadN (pc' := 36) d2_35 rfl rfl ?_
  refine Wk.callS (pc' := 39) (argsL := [(rf hB j), (.int (0 : Int32)), (.int cs.length.toInt32)]) (st := []) d2_36 (wd20 hw) (wd21 hw) (wd22 hw) (wd23 hw) (by decide) (lenOf pd_2 rfl) (m_cmp l Z a0 hw hB H j cs hcs hl hj) rfl (Nat.le_of_ble_eq_true rfl) (Nat.le_of_ble_eq_true rfl) (by simp <;> omega) (Nat.le_of_ble_eq_true rfl) rfl rfl ?_
  rintro _ _ ⟨rfl, hH⟩; obtain rfl := hH.symm
  show WP (l, consts_1) Z hB _ _ _ _ _ _ _ _ (H ++ [arr .byte (((cs.map fun c => c.toInt8.toInt32)).map Value.int)]) _ _ [(rf hB H.length)]
  refine Wk.astore (pc' := 41) (Ls' := #[.val (rf hB i), .val (rf hB j), .val (.int (0 : Int32)), .val (.int cs.length.toInt32), .val .null, .val (rf hB H.length)]) d2_39 rfl rfl rfl ?_
  refine Wk.aloadN (pc' := 42) d2_41 rfl rfl rfl ?_
  refine Wk.aload (pc' := 44) d2_42 rfl rfl rfl ?_
  refine Wk.iloadN (pc' := 45) d2_44 rfl rfl ?_
  refine Wk.callS (pc' := 48) (argsL := [(rf hB H.length), (.int cs.length.toInt32)]) (st := [(rf hB i)]) d2_45 (wd28 hw) (wd29 hw) (wd22 hw) (wd30 hw) (by decide) (lenOf pd_3 rfl) (m_cfa l Z a0 hw hB (H ++ [arr .byte (((cs.map fun c => c.toInt8.toInt32)).map Value.int)]) H.length cs _ (gaR rfl) (by rw [List.length_map, List.length_map])) rfl (Nat.le_of_ble_eq_true rfl) (Nat.le_of_ble_eq_true rfl) (by simp <;> omega) (Nat.le_of_ble_eq_true rfl) rfl rfl ?_
  rintro _ _ ⟨rfl, hH⟩; obtain rfl := hH.symm
  show WP (l, consts_1) Z hB _ _ _ _ _ _ _ _ (H ++ [arr .byte (((cs.map fun c => c.toInt8.toInt32)).map Value.int)]) _ _ [(.int (0 : Int32)), (rf hB i)]
  refine Wk.putF0 (pc' := 51) (i := i) (j := 0) (H' := ((H ++ [arr .byte (((cs.map fun c => c.toInt8.toInt32)).map Value.int)]).set i (obj "java/lang/String" ksS [(.int (0 : Int32)), .null]))) (ty := .byte) d2_48 (wd31 hw) (gaL hi) rfl (Nat.le_of_ble_eq_true rfl) (Or.inr ⟨(wd32 hw), rfl, rfl⟩) (wd7 hw) (by decide) rfl rfl rfl rfl ?_
  refine Wk.aloadN (pc' := 52) d2_51 rfl rfl rfl ?_
  refine Wk.aload (pc' := 54) d2_52 rfl rfl rfl ?_
  refine Wk.putF0 (pc' := 57) (i := i) (j := 1) (H' := (((H ++ [arr .byte (((cs.map fun c => c.toInt8.toInt32)).map Value.int)]).set i (obj "java/lang/String" ksS [(.int (0 : Int32)), .null])).set i (obj "java/lang/String" ksS [(.int (0 : Int32)), (rf hB H.length)]))) (ty := (.array .byte)) d2_54 (wd33 hw) (gsE (gaL hi)) rfl (Nat.le_of_ble_eq_true rfl) (Or.inr ⟨(wd34 hw), rfl, rfl⟩) (wd7 hw) (by decide) rfl rfl rfl rfl ?_
  exact Wk.vret d2_57 rfl (by simp <;> omega) (Nat.le_of_ble_eq_true rfl) ⟨rfl, List.set_set ..⟩
set_option maxRecDepth 65536 in
set_option maxHeartbeats 40000000 in
theorem m_si (l : Launch) (Z : State) (a0 : Array Value) (hw : ∀ d ∈ tables_1, d.before a0 Z = true) (hB : Heap) (H : List Rec) (ck : Int32) (sC : Sta Z hB "java/lang/String" "COMPACT_STRINGS" "Z" (.int ck)) (hck : ¬ ck = 0) (i j : Nat) (cs : List Int32) (hcs : ∀ c ∈ cs, ¬ (255 : Int32) < c) (h0 : 0 < cs.length) (hl : cs.length ≤ 16) (hi : H[i]? = some (obj "java/lang/String" ksS [(.int (0 : Int32)), .null])) (hj : H[j]? = some (arr .char (cs.map Value.int))) : Ctr (l, consts_1) Z hB ({ cls := "java/lang/String", name := "<init>", desc := "([C)V" } : Jvm.MethodName) jdk_42_method_3_code 2 none [] ({ frames := 3, cells := 1, slots := 16, locals := 52 } : Room) #[(rf hB i), (rf hB j)] H (fun v H' => v = none ∧ H' = ((H ++ [arr .byte (((cs.map fun c => c.toInt8.toInt32)).map Value.int)]).set i (obj "java/lang/String" ksS [(.int (0 : Int32)), (rf hB H.length)]))) := by
  refine Wk.ctr pn_6 (Ls := #[.val (rf hB i), .val (rf hB j)]) (fun m => by first | rfl | (simp [entryFrame, mkF, argsToLocals, Value.category]; done)) ?_
  refine Wk.aloadN (pc' := 1) d1_0 rfl rfl rfl ?_
  refine Wk.aloadN (pc' := 2) d1_1 rfl rfl rfl ?_
  refine Wk.iconst (pc' := 3) (0 : Int32) d1_2 (by decide) rfl ?_
  refine Wk.aloadN (pc' := 4) d1_3 rfl rfl rfl ?_
  refine Wk.arrLen (pc' := 5) (i := j) (z := cs.length.toInt32) d1_4 hj (by rw [List.length_map]) rfl ?_
  refine Wk.aconstNull (pc' := 6) d1_5 rfl ?_
  refine Wk.callI (pc' := 9) (argsL := [(rf hB j), (.int (0 : Int32)), (.int cs.length.toInt32), .null]) (st := []) d1_6 rfl (wd12 hw) (wd13 hw) (wd8 hw) (wd15 hw) (by decide) (lenOf pd_4 rfl) (m_siv l Z a0 hw hB H ck sC hck i j cs hcs h0 hl hi hj) rfl (Nat.le_of_ble_eq_true rfl) (Nat.le_of_ble_eq_true rfl) (by simp <;> omega) (Nat.le_of_ble_eq_true rfl) rfl rfl ?_
  rintro _ _ ⟨rfl, hH⟩; obtain rfl := hH.symm
  show WP (l, consts_1) Z hB _ _ _ _ _ _ _ _ ((H ++ [arr .byte (((cs.map fun c => c.toInt8.toInt32)).map Value.int)]).set i (obj "java/lang/String" ksS [(.int (0 : Int32)), (rf hB H.length)])) _ _ []
  exact Wk.vret d1_9 rfl (by first | (simp only [List.length_append, List.length_cons, List.length_nil] <;> omega) | simp) (Nat.le_of_ble_eq_true rfl) ⟨rfl, rfl⟩
set_option maxRecDepth 65536 in
set_option maxHeartbeats 40000000 in
theorem m_cane (l : Launch) (Z : State) (a0 : Array Value) (hw : ∀ d ∈ tables_1, d.before a0 Z = true) (hB : Heap) (H : List Rec) (ch : Int32) (h255 : ¬ (255 : Int32) < ch) : Ctr (l, consts_1) Z hB ({ cls := "java/lang/StringLatin1", name := "canEncode", desc := "(C)Z" } : Jvm.MethodName) jdk_43_method_3_code 1 (some .boolean) [] ({ frames := 0, cells := 0, slots := 0, locals := 0 } : Room) #[(.int ch)] H (fun v H' => v = some (.int 1) ∧ H' = H) := by
  refine Wk.ctr pn_7 (Ls := #[.val (.int ch)]) (fun m => by first | rfl | (simp [entryFrame, mkF, argsToLocals, Value.category]; done)) ?_
  refine Wk.iloadN (pc' := 1) d15_0 rfl rfl ?_
  refine Wk.sipush (pc' := 4) (255 : Int32) d15_1 (by decide) rfl ?_
  refine Wk.icN (pc' := 7) d15_4 (XT.ii_gt_f h255) rfl ?_
  refine Wk.iconst (pc' := 8) (1 : Int32) d15_7 (by decide) rfl ?_
  refine Wk.goTo (pc' := 12) d15_8 (by decide) (by decide) ?_
  exact Wk.iret (t := .boolean) d15_12 rfl (by simp) rfl (by first | (simp only [List.length_append, List.length_cons, List.length_nil] <;> omega) | simp) (Nat.le_of_ble_eq_true rfl) ⟨rfl, rfl⟩
set_option maxRecDepth 65536 in
set_option maxHeartbeats 40000000 in
theorem m_tob (l : Launch) (Z : State) (a0 : Array Value) (hw : ∀ d ∈ tables_1, d.before a0 Z = true) (hB : Heap) (H : List Rec) (ch : Int32) : Ctr (l, consts_1) Z hB ({ cls := "java/lang/StringLatin1", name := "toBytes", desc := "(C)[B" } : Jvm.MethodName) jdk_43_method_46_code 1 (some (.array .byte)) [] ({ frames := 0, cells := 1, slots := 1, locals := 0 } : Room) #[(.int ch)] H (fun v H' => v = some (rf hB (H.length + 0)) ∧ H' = (H ++ [arr .byte [.int (nar .byte ch.toInt8.toInt32)]])) := by
  refine Wk.ctr pn_8 (Ls := #[.val (.int ch)]) (fun m => by first | rfl | (simp [entryFrame, mkF, argsToLocals, Value.category]; done)) ?_
  refine Wk.iconst (pc' := 1) (1 : Int32) d16_0 (by decide) rfl ?_
  refine Wk.newArr (pc' := 3) (i := (H.length + 0)) (nn := 1) (H' := (H ++ [arr .byte [(.int (0 : Int32))]])) d16_1 (wd24 hw) (by decide) (by decide) (by omega) rfl ⟨(by intro C; simp [newarray.typeOf]), (by intro C; simp [newarray.typeOf])⟩ (by first | (simp only [List.length_append, List.length_cons, List.length_nil] <;> omega) | (simp <;> omega) | simp) (Nat.le_of_ble_eq_true rfl) rfl (by simp) rfl ?_
  refine Wk.dup (pc' := 4) d16_3 rfl rfl ?_
  refine Wk.iconst (pc' := 5) (0 : Int32) d16_4 (by decide) rfl ?_
  refine Wk.iloadN (pc' := 6) d16_5 rfl rfl ?_
  refine Wk.i2b (pc' := 7) d16_6 rfl ?_
  refine Wk.bastore (pc' := 8) (i := (H.length + 0)) (jn := 0) (H' := (H ++ [arr .byte [(.int (nar .byte ch.toInt8.toInt32))]])) d16_7 (Wk.gaB rfl) (by decide) (by decide) (Nat.le_of_ble_eq_true rfl) Wk.saB rfl ?_
  exact Wk.aret (t := (.array .byte)) d16_8 rfl rfl rfl (by first | (simp only [List.length_append, List.length_cons, List.length_nil] <;> omega) | (simp <;> omega) | simp) (Nat.le_of_ble_eq_true rfl) ⟨rfl, rfl⟩
set_option maxRecDepth 65536 in
set_option maxHeartbeats 40000000 in
theorem m_sib (l : Launch) (Z : State) (a0 : Array Value) (hw : ∀ d ∈ tables_1, d.before a0 Z = true) (hB : Heap) (H : List Rec) (i j : Nat) (hi : H[i]? = some (obj "java/lang/String" ksS [(.int (0 : Int32)), .null])) : Ctr (l, consts_1) Z hB ({ cls := "java/lang/String", name := "<init>", desc := "([BB)V" } : Jvm.MethodName) jdk_42_method_151_code 3 none [] ({ frames := 1, cells := 0, slots := 0, locals := 12 } : Room) #[(rf hB i), (rf hB j), (.int (0 : Int32))] H (fun v H' => v = none ∧ H' = (H.set i (obj "java/lang/String" ksS [(.int (0 : Int32)), (rf hB j)]))) := by
  refine Wk.ctr pn_9 (Ls := #[.val (rf hB i), .val (rf hB j), .val (.int (0 : Int32))]) (fun m => by first | rfl | (simp [entryFrame, mkF, argsToLocals, Value.category]; done)) ?_
  refine Wk.aloadN (pc' := 1) d17_0 rfl rfl rfl ?_
  refine Wk.initObj (pc' := 4) d17_1 (wd16 hw) (wd17 hw) (wd18 hw) rfl (Nat.le_of_ble_eq_true rfl) (Nat.le_of_ble_eq_true rfl) rfl ?_
  refine Wk.aloadN (pc' := 5) d17_4 rfl rfl rfl ?_
  refine Wk.aloadN (pc' := 6) d17_5 rfl rfl rfl ?_
  refine Wk.putF0 (pc' := 9) (i := i) (j := 1) (H' := (H.set i (obj "java/lang/String" ksS [(.int (0 : Int32)), (rf hB j)]))) (ty := (.array .byte)) d17_6 (wd33 hw) hi rfl (Nat.le_of_ble_eq_true rfl) (Or.inr ⟨(wd34 hw), rfl, rfl⟩) (wd7 hw) (by decide) rfl rfl rfl rfl ?_
  refine Wk.aloadN (pc' := 10) d17_9 rfl rfl rfl ?_
  refine Wk.iloadN (pc' := 11) d17_10 rfl rfl ?_
  refine Wk.putF0 (pc' := 14) (i := i) (j := 0) (H' := ((H.set i (obj "java/lang/String" ksS [(.int (0 : Int32)), (rf hB j)])).set i (obj "java/lang/String" ksS [(.int (0 : Int32)), (rf hB j)]))) (ty := .byte) d17_11 (wd31 hw) (gsE hi) rfl (Nat.le_of_ble_eq_true rfl) (Or.inr ⟨(wd32 hw), rfl, rfl⟩) (wd7 hw) (by decide) rfl rfl rfl rfl ?_
  exact Wk.vret d17_14 rfl (by simp <;> omega) (Nat.le_of_ble_eq_true rfl) ⟨rfl, List.set_set ..⟩
set_option maxRecDepth 65536 in
set_option maxHeartbeats 40000000 in
theorem m_voc (l : Launch) (Z : State) (a0 : Array Value) (hw : ∀ d ∈ tables_1, d.before a0 Z = true) (hB : Heap) (H : List Rec) (ck : Int32) (sC : Sta Z hB "java/lang/String" "COMPACT_STRINGS" "Z" (.int ck)) (hck : ¬ ck = 0) (ch : Int32) (h255 : ¬ (255 : Int32) < ch) : Ctr (l, consts_1) Z hB ({ cls := "java/lang/String", name := "valueOf", desc := "(C)Ljava/lang/String;" } : Jvm.MethodName) jdk_42_method_139_code 1 (some (.object "java/lang/String")) [] ({ frames := 2, cells := 2, slots := 5, locals := 27 } : Room) #[(.int ch)] H (fun v H' => v = some (rf hB (H.length + 0)) ∧ H' = (H ++ [obj "java/lang/String" ksS [(.int (0 : Int32)), (rf hB (H.length + 1))], arr .byte [.int (nar .byte ch.toInt8.toInt32)]])) := by
  refine Wk.ctr pn_10 (Ls := #[.val (.int ch)]) (fun m => by first | rfl | (simp [entryFrame, mkF, argsToLocals, Value.category]; done)) ?_
  refine Wk.getSt (pc' := 3) d14_0 (wd19 hw) sC rfl ?_
  refine Wk.ifN (pc' := 6) d14_3 (XT.i0_eq_f hck) rfl ?_
  refine Wk.iloadN (pc' := 7) d14_6 rfl rfl ?_
  refine Wk.callS (pc' := 10) (argsL := [(.int ch)]) (st := []) d14_7 (wd91 hw) (wd92 hw) (wd68 hw) (wd93 hw) (by decide) (lenOf pd_5 rfl) (m_cane l Z a0 hw hB H ch h255) rfl (Nat.le_of_ble_eq_true rfl) (Nat.le_of_ble_eq_true rfl) (by first | (simp only [List.length_append, List.length_cons, List.length_nil] <;> omega) | (simp <;> omega) | simp) (Nat.le_of_ble_eq_true rfl) rfl rfl ?_
  rintro _ _ ⟨rfl, hH⟩; obtain rfl := hH.symm
  show WP (l, consts_1) Z hB _ _ _ _ _ _ _ _ H _ _ [(.int (1 : Int32))]
  refine Wk.ifN (pc' := 13) d14_10 (XT.i0_eq_f (by decide)) rfl ?_
  refine Wk.newObj (pc' := 16) (i := (H.length + 0)) (H' := (H ++ [obj "java/lang/String" ksS [(.int (0 : Int32)), .null]])) d14_13 (wd65 hw) (wd7 hw) (wd8 hw) (ksS_laid hw) (ksS_dist hw) (by first | (simp only [List.length_append, List.length_cons, List.length_nil] <;> omega) | (simp <;> omega) | simp) (Nat.le_of_ble_eq_true rfl) rfl (by simp) rfl ?_
  refine Wk.dup (pc' := 17) d14_16 rfl rfl ?_
  refine Wk.iloadN (pc' := 18) d14_17 rfl rfl ?_
  refine Wk.callS (pc' := 21) (argsL := [(.int ch)]) (st := [(rf hB (H.length + 0)), (rf hB (H.length + 0))]) d14_18 (wd94 hw) (wd95 hw) (wd68 hw) (wd96 hw) (by decide) (lenOf pd_6 rfl) (m_tob l Z a0 hw hB (H ++ [obj "java/lang/String" ksS [(.int (0 : Int32)), .null]]) ch) rfl (Nat.le_of_ble_eq_true rfl) (Nat.le_of_ble_eq_true rfl) (by first | (simp only [List.length_append, List.length_cons, List.length_nil] <;> omega) | (simp <;> omega) | simp) (Nat.le_of_ble_eq_true rfl) rfl rfl ?_
  rintro _ _ ⟨rfl, hH⟩; simp only [List.length_append, List.length_cons, List.length_nil, List.append_assoc, List.cons_append, List.nil_append, Nat.add_zero] at hH; obtain rfl := hH.symm; rw [show ((H ++ [obj "java/lang/String" ksS [(.int (0 : Int32)), .null]])).length + 0 = H.length + 1 from by simp]
  show WP (l, consts_1) Z hB _ _ _ _ _ _ _ _ (H ++ [obj "java/lang/String" ksS [(.int (0 : Int32)), .null], arr .byte [.int (nar .byte ch.toInt8.toInt32)]]) _ _ [(rf hB (H.length + 1)), (rf hB (H.length + 0)), (rf hB (H.length + 0))]
  refine Wk.iconst (pc' := 22) (0 : Int32) d14_21 (by decide) rfl ?_
  refine Wk.callI (pc' := 25) (argsL := [(rf hB (H.length + 1)), (.int (0 : Int32))]) (st := [(rf hB (H.length + 0))]) d14_22 rfl (wd97 hw) (wd98 hw) (wd8 hw) (wd99 hw) (by decide) (lenOf pd_7 rfl) (m_sib l Z a0 hw hB (H ++ [obj "java/lang/String" ksS [(.int (0 : Int32)), .null], arr .byte [.int (nar .byte ch.toInt8.toInt32)]]) (H.length + 0) (H.length + 1) (Wk.gaB rfl)) rfl (Nat.le_of_ble_eq_true rfl) (Nat.le_of_ble_eq_true rfl) (by first | (simp only [List.length_append, List.length_cons, List.length_nil] <;> omega) | (simp <;> omega) | simp) (Nat.le_of_ble_eq_true rfl) rfl rfl ?_
  rintro _ _ ⟨rfl, hH⟩; rw [Wk.saB] at hH; obtain rfl := hH.symm
  show WP (l, consts_1) Z hB _ _ _ _ _ _ _ _ (H ++ [obj "java/lang/String" ksS [(.int (0 : Int32)), (rf hB (H.length + 1))], arr .byte [.int (nar .byte ch.toInt8.toInt32)]]) _ _ [(rf hB (H.length + 0))]
  exact Wk.aret (t := (.object "java/lang/String")) d14_25 rfl rfl rfl (by first | (simp only [List.length_append, List.length_cons, List.length_nil] <;> omega) | (simp <;> omega) | simp) (Nat.le_of_ble_eq_true rfl) ⟨rfl, rfl⟩
def nmV (xs : List Int32) (r0 r1 r2 r3 : Addr) : Value := if ([99, 111, 110, 116, 101, 120, 116] : List Int32) = xs then .ref r3 else if ([114, 101, 115, 111, 117, 114, 99, 101] : List Int32) = xs then .ref r2 else if ([97, 99, 116, 105, 111, 110] : List Int32) = xs then .ref r1 else if ([115, 117, 98, 106, 101, 99, 116] : List Int32) = xs then .ref r0 else .null
def rfV (xs : List Int32) (r0 r1 r2 r3 : Addr) : Value := if xs = ([115, 117, 98, 106, 101, 99, 116] : List Int32) then .ref r0 else if xs = ([97, 99, 116, 105, 111, 110] : List Int32) then .ref r1 else if xs = ([114, 101, 115, 111, 117, 114, 99, 101] : List Int32) then .ref r2 else if xs = ([99, 111, 110, 116, 101, 120, 116] : List Int32) then .ref r3 else .null
theorem nm_rf (xs : List Int32) (r0 r1 r2 r3 : Addr) : nmV xs r0 r1 r2 r3 = rfV xs r0 r1 r2 r3 := by
  unfold nmV rfV
  by_cases h0 : xs = ([115, 117, 98, 106, 101, 99, 116] : List Int32)
  · subst h0; rw [if_neg (by decide), if_neg (by decide), if_neg (by decide), if_pos rfl, if_pos rfl]
  by_cases h1 : xs = ([97, 99, 116, 105, 111, 110] : List Int32)
  · subst h1; rw [if_neg (by decide), if_neg (by decide), if_pos rfl, if_neg h0, if_pos rfl]
  by_cases h2 : xs = ([114, 101, 115, 111, 117, 114, 99, 101] : List Int32)
  · subst h2; rw [if_neg (by decide), if_pos rfl, if_neg h0, if_neg h1, if_pos rfl]
  by_cases h3 : xs = ([99, 111, 110, 116, 101, 120, 116] : List Int32)
  · subst h3; rw [if_pos rfl, if_neg h0, if_neg h1, if_neg h2, if_pos rfl]
  rw [if_neg (fun q => h3 q.symm), if_neg (fun q => h2 q.symm), if_neg (fun q => h1 q.symm), if_neg (fun q => h0 q.symm), if_neg h0, if_neg h1, if_neg h2, if_neg h3]
theorem rf_ref (xs : List Int32) (r0 r1 r2 r3 : Addr) : (rfV xs r0 r1 r2 r3).isRef = true := by
  unfold rfV; repeat' split
  all_goals rfl
theorem nm_some {xs : List Int32} {r0 r1 r2 r3 : Addr} (h : ¬ nmV xs r0 r1 r2 r3 = .null) : ∃ z, nmV xs r0 r1 r2 r3 = .ref z := by
  have q := rf_ref xs r0 r1 r2 r3
  rw [← nm_rf] at q
  generalize nmV xs r0 r1 r2 r3 = v at *
  cases v <;> first | exact ⟨_, rfl⟩ | exact absurd rfl h | cases q
theorem setLe {l : List Int32} {k : Nat} {ch : Int32} (h : ∀ c ∈ l, ¬ (255 : Int32) < c) (h2 : ¬ (255 : Int32) < ch) : ∀ c ∈ l.set k ch, ¬ (255 : Int32) < c := fun c hc => by
  rcases List.mem_or_eq_of_mem_set hc with z | z
  · exact h c z
  · rw [z]; exact h2
theorem chB (c : Int32) : nar .char ((c &&& 255).toUInt32.toUInt16.toUInt32.toInt32) = (c &&& 255).toUInt32.toUInt16.toUInt32.toInt32 ∧ ¬ (255 : Int32) < (c &&& 255).toUInt32.toUInt16.toUInt32.toInt32 := by
  have key : ∀ n : Fin 256, nar .char ((Int32.ofNat n.val).toUInt32.toUInt16.toUInt32.toInt32) = (Int32.ofNat n.val).toUInt32.toUInt16.toUInt32.toInt32 ∧ ¬ (255 : Int32) < (Int32.ofNat n.val).toUInt32.toUInt16.toUInt32.toInt32 := by decide +kernel
  have h1 : ((c &&& 255).toBitVec).toNat = c.toBitVec.toNat &&& 255 := rfl
  have h2 : c.toBitVec.toNat &&& 255 ≤ 255 := Nat.and_le_right
  have e : c &&& 255 = Int32.ofNat ((c &&& 255).toBitVec.toNat) := by
    apply Int32.toBitVec_inj.mp
    show _ = BitVec.ofNat 32 _
    rw [BitVec.ofNat_toNat, BitVec.setWidth_eq]
  rw [e]
  exact key ⟨(c &&& 255).toBitVec.toNat, by rw [h1]; omega⟩
theorem modB (a : Int32) {n : Int32} {m : Nat} (hm : n.toInt = m) (h0 : 0 < m) : ¬ ((a &&& 2147483647) % n) < 0 ∧ ((a &&& 2147483647) % n).toNatClampNeg < m := by
  have h1 : 0 ≤ (a &&& 2147483647).toInt := by
    have e : (a &&& 2147483647).toInt = ((a &&& 2147483647).toBitVec).toInt := rfl
    have h1 : ((a &&& 2147483647).toBitVec).toNat = a.toBitVec.toNat &&& 2147483647 := rfl
    have h2 : a.toBitVec.toNat &&& 2147483647 ≤ 2147483647 := Nat.and_le_right
    rw [e, BitVec.toInt_eq_toNat_cond, h1]
    split <;> omega
  have h2 : ((a &&& 2147483647) % n).toInt = (a &&& 2147483647).toInt.tmod n.toInt := Int32.toInt_mod _ _
  rw [hm] at h2
  have h3 : (0 : Int) ≤ (a &&& 2147483647).toInt.tmod m := Int.tmod_nonneg _ h1
  have h4 : (a &&& 2147483647).toInt.tmod m < m := Int.tmod_lt_of_pos _ (by omega)
  refine ⟨?_, ?_⟩
  · rw [Int32.lt_iff_toInt_lt, show (0 : Int32).toInt = 0 from rfl, h2]; omega
  · simp only [Int32.toNatClampNeg]; rw [h2]; omega
set_option maxRecDepth 65536 in
set_option maxHeartbeats 40000000 in
theorem m_vals (l : Launch) (Z : State) (a0 : Array Value) (hw : ∀ d ∈ tables_1, d.before a0 Z = true) (hB : Heap) (H : List Rec) (va : Addr) (cl : Cell) (sV : Sta Z hB "com/example/reckon/reckon/core/RequestData$Root" "$VALUES" "[Lcom/example/reckon/reckon/core/RequestData$Root;" (.ref va)) (AV : Arr Z hB va cl (.object "com/example/reckon/reckon/core/RequestData$Root")) (EV : Exa Z hB va "[Lcom/example/reckon/reckon/core/RequestData$Root;") (FV : FitC Z cl) (hz : cl.slots.size = 4) : Ctr (l, consts_1) Z hB ({ cls := "com/example/reckon/reckon/core/RequestData$Root", name := "values", desc := "()[Lcom/example/reckon/reckon/core/RequestData$Root;" } : Jvm.MethodName) prog_52_method_1_code 0 (some (.array (.object "com/example/reckon/reckon/core/RequestData$Root"))) [] ({ frames := 1, cells := 1, slots := 4, locals := 14 } : Room) #[] H (fun v H' => v = some (rf hB H.length) ∧ H' = (H ++ [Sum.inr (cloneOf cl)])) := by
  refine Wk.ctr pn_11 (Ls := #[]) (fun m => by first | rfl | (simp [entryFrame, mkF, argsToLocals, Value.category]; done)) ?_
  refine Wk.getSt (pc' := 3) d8_0 (wd42 hw) sV rfl ?_
  refine Wk.cloneQ (pc' := 6) (cap := 4) d8_3 (wd44 hw) (wd45 hw) (wd49 hw) (wd47 hw) (wd48 hw) (wd50 hw) AV EV FV rfl (Nat.le_of_ble_eq_true rfl) (Nat.le_of_ble_eq_true rfl) (by omega) (by first | (simp only [List.length_append, List.length_cons, List.length_nil] <;> omega) | simp) (Nat.le_of_ble_eq_true rfl) rfl (fun EX => ?_)
  refine Wk.castTo (pc' := 9) d8_6 (wd56 hw) (fun _ P => Ins.of_exa (EX _ P.q) (wd57 hw)) rfl ?_
  exact Wk.aret (t := (.array (.object "com/example/reckon/reckon/core/RequestData$Root"))) d8_9 rfl rfl rfl (by first | (simp only [List.length_append, List.length_cons, List.length_nil] <;> omega) | simp) (Nat.le_of_ble_eq_true rfl) ⟨rfl, rfl⟩
set_option maxRecDepth 65536 in
set_option maxHeartbeats 40000000 in
theorem m_named (l : Launch) (Z : State) (a0 : Array Value) (hw : ∀ d ∈ tables_1, d.before a0 Z = true) (hB : Heap) (H : List Rec) (ck : Int32) (sC : Sta Z hB "java/lang/String" "COMPACT_STRINGS" "Z" (.int ck)) (hck : ¬ ck = 0) (va : Addr) (cl : Cell) (sV : Sta Z hB "com/example/reckon/reckon/core/RequestData$Root" "$VALUES" "[Lcom/example/reckon/reckon/core/RequestData$Root;" (.ref va)) (AV : Arr Z hB va cl (.object "com/example/reckon/reckon/core/RequestData$Root")) (EV : Exa Z hB va "[Lcom/example/reckon/reckon/core/RequestData$Root;") (FV : FitC Z cl) (hz : cl.slots.size = 4) (r0 r1 r2 r3 n0 n1 n2 n3 : Addr) (e0 : cl.slots[0]? = some (.ref r0)) (f0 : Fld Z hB r0 "com/example/reckon/reckon/core/RequestData$Root" "name" "Ljava/lang/String;" (.ref n0)) (x0 : Exa Z hB n0 "java/lang/String") (s0 : ∀ H, Wk.SL Z hB H n0 ([115, 117, 98, 106, 101, 99, 116] : List Int32)) (t0 : Sta Z hB "com/example/reckon/reckon/core/RequestData$Root" "SUBJECT" "Lcom/example/reckon/reckon/core/RequestData$Root;" (.ref r0)) (e1 : cl.slots[1]? = some (.ref r1)) (f1 : Fld Z hB r1 "com/example/reckon/reckon/core/RequestData$Root" "name" "Ljava/lang/String;" (.ref n1)) (x1 : Exa Z hB n1 "java/lang/String") (s1 : ∀ H, Wk.SL Z hB H n1 ([97, 99, 116, 105, 111, 110] : List Int32)) (t1 : Sta Z hB "com/example/reckon/reckon/core/RequestData$Root" "ACTION" "Lcom/example/reckon/reckon/core/RequestData$Root;" (.ref r1)) (e2 : cl.slots[2]? = some (.ref r2)) (f2 : Fld Z hB r2 "com/example/reckon/reckon/core/RequestData$Root" "name" "Ljava/lang/String;" (.ref n2)) (x2 : Exa Z hB n2 "java/lang/String") (s2 : ∀ H, Wk.SL Z hB H n2 ([114, 101, 115, 111, 117, 114, 99, 101] : List Int32)) (t2 : Sta Z hB "com/example/reckon/reckon/core/RequestData$Root" "RESOURCE" "Lcom/example/reckon/reckon/core/RequestData$Root;" (.ref r2)) (e3 : cl.slots[3]? = some (.ref r3)) (f3 : Fld Z hB r3 "com/example/reckon/reckon/core/RequestData$Root" "name" "Ljava/lang/String;" (.ref n3)) (x3 : Exa Z hB n3 "java/lang/String") (s3 : ∀ H, Wk.SL Z hB H n3 ([99, 111, 110, 116, 101, 120, 116] : List Int32)) (t3 : Sta Z hB "com/example/reckon/reckon/core/RequestData$Root" "CONTEXT" "Lcom/example/reckon/reckon/core/RequestData$Root;" (.ref r3)) (a : Addr) (xs : List Int32) (A : Wk.SL Z hB H a xs) : Ctr (l, consts_1) Z hB ({ cls := "com/example/reckon/reckon/core/RequestData$Root", name := "named", desc := "(Ljava/lang/String;)Lcom/example/reckon/reckon/core/RequestData$Root;" } : Jvm.MethodName) prog_52_method_4_code 6 (some (.object "com/example/reckon/reckon/core/RequestData$Root")) [] ({ frames := 2, cells := 1, slots := 4, locals := 28 } : Room) #[(.ref a)] H (fun v H' => v = some (nmV xs r0 r1 r2 r3) ∧ H' = (H ++ [Sum.inr (cloneOf cl)])) := by
  refine Wk.ctr pn_12 (Ls := #[.val (.ref a), .unset, .unset, .unset, .unset, .unset]) (fun m => by first | rfl | (simp [entryFrame, mkF, argsToLocals, Value.category]; done)) ?_
  refine Wk.aconstNull (pc' := 1) d7_0 rfl ?_
  refine Wk.astoreN (pc' := 2) (Ls' := #[.val (.ref a), .val .null, .unset, .unset, .unset, .unset]) d7_1 rfl rfl rfl ?_
  refine Wk.callS (pc' := 5) (argsL := []) (st := []) d7_2 (wd39 hw) (wd40 hw) (wd37 hw) (wd41 hw) (by decide) (lenOf pd_8 rfl) (m_vals l Z a0 hw hB H va cl sV AV EV FV hz) rfl (Nat.le_of_ble_eq_true rfl) (Nat.le_of_ble_eq_true rfl) (by first | (simp only [List.length_append, List.length_cons, List.length_nil] <;> omega) | simp) (Nat.le_of_ble_eq_true rfl) rfl rfl ?_
  rintro _ _ ⟨rfl, hH⟩; obtain rfl := hH.symm
  show WP (l, consts_1) Z hB _ _ _ _ _ _ _ _ (H ++ [Sum.inr (cloneOf cl)]) _ _ [(rf hB H.length)]
  refine Wk.astoreN (pc' := 6) (Ls' := #[.val (.ref a), .val .null, .val (rf hB H.length), .unset, .unset, .unset]) d7_5 rfl rfl rfl ?_
  refine Wk.aloadN (pc' := 7) d7_6 rfl rfl rfl ?_
  refine Wk.arrLenC (pc' := 8) (z := (4 : Int32)) d7_7 (gaR rfl) (⟨fun _ q => (by cases q), AV.2.1.2⟩ : Z.isArrayOf (cloneOf cl) _) (by rw [show (cloneOf cl).slots.size = 4 from hz]; rfl) rfl ?_
  refine Wk.istoreN (pc' := 9) (Ls' := #[.val (.ref a), .val .null, .val (rf hB H.length), .val (.int (4 : Int32)), .unset, .unset]) d7_8 rfl rfl ?_
  refine Wk.iconst (pc' := 10) (0 : Int32) d7_9 (by decide) rfl ?_
  refine Wk.istore (pc' := 12) (Ls' := #[.val (.ref a), .val .null, .val (rf hB H.length), .val (.int (4 : Int32)), .val (.int (0 : Int32)), .unset]) d7_10 rfl rfl ?_
  refine Wk.iload (pc' := 14) d7_12 rfl rfl ?_
  refine Wk.iloadN (pc' := 15) d7_14 rfl rfl ?_
  refine Wk.icN (pc' := 18) d7_15 (XT.ii_ge_f (by decide)) rfl ?_
  refine Wk.aloadN (pc' := 19) d7_18 rfl rfl rfl ?_
  refine Wk.iload (pc' := 21) d7_19 rfl rfl ?_
  refine Wk.aaloadC (pc' := 22) (v := (.ref r0)) d7_21 (gaR rfl) (⟨fun _ q => (by cases q), AV.2.1.2⟩ : Z.isArrayOf (cloneOf cl) _) (fun q => by cases q) rfl (by rw [show (cloneOf cl).slots.size = 4 from hz]; decide) e0 rfl ?_
  refine Wk.astore (pc' := 24) (Ls' := #[.val (.ref a), .val .null, .val (rf hB H.length), .val (.int (4 : Int32)), .val (.int (0 : Int32)), .val (.ref r0)]) d7_22 rfl rfl rfl ?_
  refine Wk.aload (pc' := 26) d7_24 rfl rfl rfl ?_
  refine Wk.getFold (pc' := 29) d7_26 (wd58 hw) f0 rfl ?_
  refine Wk.aloadN (pc' := 30) d7_29 rfl rfl rfl ?_
  refine Wk.callV (pc' := 33) (argsL := [(.ref a)]) (st := []) d7_30 (wd60 hw) (wd61 hw) (Wk.nfSel (wd63 hw)) (wd63 hw) (wd62 hw) (wd8 hw) (wd64 hw) (by decide) (lenOf pd_9 rfl) (fun _ P => x0.ext P.toExt) (m_seq l Z a0 hw hB (H ++ [Sum.inr (cloneOf cl)]) ck sC hck n0 a ([115, 117, 98, 106, 101, 99, 116] : List Int32) xs (s0 _) A.app) rfl (Nat.le_of_ble_eq_true rfl) (Nat.le_of_ble_eq_true rfl) (by first | (simp only [List.length_append, List.length_cons, List.length_nil] <;> omega) | simp) (Nat.le_of_ble_eq_true rfl) rfl rfl ?_
  rintro _ _ ⟨rfl, hH⟩; obtain rfl := hH.symm
  show WP (l, consts_1) Z hB _ _ _ _ _ _ _ _ (H ++ [Sum.inr (cloneOf cl)]) _ _ [(.int (if ([115, 117, 98, 106, 101, 99, 116] : List Int32) = xs then 1 else 0))]
  by_cases q0 : ([115, 117, 98, 106, 101, 99, 116] : List Int32) = xs
  ·
    rw [if_pos q0]
    refine Wk.ifN (pc' := 36) d7_33 (XT.i0_eq_f (by decide)) rfl ?_
    refine Wk.aload (pc' := 38) d7_36 rfl rfl rfl ?_
    refine Wk.astoreN (pc' := 39) (Ls' := #[.val (.ref a), .val (.ref r0), .val (rf hB H.length), .val (.int (4 : Int32)), .val (.int (0 : Int32)), .val (.ref r0)]) d7_38 rfl rfl rfl ?_
    refine Wk.iinc (pc' := 42) (Ls' := #[.val (.ref a), .val (.ref r0), .val (rf hB H.length), .val (.int (4 : Int32)), .val (.int (1 : Int32)), .val (.ref r0)]) (1 : Int32) d7_39 rfl (by decide) rfl rfl ?_
    refine Wk.goTo (pc' := 12) d7_42 (by decide) (by decide) ?_
    refine Wk.iload (pc' := 14) d7_12 rfl rfl ?_
    refine Wk.iloadN (pc' := 15) d7_14 rfl rfl ?_
    refine Wk.icN (pc' := 18) d7_15 (XT.ii_ge_f (by decide)) rfl ?_
    refine Wk.aloadN (pc' := 19) d7_18 rfl rfl rfl ?_
    refine Wk.iload (pc' := 21) d7_19 rfl rfl ?_
    refine Wk.aaloadC (pc' := 22) (v := (.ref r1)) d7_21 (gaR rfl) (⟨fun _ q => (by cases q), AV.2.1.2⟩ : Z.isArrayOf (cloneOf cl) _) (fun q => by cases q) rfl (by rw [show (cloneOf cl).slots.size = 4 from hz]; decide) e1 rfl ?_
    refine Wk.astore (pc' := 24) (Ls' := #[.val (.ref a), .val (.ref r0), .val (rf hB H.length), .val (.int (4 : Int32)), .val (.int (1 : Int32)), .val (.ref r1)]) d7_22 rfl rfl rfl ?_
    refine Wk.aload (pc' := 26) d7_24 rfl rfl rfl ?_
    refine Wk.getFold (pc' := 29) d7_26 (wd58 hw) f1 rfl ?_
    refine Wk.aloadN (pc' := 30) d7_29 rfl rfl rfl ?_
    refine Wk.callV (pc' := 33) (argsL := [(.ref a)]) (st := []) d7_30 (wd60 hw) (wd61 hw) (Wk.nfSel (wd63 hw)) (wd63 hw) (wd62 hw) (wd8 hw) (wd64 hw) (by decide) (lenOf pd_9 rfl) (fun _ P => x1.ext P.toExt) (m_seq l Z a0 hw hB (H ++ [Sum.inr (cloneOf cl)]) ck sC hck n1 a ([97, 99, 116, 105, 111, 110] : List Int32) xs (s1 _) A.app) rfl (Nat.le_of_ble_eq_true rfl) (Nat.le_of_ble_eq_true rfl) (by first | (simp only [List.length_append, List.length_cons, List.length_nil] <;> omega) | simp) (Nat.le_of_ble_eq_true rfl) rfl rfl ?_
    rintro _ _ ⟨rfl, hH⟩; obtain rfl := hH.symm
    show WP (l, consts_1) Z hB _ _ _ _ _ _ _ _ (H ++ [Sum.inr (cloneOf cl)]) _ _ [(.int (if ([97, 99, 116, 105, 111, 110] : List Int32) = xs then 1 else 0))]
    by_cases q1 : ([97, 99, 116, 105, 111, 110] : List Int32) = xs
    ·
      rw [if_pos q1]
      refine Wk.ifN (pc' := 36) d7_33 (XT.i0_eq_f (by decide)) rfl ?_
      refine Wk.aload (pc' := 38) d7_36 rfl rfl rfl ?_
      refine Wk.astoreN (pc' := 39) (Ls' := #[.val (.ref a), .val (.ref r1), .val (rf hB H.length), .val (.int (4 : Int32)), .val (.int (1 : Int32)), .val (.ref r1)]) d7_38 rfl rfl rfl ?_
      refine Wk.iinc (pc' := 42) (Ls' := #[.val (.ref a), .val (.ref r1), .val (rf hB H.length), .val (.int (4 : Int32)), .val (.int (2 : Int32)), .val (.ref r1)]) (2 : Int32) d7_39 rfl (by decide) rfl rfl ?_
      refine Wk.goTo (pc' := 12) d7_42 (by decide) (by decide) ?_
      refine Wk.iload (pc' := 14) d7_12 rfl rfl ?_
      refine Wk.iloadN (pc' := 15) d7_14 rfl rfl ?_
      refine Wk.icN (pc' := 18) d7_15 (XT.ii_ge_f (by decide)) rfl ?_
      refine Wk.aloadN (pc' := 19) d7_18 rfl rfl rfl ?_
      refine Wk.iload (pc' := 21) d7_19 rfl rfl ?_
      refine Wk.aaloadC (pc' := 22) (v := (.ref r2)) d7_21 (gaR rfl) (⟨fun _ q => (by cases q), AV.2.1.2⟩ : Z.isArrayOf (cloneOf cl) _) (fun q => by cases q) rfl (by rw [show (cloneOf cl).slots.size = 4 from hz]; decide) e2 rfl ?_
      refine Wk.astore (pc' := 24) (Ls' := #[.val (.ref a), .val (.ref r1), .val (rf hB H.length), .val (.int (4 : Int32)), .val (.int (2 : Int32)), .val (.ref r2)]) d7_22 rfl rfl rfl ?_
      refine Wk.aload (pc' := 26) d7_24 rfl rfl rfl ?_
      refine Wk.getFold (pc' := 29) d7_26 (wd58 hw) f2 rfl ?_
      refine Wk.aloadN (pc' := 30) d7_29 rfl rfl rfl ?_
      refine Wk.callV (pc' := 33) (argsL := [(.ref a)]) (st := []) d7_30 (wd60 hw) (wd61 hw) (Wk.nfSel (wd63 hw)) (wd63 hw) (wd62 hw) (wd8 hw) (wd64 hw) (by decide) (lenOf pd_9 rfl) (fun _ P => x2.ext P.toExt) (m_seq l Z a0 hw hB (H ++ [Sum.inr (cloneOf cl)]) ck sC hck n2 a ([114, 101, 115, 111, 117, 114, 99, 101] : List Int32) xs (s2 _) A.app) rfl (Nat.le_of_ble_eq_true rfl) (Nat.le_of_ble_eq_true rfl) (by first | (simp only [List.length_append, List.length_cons, List.length_nil] <;> omega) | simp) (Nat.le_of_ble_eq_true rfl) rfl rfl ?_
      rintro _ _ ⟨rfl, hH⟩; obtain rfl := hH.symm
      show WP (l, consts_1) Z hB _ _ _ _ _ _ _ _ (H ++ [Sum.inr (cloneOf cl)]) _ _ [(.int (if ([114, 101, 115, 111, 117, 114, 99, 101] : List Int32) = xs then 1 else 0))]
      by_cases q2 : ([114, 101, 115, 111, 117, 114, 99, 101] : List Int32) = xs
      ·
        rw [if_pos q2]
        refine Wk.ifN (pc' := 36) d7_33 (XT.i0_eq_f (by decide)) rfl ?_
        refine Wk.aload (pc' := 38) d7_36 rfl rfl rfl ?_
        refine Wk.astoreN (pc' := 39) (Ls' := #[.val (.ref a), .val (.ref r2), .val (rf hB H.length), .val (.int (4 : Int32)), .val (.int (2 : Int32)), .val (.ref r2)]) d7_38 rfl rfl rfl ?_
        refine Wk.iinc (pc' := 42) (Ls' := #[.val (.ref a), .val (.ref r2), .val (rf hB H.length), .val (.int (4 : Int32)), .val (.int (3 : Int32)), .val (.ref r2)]) (3 : Int32) d7_39 rfl (by decide) rfl rfl ?_
        refine Wk.goTo (pc' := 12) d7_42 (by decide) (by decide) ?_
        refine Wk.iload (pc' := 14) d7_12 rfl rfl ?_
        refine Wk.iloadN (pc' := 15) d7_14 rfl rfl ?_
        refine Wk.icN (pc' := 18) d7_15 (XT.ii_ge_f (by decide)) rfl ?_
        refine Wk.aloadN (pc' := 19) d7_18 rfl rfl rfl ?_
        refine Wk.iload (pc' := 21) d7_19 rfl rfl ?_
        refine Wk.aaloadC (pc' := 22) (v := (.ref r3)) d7_21 (gaR rfl) (⟨fun _ q => (by cases q), AV.2.1.2⟩ : Z.isArrayOf (cloneOf cl) _) (fun q => by cases q) rfl (by rw [show (cloneOf cl).slots.size = 4 from hz]; decide) e3 rfl ?_
        refine Wk.astore (pc' := 24) (Ls' := #[.val (.ref a), .val (.ref r2), .val (rf hB H.length), .val (.int (4 : Int32)), .val (.int (3 : Int32)), .val (.ref r3)]) d7_22 rfl rfl rfl ?_
        refine Wk.aload (pc' := 26) d7_24 rfl rfl rfl ?_
        refine Wk.getFold (pc' := 29) d7_26 (wd58 hw) f3 rfl ?_
        refine Wk.aloadN (pc' := 30) d7_29 rfl rfl rfl ?_
        refine Wk.callV (pc' := 33) (argsL := [(.ref a)]) (st := []) d7_30 (wd60 hw) (wd61 hw) (Wk.nfSel (wd63 hw)) (wd63 hw) (wd62 hw) (wd8 hw) (wd64 hw) (by decide) (lenOf pd_9 rfl) (fun _ P => x3.ext P.toExt) (m_seq l Z a0 hw hB (H ++ [Sum.inr (cloneOf cl)]) ck sC hck n3 a ([99, 111, 110, 116, 101, 120, 116] : List Int32) xs (s3 _) A.app) rfl (Nat.le_of_ble_eq_true rfl) (Nat.le_of_ble_eq_true rfl) (by first | (simp only [List.length_append, List.length_cons, List.length_nil] <;> omega) | simp) (Nat.le_of_ble_eq_true rfl) rfl rfl ?_
        rintro _ _ ⟨rfl, hH⟩; obtain rfl := hH.symm
        show WP (l, consts_1) Z hB _ _ _ _ _ _ _ _ (H ++ [Sum.inr (cloneOf cl)]) _ _ [(.int (if ([99, 111, 110, 116, 101, 120, 116] : List Int32) = xs then 1 else 0))]
        by_cases q3 : ([99, 111, 110, 116, 101, 120, 116] : List Int32) = xs
        ·
          rw [if_pos q3]
          refine Wk.ifN (pc' := 36) d7_33 (XT.i0_eq_f (by decide)) rfl ?_
          refine Wk.aload (pc' := 38) d7_36 rfl rfl rfl ?_
          refine Wk.astoreN (pc' := 39) (Ls' := #[.val (.ref a), .val (.ref r3), .val (rf hB H.length), .val (.int (4 : Int32)), .val (.int (3 : Int32)), .val (.ref r3)]) d7_38 rfl rfl rfl ?_
          refine Wk.iinc (pc' := 42) (Ls' := #[.val (.ref a), .val (.ref r3), .val (rf hB H.length), .val (.int (4 : Int32)), .val (.int (4 : Int32)), .val (.ref r3)]) (4 : Int32) d7_39 rfl (by decide) rfl rfl ?_
          refine Wk.goTo (pc' := 12) d7_42 (by decide) (by decide) ?_
          refine Wk.iload (pc' := 14) d7_12 rfl rfl ?_
          refine Wk.iloadN (pc' := 15) d7_14 rfl rfl ?_
          refine Wk.icY (pc' := 45) d7_15 (XT.ii_ge_t (by decide)) (by decide) (by decide) ?_
          refine Wk.aloadN (pc' := 46) d7_45 rfl rfl rfl ?_
          exact Wk.aret (t := (.object "com/example/reckon/reckon/core/RequestData$Root")) d7_46 rfl rfl rfl (by first | (simp only [List.length_append, List.length_cons, List.length_nil] <;> omega) | simp) (Nat.le_of_ble_eq_true rfl) ⟨congrArg some (show (.ref r3) = nmV xs r0 r1 r2 r3 from by rw [nmV, if_pos q3]), rfl⟩
        ·
          rw [if_neg q3]
          refine Wk.ifY (pc' := 39) d7_33 (XT.i0_eq_t rfl) (by decide) (by decide) ?_
          refine Wk.iinc (pc' := 42) (Ls' := #[.val (.ref a), .val (.ref r2), .val (rf hB H.length), .val (.int (4 : Int32)), .val (.int (4 : Int32)), .val (.ref r3)]) (4 : Int32) d7_39 rfl (by decide) rfl rfl ?_
          refine Wk.goTo (pc' := 12) d7_42 (by decide) (by decide) ?_
          refine Wk.iload (pc' := 14) d7_12 rfl rfl ?_
          refine Wk.iloadN (pc' := 15) d7_14 rfl rfl ?_
          refine Wk.icY (pc' := 45) d7_15 (XT.ii_ge_t (by decide)) (by decide) (by decide) ?_
          refine Wk.aloadN (pc' := 46) d7_45 rfl rfl rfl ?_
          exact Wk.aret (t := (.object "com/example/reckon/reckon/core/RequestData$Root")) d7_46 rfl rfl rfl (by first | (simp only [List.length_append, List.length_cons, List.length_nil] <;> omega) | simp) (Nat.le_of_ble_eq_true rfl) ⟨congrArg some (show (.ref r2) = nmV xs r0 r1 r2 r3 from by rw [nmV, if_neg q3, if_pos q2]), rfl⟩
      ·
        rw [if_neg q2]
        refine Wk.ifY (pc' := 39) d7_33 (XT.i0_eq_t rfl) (by decide) (by decide) ?_
        refine Wk.iinc (pc' := 42) (Ls' := #[.val (.ref a), .val (.ref r1), .val (rf hB H.length), .val (.int (4 : Int32)), .val (.int (3 : Int32)), .val (.ref r2)]) (3 : Int32) d7_39 rfl (by decide) rfl rfl ?_
        refine Wk.goTo (pc' := 12) d7_42 (by decide) (by decide) ?_
        refine Wk.iload (pc' := 14) d7_12 rfl rfl ?_
        refine Wk.iloadN (pc' := 15) d7_14 rfl rfl ?_
        refine Wk.icN (pc' := 18) d7_15 (XT.ii_ge_f (by decide)) rfl ?_
        refine Wk.aloadN (pc' := 19) d7_18 rfl rfl rfl ?_
        refine Wk.iload (pc' := 21) d7_19 rfl rfl ?_
        refine Wk.aaloadC (pc' := 22) (v := (.ref r3)) d7_21 (gaR rfl) (⟨fun _ q => (by cases q), AV.2.1.2⟩ : Z.isArrayOf (cloneOf cl) _) (fun q => by cases q) rfl (by rw [show (cloneOf cl).slots.size = 4 from hz]; decide) e3 rfl ?_
        refine Wk.astore (pc' := 24) (Ls' := #[.val (.ref a), .val (.ref r1), .val (rf hB H.length), .val (.int (4 : Int32)), .val (.int (3 : Int32)), .val (.ref r3)]) d7_22 rfl rfl rfl ?_
        refine Wk.aload (pc' := 26) d7_24 rfl rfl rfl ?_
        refine Wk.getFold (pc' := 29) d7_26 (wd58 hw) f3 rfl ?_
        refine Wk.aloadN (pc' := 30) d7_29 rfl rfl rfl ?_
        refine Wk.callV (pc' := 33) (argsL := [(.ref a)]) (st := []) d7_30 (wd60 hw) (wd61 hw) (Wk.nfSel (wd63 hw)) (wd63 hw) (wd62 hw) (wd8 hw) (wd64 hw) (by decide) (lenOf pd_9 rfl) (fun _ P => x3.ext P.toExt) (m_seq l Z a0 hw hB (H ++ [Sum.inr (cloneOf cl)]) ck sC hck n3 a ([99, 111, 110, 116, 101, 120, 116] : List Int32) xs (s3 _) A.app) rfl (Nat.le_of_ble_eq_true rfl) (Nat.le_of_ble_eq_true rfl) (by first | (simp only [List.length_append, List.length_cons, List.length_nil] <;> omega) | simp) (Nat.le_of_ble_eq_true rfl) rfl rfl ?_
        rintro _ _ ⟨rfl, hH⟩; obtain rfl := hH.symm
        show WP (l, consts_1) Z hB _ _ _ _ _ _ _ _ (H ++ [Sum.inr (cloneOf cl)]) _ _ [(.int (if ([99, 111, 110, 116, 101, 120, 116] : List Int32) = xs then 1 else 0))]
        by_cases q3 : ([99, 111, 110, 116, 101, 120, 116] : List Int32) = xs
        ·
          rw [if_pos q3]
          refine Wk.ifN (pc' := 36) d7_33 (XT.i0_eq_f (by decide)) rfl ?_
          refine Wk.aload (pc' := 38) d7_36 rfl rfl rfl ?_
          refine Wk.astoreN (pc' := 39) (Ls' := #[.val (.ref a), .val (.ref r3), .val (rf hB H.length), .val (.int (4 : Int32)), .val (.int (3 : Int32)), .val (.ref r3)]) d7_38 rfl rfl rfl ?_
          refine Wk.iinc (pc' := 42) (Ls' := #[.val (.ref a), .val (.ref r3), .val (rf hB H.length), .val (.int (4 : Int32)), .val (.int (4 : Int32)), .val (.ref r3)]) (4 : Int32) d7_39 rfl (by decide) rfl rfl ?_
          refine Wk.goTo (pc' := 12) d7_42 (by decide) (by decide) ?_
          refine Wk.iload (pc' := 14) d7_12 rfl rfl ?_
          refine Wk.iloadN (pc' := 15) d7_14 rfl rfl ?_
          refine Wk.icY (pc' := 45) d7_15 (XT.ii_ge_t (by decide)) (by decide) (by decide) ?_
          refine Wk.aloadN (pc' := 46) d7_45 rfl rfl rfl ?_
          exact Wk.aret (t := (.object "com/example/reckon/reckon/core/RequestData$Root")) d7_46 rfl rfl rfl (by first | (simp only [List.length_append, List.length_cons, List.length_nil] <;> omega) | simp) (Nat.le_of_ble_eq_true rfl) ⟨congrArg some (show (.ref r3) = nmV xs r0 r1 r2 r3 from by rw [nmV, if_pos q3]), rfl⟩
        ·
          rw [if_neg q3]
          refine Wk.ifY (pc' := 39) d7_33 (XT.i0_eq_t rfl) (by decide) (by decide) ?_
          refine Wk.iinc (pc' := 42) (Ls' := #[.val (.ref a), .val (.ref r1), .val (rf hB H.length), .val (.int (4 : Int32)), .val (.int (4 : Int32)), .val (.ref r3)]) (4 : Int32) d7_39 rfl (by decide) rfl rfl ?_
          refine Wk.goTo (pc' := 12) d7_42 (by decide) (by decide) ?_
          refine Wk.iload (pc' := 14) d7_12 rfl rfl ?_
          refine Wk.iloadN (pc' := 15) d7_14 rfl rfl ?_
          refine Wk.icY (pc' := 45) d7_15 (XT.ii_ge_t (by decide)) (by decide) (by decide) ?_
          refine Wk.aloadN (pc' := 46) d7_45 rfl rfl rfl ?_
          exact Wk.aret (t := (.object "com/example/reckon/reckon/core/RequestData$Root")) d7_46 rfl rfl rfl (by first | (simp only [List.length_append, List.length_cons, List.length_nil] <;> omega) | simp) (Nat.le_of_ble_eq_true rfl) ⟨congrArg some (show (.ref r1) = nmV xs r0 r1 r2 r3 from by rw [nmV, if_neg q3, if_neg q2, if_pos q1]), rfl⟩
    ·
      rw [if_neg q1]
      refine Wk.ifY (pc' := 39) d7_33 (XT.i0_eq_t rfl) (by decide) (by decide) ?_
      refine Wk.iinc (pc' := 42) (Ls' := #[.val (.ref a), .val (.ref r0), .val (rf hB H.length), .val (.int (4 : Int32)), .val (.int (2 : Int32)), .val (.ref r1)]) (2 : Int32) d7_39 rfl (by decide) rfl rfl ?_
      refine Wk.goTo (pc' := 12) d7_42 (by decide) (by decide) ?_
      refine Wk.iload (pc' := 14) d7_12 rfl rfl ?_
      refine Wk.iloadN (pc' := 15) d7_14 rfl rfl ?_
      refine Wk.icN (pc' := 18) d7_15 (XT.ii_ge_f (by decide)) rfl ?_
      refine Wk.aloadN (pc' := 19) d7_18 rfl rfl rfl ?_
      refine Wk.iload (pc' := 21) d7_19 rfl rfl ?_
      refine Wk.aaloadC (pc' := 22) (v := (.ref r2)) d7_21 (gaR rfl) (⟨fun _ q => (by cases q), AV.2.1.2⟩ : Z.isArrayOf (cloneOf cl) _) (fun q => by cases q) rfl (by rw [show (cloneOf cl).slots.size = 4 from hz]; decide) e2 rfl ?_
      refine Wk.astore (pc' := 24) (Ls' := #[.val (.ref a), .val (.ref r0), .val (rf hB H.length), .val (.int (4 : Int32)), .val (.int (2 : Int32)), .val (.ref r2)]) d7_22 rfl rfl rfl ?_
      refine Wk.aload (pc' := 26) d7_24 rfl rfl rfl ?_
      refine Wk.getFold (pc' := 29) d7_26 (wd58 hw) f2 rfl ?_
      refine Wk.aloadN (pc' := 30) d7_29 rfl rfl rfl ?_
      refine Wk.callV (pc' := 33) (argsL := [(.ref a)]) (st := []) d7_30 (wd60 hw) (wd61 hw) (Wk.nfSel (wd63 hw)) (wd63 hw) (wd62 hw) (wd8 hw) (wd64 hw) (by decide) (lenOf pd_9 rfl) (fun _ P => x2.ext P.toExt) (m_seq l Z a0 hw hB (H ++ [Sum.inr (cloneOf cl)]) ck sC hck n2 a ([114, 101, 115, 111, 117, 114, 99, 101] : List Int32) xs (s2 _) A.app) rfl (Nat.le_of_ble_eq_true rfl) (Nat.le_of_ble_eq_true rfl) (by first | (simp only [List.length_append, List.length_cons, List.length_nil] <;> omega) | simp) (Nat.le_of_ble_eq_true rfl) rfl rfl ?_
      rintro _ _ ⟨rfl, hH⟩; obtain rfl := hH.symm
      show WP (l, consts_1) Z hB _ _ _ _ _ _ _ _ (H ++ [Sum.inr (cloneOf cl)]) _ _ [(.int (if ([114, 101, 115, 111, 117, 114, 99, 101] : List Int32) = xs then 1 else 0))]
      by_cases q2 : ([114, 101, 115, 111, 117, 114, 99, 101] : List Int32) = xs
      ·
        rw [if_pos q2]
        refine Wk.ifN (pc' := 36) d7_33 (XT.i0_eq_f (by decide)) rfl ?_
        refine Wk.aload (pc' := 38) d7_36 rfl rfl rfl ?_
        refine Wk.astoreN (pc' := 39) (Ls' := #[.val (.ref a), .val (.ref r2), .val (rf hB H.length), .val (.int (4 : Int32)), .val (.int (2 : Int32)), .val (.ref r2)]) d7_38 rfl rfl rfl ?_
        refine Wk.iinc (pc' := 42) (Ls' := #[.val (.ref a), .val (.ref r2), .val (rf hB H.length), .val (.int (4 : Int32)), .val (.int (3 : Int32)), .val (.ref r2)]) (3 : Int32) d7_39 rfl (by decide) rfl rfl ?_
        refine Wk.goTo (pc' := 12) d7_42 (by decide) (by decide) ?_
        refine Wk.iload (pc' := 14) d7_12 rfl rfl ?_
        refine Wk.iloadN (pc' := 15) d7_14 rfl rfl ?_
        refine Wk.icN (pc' := 18) d7_15 (XT.ii_ge_f (by decide)) rfl ?_
        refine Wk.aloadN (pc' := 19) d7_18 rfl rfl rfl ?_
        refine Wk.iload (pc' := 21) d7_19 rfl rfl ?_
        refine Wk.aaloadC (pc' := 22) (v := (.ref r3)) d7_21 (gaR rfl) (⟨fun _ q => (by cases q), AV.2.1.2⟩ : Z.isArrayOf (cloneOf cl) _) (fun q => by cases q) rfl (by rw [show (cloneOf cl).slots.size = 4 from hz]; decide) e3 rfl ?_
        refine Wk.astore (pc' := 24) (Ls' := #[.val (.ref a), .val (.ref r2), .val (rf hB H.length), .val (.int (4 : Int32)), .val (.int (3 : Int32)), .val (.ref r3)]) d7_22 rfl rfl rfl ?_
        refine Wk.aload (pc' := 26) d7_24 rfl rfl rfl ?_
        refine Wk.getFold (pc' := 29) d7_26 (wd58 hw) f3 rfl ?_
        refine Wk.aloadN (pc' := 30) d7_29 rfl rfl rfl ?_
        refine Wk.callV (pc' := 33) (argsL := [(.ref a)]) (st := []) d7_30 (wd60 hw) (wd61 hw) (Wk.nfSel (wd63 hw)) (wd63 hw) (wd62 hw) (wd8 hw) (wd64 hw) (by decide) (lenOf pd_9 rfl) (fun _ P => x3.ext P.toExt) (m_seq l Z a0 hw hB (H ++ [Sum.inr (cloneOf cl)]) ck sC hck n3 a ([99, 111, 110, 116, 101, 120, 116] : List Int32) xs (s3 _) A.app) rfl (Nat.le_of_ble_eq_true rfl) (Nat.le_of_ble_eq_true rfl) (by first | (simp only [List.length_append, List.length_cons, List.length_nil] <;> omega) | simp) (Nat.le_of_ble_eq_true rfl) rfl rfl ?_
        rintro _ _ ⟨rfl, hH⟩; obtain rfl := hH.symm
        show WP (l, consts_1) Z hB _ _ _ _ _ _ _ _ (H ++ [Sum.inr (cloneOf cl)]) _ _ [(.int (if ([99, 111, 110, 116, 101, 120, 116] : List Int32) = xs then 1 else 0))]
        by_cases q3 : ([99, 111, 110, 116, 101, 120, 116] : List Int32) = xs
        ·
          rw [if_pos q3]
          refine Wk.ifN (pc' := 36) d7_33 (XT.i0_eq_f (by decide)) rfl ?_
          refine Wk.aload (pc' := 38) d7_36 rfl rfl rfl ?_
          refine Wk.astoreN (pc' := 39) (Ls' := #[.val (.ref a), .val (.ref r3), .val (rf hB H.length), .val (.int (4 : Int32)), .val (.int (3 : Int32)), .val (.ref r3)]) d7_38 rfl rfl rfl ?_
          refine Wk.iinc (pc' := 42) (Ls' := #[.val (.ref a), .val (.ref r3), .val (rf hB H.length), .val (.int (4 : Int32)), .val (.int (4 : Int32)), .val (.ref r3)]) (4 : Int32) d7_39 rfl (by decide) rfl rfl ?_
          refine Wk.goTo (pc' := 12) d7_42 (by decide) (by decide) ?_
          refine Wk.iload (pc' := 14) d7_12 rfl rfl ?_
          refine Wk.iloadN (pc' := 15) d7_14 rfl rfl ?_
          refine Wk.icY (pc' := 45) d7_15 (XT.ii_ge_t (by decide)) (by decide) (by decide) ?_
          refine Wk.aloadN (pc' := 46) d7_45 rfl rfl rfl ?_
          exact Wk.aret (t := (.object "com/example/reckon/reckon/core/RequestData$Root")) d7_46 rfl rfl rfl (by first | (simp only [List.length_append, List.length_cons, List.length_nil] <;> omega) | simp) (Nat.le_of_ble_eq_true rfl) ⟨congrArg some (show (.ref r3) = nmV xs r0 r1 r2 r3 from by rw [nmV, if_pos q3]), rfl⟩
        ·
          rw [if_neg q3]
          refine Wk.ifY (pc' := 39) d7_33 (XT.i0_eq_t rfl) (by decide) (by decide) ?_
          refine Wk.iinc (pc' := 42) (Ls' := #[.val (.ref a), .val (.ref r2), .val (rf hB H.length), .val (.int (4 : Int32)), .val (.int (4 : Int32)), .val (.ref r3)]) (4 : Int32) d7_39 rfl (by decide) rfl rfl ?_
          refine Wk.goTo (pc' := 12) d7_42 (by decide) (by decide) ?_
          refine Wk.iload (pc' := 14) d7_12 rfl rfl ?_
          refine Wk.iloadN (pc' := 15) d7_14 rfl rfl ?_
          refine Wk.icY (pc' := 45) d7_15 (XT.ii_ge_t (by decide)) (by decide) (by decide) ?_
          refine Wk.aloadN (pc' := 46) d7_45 rfl rfl rfl ?_
          exact Wk.aret (t := (.object "com/example/reckon/reckon/core/RequestData$Root")) d7_46 rfl rfl rfl (by first | (simp only [List.length_append, List.length_cons, List.length_nil] <;> omega) | simp) (Nat.le_of_ble_eq_true rfl) ⟨congrArg some (show (.ref r2) = nmV xs r0 r1 r2 r3 from by rw [nmV, if_neg q3, if_pos q2]), rfl⟩
      ·
        rw [if_neg q2]
        refine Wk.ifY (pc' := 39) d7_33 (XT.i0_eq_t rfl) (by decide) (by decide) ?_
        refine Wk.iinc (pc' := 42) (Ls' := #[.val (.ref a), .val (.ref r0), .val (rf hB H.length), .val (.int (4 : Int32)), .val (.int (3 : Int32)), .val (.ref r2)]) (3 : Int32) d7_39 rfl (by decide) rfl rfl ?_
        refine Wk.goTo (pc' := 12) d7_42 (by decide) (by decide) ?_
        refine Wk.iload (pc' := 14) d7_12 rfl rfl ?_
        refine Wk.iloadN (pc' := 15) d7_14 rfl rfl ?_
        refine Wk.icN (pc' := 18) d7_15 (XT.ii_ge_f (by decide)) rfl ?_
        refine Wk.aloadN (pc' := 19) d7_18 rfl rfl rfl ?_
        refine Wk.iload (pc' := 21) d7_19 rfl rfl ?_
        refine Wk.aaloadC (pc' := 22) (v := (.ref r3)) d7_21 (gaR rfl) (⟨fun _ q => (by cases q), AV.2.1.2⟩ : Z.isArrayOf (cloneOf cl) _) (fun q => by cases q) rfl (by rw [show (cloneOf cl).slots.size = 4 from hz]; decide) e3 rfl ?_
        refine Wk.astore (pc' := 24) (Ls' := #[.val (.ref a), .val (.ref r0), .val (rf hB H.length), .val (.int (4 : Int32)), .val (.int (3 : Int32)), .val (.ref r3)]) d7_22 rfl rfl rfl ?_
        refine Wk.aload (pc' := 26) d7_24 rfl rfl rfl ?_
        refine Wk.getFold (pc' := 29) d7_26 (wd58 hw) f3 rfl ?_
        refine Wk.aloadN (pc' := 30) d7_29 rfl rfl rfl ?_
        refine Wk.callV (pc' := 33) (argsL := [(.ref a)]) (st := []) d7_30 (wd60 hw) (wd61 hw) (Wk.nfSel (wd63 hw)) (wd63 hw) (wd62 hw) (wd8 hw) (wd64 hw) (by decide) (lenOf pd_9 rfl) (fun _ P => x3.ext P.toExt) (m_seq l Z a0 hw hB (H ++ [Sum.inr (cloneOf cl)]) ck sC hck n3 a ([99, 111, 110, 116, 101, 120, 116] : List Int32) xs (s3 _) A.app) rfl (Nat.le_of_ble_eq_true rfl) (Nat.le_of_ble_eq_true rfl) (by first | (simp only [List.length_append, List.length_cons, List.length_nil] <;> omega) | simp) (Nat.le_of_ble_eq_true rfl) rfl rfl ?_
        rintro _ _ ⟨rfl, hH⟩; obtain rfl := hH.symm
        show WP (l, consts_1) Z hB _ _ _ _ _ _ _ _ (H ++ [Sum.inr (cloneOf cl)]) _ _ [(.int (if ([99, 111, 110, 116, 101, 120, 116] : List Int32) = xs then 1 else 0))]
        by_cases q3 : ([99, 111, 110, 116, 101, 120, 116] : List Int32) = xs
        ·
          rw [if_pos q3]
          refine Wk.ifN (pc' := 36) d7_33 (XT.i0_eq_f (by decide)) rfl ?_
          refine Wk.aload (pc' := 38) d7_36 rfl rfl rfl ?_
          refine Wk.astoreN (pc' := 39) (Ls' := #[.val (.ref a), .val (.ref r3), .val (rf hB H.length), .val (.int (4 : Int32)), .val (.int (3 : Int32)), .val (.ref r3)]) d7_38 rfl rfl rfl ?_
          refine Wk.iinc (pc' := 42) (Ls' := #[.val (.ref a), .val (.ref r3), .val (rf hB H.length), .val (.int (4 : Int32)), .val (.int (4 : Int32)), .val (.ref r3)]) (4 : Int32) d7_39 rfl (by decide) rfl rfl ?_
          refine Wk.goTo (pc' := 12) d7_42 (by decide) (by decide) ?_
          refine Wk.iload (pc' := 14) d7_12 rfl rfl ?_
          refine Wk.iloadN (pc' := 15) d7_14 rfl rfl ?_
          refine Wk.icY (pc' := 45) d7_15 (XT.ii_ge_t (by decide)) (by decide) (by decide) ?_
          refine Wk.aloadN (pc' := 46) d7_45 rfl rfl rfl ?_
          exact Wk.aret (t := (.object "com/example/reckon/reckon/core/RequestData$Root")) d7_46 rfl rfl rfl (by first | (simp only [List.length_append, List.length_cons, List.length_nil] <;> omega) | simp) (Nat.le_of_ble_eq_true rfl) ⟨congrArg some (show (.ref r3) = nmV xs r0 r1 r2 r3 from by rw [nmV, if_pos q3]), rfl⟩
        ·
          rw [if_neg q3]
          refine Wk.ifY (pc' := 39) d7_33 (XT.i0_eq_t rfl) (by decide) (by decide) ?_
          refine Wk.iinc (pc' := 42) (Ls' := #[.val (.ref a), .val (.ref r0), .val (rf hB H.length), .val (.int (4 : Int32)), .val (.int (4 : Int32)), .val (.ref r3)]) (4 : Int32) d7_39 rfl (by decide) rfl rfl ?_
          refine Wk.goTo (pc' := 12) d7_42 (by decide) (by decide) ?_
          refine Wk.iload (pc' := 14) d7_12 rfl rfl ?_
          refine Wk.iloadN (pc' := 15) d7_14 rfl rfl ?_
          refine Wk.icY (pc' := 45) d7_15 (XT.ii_ge_t (by decide)) (by decide) (by decide) ?_
          refine Wk.aloadN (pc' := 46) d7_45 rfl rfl rfl ?_
          exact Wk.aret (t := (.object "com/example/reckon/reckon/core/RequestData$Root")) d7_46 rfl rfl rfl (by first | (simp only [List.length_append, List.length_cons, List.length_nil] <;> omega) | simp) (Nat.le_of_ble_eq_true rfl) ⟨congrArg some (show (.ref r0) = nmV xs r0 r1 r2 r3 from by rw [nmV, if_neg q3, if_neg q2, if_neg q1, if_pos q0]), rfl⟩
  ·
    rw [if_neg q0]
    refine Wk.ifY (pc' := 39) d7_33 (XT.i0_eq_t rfl) (by decide) (by decide) ?_
    refine Wk.iinc (pc' := 42) (Ls' := #[.val (.ref a), .val .null, .val (rf hB H.length), .val (.int (4 : Int32)), .val (.int (1 : Int32)), .val (.ref r0)]) (1 : Int32) d7_39 rfl (by decide) rfl rfl ?_
    refine Wk.goTo (pc' := 12) d7_42 (by decide) (by decide) ?_
    refine Wk.iload (pc' := 14) d7_12 rfl rfl ?_
    refine Wk.iloadN (pc' := 15) d7_14 rfl rfl ?_
    refine Wk.icN (pc' := 18) d7_15 (XT.ii_ge_f (by decide)) rfl ?_
    refine Wk.aloadN (pc' := 19) d7_18 rfl rfl rfl ?_
    refine Wk.iload (pc' := 21) d7_19 rfl rfl ?_
    refine Wk.aaloadC (pc' := 22) (v := (.ref r1)) d7_21 (gaR rfl) (⟨fun _ q => (by cases q), AV.2.1.2⟩ : Z.isArrayOf (cloneOf cl) _) (fun q => by cases q) rfl (by rw [show (cloneOf cl).slots.size = 4 from hz]; decide) e1 rfl ?_
    refine Wk.astore (pc' := 24) (Ls' := #[.val (.ref a), .val .null, .val (rf hB H.length), .val (.int (4 : Int32)), .val (.int (1 : Int32)), .val (.ref r1)]) d7_22 rfl rfl rfl ?_
    refine Wk.aload (pc' := 26) d7_24 rfl rfl rfl ?_
    refine Wk.getFold (pc' := 29) d7_26 (wd58 hw) f1 rfl ?_
    refine Wk.aloadN (pc' := 30) d7_29 rfl rfl rfl ?_
    refine Wk.callV (pc' := 33) (argsL := [(.ref a)]) (st := []) d7_30 (wd60 hw) (wd61 hw) (Wk.nfSel (wd63 hw)) (wd63 hw) (wd62 hw) (wd8 hw) (wd64 hw) (by decide) (lenOf pd_9 rfl) (fun _ P => x1.ext P.toExt) (m_seq l Z a0 hw hB (H ++ [Sum.inr (cloneOf cl)]) ck sC hck n1 a ([97, 99, 116, 105, 111, 110] : List Int32) xs (s1 _) A.app) rfl (Nat.le_of_ble_eq_true rfl) (Nat.le_of_ble_eq_true rfl) (by first | (simp only [List.length_append, List.length_cons, List.length_nil] <;> omega) | simp) (Nat.le_of_ble_eq_true rfl) rfl rfl ?_
    rintro _ _ ⟨rfl, hH⟩; obtain rfl := hH.symm
    show WP (l, consts_1) Z hB _ _ _ _ _ _ _ _ (H ++ [Sum.inr (cloneOf cl)]) _ _ [(.int (if ([97, 99, 116, 105, 111, 110] : List Int32) = xs then 1 else 0))]
    by_cases q1 : ([97, 99, 116, 105, 111, 110] : List Int32) = xs
    ·
      rw [if_pos q1]
      refine Wk.ifN (pc' := 36) d7_33 (XT.i0_eq_f (by decide)) rfl ?_
      refine Wk.aload (pc' := 38) d7_36 rfl rfl rfl ?_
      refine Wk.astoreN (pc' := 39) (Ls' := #[.val (.ref a), .val (.ref r1), .val (rf hB H.length), .val (.int (4 : Int32)), .val (.int (1 : Int32)), .val (.ref r1)]) d7_38 rfl rfl rfl ?_
      refine Wk.iinc (pc' := 42) (Ls' := #[.val (.ref a), .val (.ref r1), .val (rf hB H.length), .val (.int (4 : Int32)), .val (.int (2 : Int32)), .val (.ref r1)]) (2 : Int32) d7_39 rfl (by decide) rfl rfl ?_
      refine Wk.goTo (pc' := 12) d7_42 (by decide) (by decide) ?_
      refine Wk.iload (pc' := 14) d7_12 rfl rfl ?_
      refine Wk.iloadN (pc' := 15) d7_14 rfl rfl ?_
      refine Wk.icN (pc' := 18) d7_15 (XT.ii_ge_f (by decide)) rfl ?_
      refine Wk.aloadN (pc' := 19) d7_18 rfl rfl rfl ?_
      refine Wk.iload (pc' := 21) d7_19 rfl rfl ?_
      refine Wk.aaloadC (pc' := 22) (v := (.ref r2)) d7_21 (gaR rfl) (⟨fun _ q => (by cases q), AV.2.1.2⟩ : Z.isArrayOf (cloneOf cl) _) (fun q => by cases q) rfl (by rw [show (cloneOf cl).slots.size = 4 from hz]; decide) e2 rfl ?_
      refine Wk.astore (pc' := 24) (Ls' := #[.val (.ref a), .val (.ref r1), .val (rf hB H.length), .val (.int (4 : Int32)), .val (.int (2 : Int32)), .val (.ref r2)]) d7_22 rfl rfl rfl ?_
      refine Wk.aload (pc' := 26) d7_24 rfl rfl rfl ?_
      refine Wk.getFold (pc' := 29) d7_26 (wd58 hw) f2 rfl ?_
      refine Wk.aloadN (pc' := 30) d7_29 rfl rfl rfl ?_
      refine Wk.callV (pc' := 33) (argsL := [(.ref a)]) (st := []) d7_30 (wd60 hw) (wd61 hw) (Wk.nfSel (wd63 hw)) (wd63 hw) (wd62 hw) (wd8 hw) (wd64 hw) (by decide) (lenOf pd_9 rfl) (fun _ P => x2.ext P.toExt) (m_seq l Z a0 hw hB (H ++ [Sum.inr (cloneOf cl)]) ck sC hck n2 a ([114, 101, 115, 111, 117, 114, 99, 101] : List Int32) xs (s2 _) A.app) rfl (Nat.le_of_ble_eq_true rfl) (Nat.le_of_ble_eq_true rfl) (by first | (simp only [List.length_append, List.length_cons, List.length_nil] <;> omega) | simp) (Nat.le_of_ble_eq_true rfl) rfl rfl ?_
      rintro _ _ ⟨rfl, hH⟩; obtain rfl := hH.symm
      show WP (l, consts_1) Z hB _ _ _ _ _ _ _ _ (H ++ [Sum.inr (cloneOf cl)]) _ _ [(.int (if ([114, 101, 115, 111, 117, 114, 99, 101] : List Int32) = xs then 1 else 0))]
      by_cases q2 : ([114, 101, 115, 111, 117, 114, 99, 101] : List Int32) = xs
      ·
        rw [if_pos q2]
        refine Wk.ifN (pc' := 36) d7_33 (XT.i0_eq_f (by decide)) rfl ?_
        refine Wk.aload (pc' := 38) d7_36 rfl rfl rfl ?_
        refine Wk.astoreN (pc' := 39) (Ls' := #[.val (.ref a), .val (.ref r2), .val (rf hB H.length), .val (.int (4 : Int32)), .val (.int (2 : Int32)), .val (.ref r2)]) d7_38 rfl rfl rfl ?_
        refine Wk.iinc (pc' := 42) (Ls' := #[.val (.ref a), .val (.ref r2), .val (rf hB H.length), .val (.int (4 : Int32)), .val (.int (3 : Int32)), .val (.ref r2)]) (3 : Int32) d7_39 rfl (by decide) rfl rfl ?_
        refine Wk.goTo (pc' := 12) d7_42 (by decide) (by decide) ?_
        refine Wk.iload (pc' := 14) d7_12 rfl rfl ?_
        refine Wk.iloadN (pc' := 15) d7_14 rfl rfl ?_
        refine Wk.icN (pc' := 18) d7_15 (XT.ii_ge_f (by decide)) rfl ?_
        refine Wk.aloadN (pc' := 19) d7_18 rfl rfl rfl ?_
        refine Wk.iload (pc' := 21) d7_19 rfl rfl ?_
        refine Wk.aaloadC (pc' := 22) (v := (.ref r3)) d7_21 (gaR rfl) (⟨fun _ q => (by cases q), AV.2.1.2⟩ : Z.isArrayOf (cloneOf cl) _) (fun q => by cases q) rfl (by rw [show (cloneOf cl).slots.size = 4 from hz]; decide) e3 rfl ?_
        refine Wk.astore (pc' := 24) (Ls' := #[.val (.ref a), .val (.ref r2), .val (rf hB H.length), .val (.int (4 : Int32)), .val (.int (3 : Int32)), .val (.ref r3)]) d7_22 rfl rfl rfl ?_
        refine Wk.aload (pc' := 26) d7_24 rfl rfl rfl ?_
        refine Wk.getFold (pc' := 29) d7_26 (wd58 hw) f3 rfl ?_
        refine Wk.aloadN (pc' := 30) d7_29 rfl rfl rfl ?_
        refine Wk.callV (pc' := 33) (argsL := [(.ref a)]) (st := []) d7_30 (wd60 hw) (wd61 hw) (Wk.nfSel (wd63 hw)) (wd63 hw) (wd62 hw) (wd8 hw) (wd64 hw) (by decide) (lenOf pd_9 rfl) (fun _ P => x3.ext P.toExt) (m_seq l Z a0 hw hB (H ++ [Sum.inr (cloneOf cl)]) ck sC hck n3 a ([99, 111, 110, 116, 101, 120, 116] : List Int32) xs (s3 _) A.app) rfl (Nat.le_of_ble_eq_true rfl) (Nat.le_of_ble_eq_true rfl) (by first | (simp only [List.length_append, List.length_cons, List.length_nil] <;> omega) | simp) (Nat.le_of_ble_eq_true rfl) rfl rfl ?_
        rintro _ _ ⟨rfl, hH⟩; obtain rfl := hH.symm
        show WP (l, consts_1) Z hB _ _ _ _ _ _ _ _ (H ++ [Sum.inr (cloneOf cl)]) _ _ [(.int (if ([99, 111, 110, 116, 101, 120, 116] : List Int32) = xs then 1 else 0))]
        by_cases q3 : ([99, 111, 110, 116, 101, 120, 116] : List Int32) = xs
        ·
          rw [if_pos q3]
          refine Wk.ifN (pc' := 36) d7_33 (XT.i0_eq_f (by decide)) rfl ?_
          refine Wk.aload (pc' := 38) d7_36 rfl rfl rfl ?_
          refine Wk.astoreN (pc' := 39) (Ls' := #[.val (.ref a), .val (.ref r3), .val (rf hB H.length), .val (.int (4 : Int32)), .val (.int (3 : Int32)), .val (.ref r3)]) d7_38 rfl rfl rfl ?_
          refine Wk.iinc (pc' := 42) (Ls' := #[.val (.ref a), .val (.ref r3), .val (rf hB H.length), .val (.int (4 : Int32)), .val (.int (4 : Int32)), .val (.ref r3)]) (4 : Int32) d7_39 rfl (by decide) rfl rfl ?_
          refine Wk.goTo (pc' := 12) d7_42 (by decide) (by decide) ?_
          refine Wk.iload (pc' := 14) d7_12 rfl rfl ?_
          refine Wk.iloadN (pc' := 15) d7_14 rfl rfl ?_
          refine Wk.icY (pc' := 45) d7_15 (XT.ii_ge_t (by decide)) (by decide) (by decide) ?_
          refine Wk.aloadN (pc' := 46) d7_45 rfl rfl rfl ?_
          exact Wk.aret (t := (.object "com/example/reckon/reckon/core/RequestData$Root")) d7_46 rfl rfl rfl (by first | (simp only [List.length_append, List.length_cons, List.length_nil] <;> omega) | simp) (Nat.le_of_ble_eq_true rfl) ⟨congrArg some (show (.ref r3) = nmV xs r0 r1 r2 r3 from by rw [nmV, if_pos q3]), rfl⟩
        ·
          rw [if_neg q3]
          refine Wk.ifY (pc' := 39) d7_33 (XT.i0_eq_t rfl) (by decide) (by decide) ?_
          refine Wk.iinc (pc' := 42) (Ls' := #[.val (.ref a), .val (.ref r2), .val (rf hB H.length), .val (.int (4 : Int32)), .val (.int (4 : Int32)), .val (.ref r3)]) (4 : Int32) d7_39 rfl (by decide) rfl rfl ?_
          refine Wk.goTo (pc' := 12) d7_42 (by decide) (by decide) ?_
          refine Wk.iload (pc' := 14) d7_12 rfl rfl ?_
          refine Wk.iloadN (pc' := 15) d7_14 rfl rfl ?_
          refine Wk.icY (pc' := 45) d7_15 (XT.ii_ge_t (by decide)) (by decide) (by decide) ?_
          refine Wk.aloadN (pc' := 46) d7_45 rfl rfl rfl ?_
          exact Wk.aret (t := (.object "com/example/reckon/reckon/core/RequestData$Root")) d7_46 rfl rfl rfl (by first | (simp only [List.length_append, List.length_cons, List.length_nil] <;> omega) | simp) (Nat.le_of_ble_eq_true rfl) ⟨congrArg some (show (.ref r2) = nmV xs r0 r1 r2 r3 from by rw [nmV, if_neg q3, if_pos q2]), rfl⟩
      ·
        rw [if_neg q2]
        refine Wk.ifY (pc' := 39) d7_33 (XT.i0_eq_t rfl) (by decide) (by decide) ?_
        refine Wk.iinc (pc' := 42) (Ls' := #[.val (.ref a), .val (.ref r1), .val (rf hB H.length), .val (.int (4 : Int32)), .val (.int (3 : Int32)), .val (.ref r2)]) (3 : Int32) d7_39 rfl (by decide) rfl rfl ?_
        refine Wk.goTo (pc' := 12) d7_42 (by decide) (by decide) ?_
        refine Wk.iload (pc' := 14) d7_12 rfl rfl ?_
        refine Wk.iloadN (pc' := 15) d7_14 rfl rfl ?_
        refine Wk.icN (pc' := 18) d7_15 (XT.ii_ge_f (by decide)) rfl ?_
        refine Wk.aloadN (pc' := 19) d7_18 rfl rfl rfl ?_
        refine Wk.iload (pc' := 21) d7_19 rfl rfl ?_
        refine Wk.aaloadC (pc' := 22) (v := (.ref r3)) d7_21 (gaR rfl) (⟨fun _ q => (by cases q), AV.2.1.2⟩ : Z.isArrayOf (cloneOf cl) _) (fun q => by cases q) rfl (by rw [show (cloneOf cl).slots.size = 4 from hz]; decide) e3 rfl ?_
        refine Wk.astore (pc' := 24) (Ls' := #[.val (.ref a), .val (.ref r1), .val (rf hB H.length), .val (.int (4 : Int32)), .val (.int (3 : Int32)), .val (.ref r3)]) d7_22 rfl rfl rfl ?_
        refine Wk.aload (pc' := 26) d7_24 rfl rfl rfl ?_
        refine Wk.getFold (pc' := 29) d7_26 (wd58 hw) f3 rfl ?_
        refine Wk.aloadN (pc' := 30) d7_29 rfl rfl rfl ?_
        refine Wk.callV (pc' := 33) (argsL := [(.ref a)]) (st := []) d7_30 (wd60 hw) (wd61 hw) (Wk.nfSel (wd63 hw)) (wd63 hw) (wd62 hw) (wd8 hw) (wd64 hw) (by decide) (lenOf pd_9 rfl) (fun _ P => x3.ext P.toExt) (m_seq l Z a0 hw hB (H ++ [Sum.inr (cloneOf cl)]) ck sC hck n3 a ([99, 111, 110, 116, 101, 120, 116] : List Int32) xs (s3 _) A.app) rfl (Nat.le_of_ble_eq_true rfl) (Nat.le_of_ble_eq_true rfl) (by first | (simp only [List.length_append, List.length_cons, List.length_nil] <;> omega) | simp) (Nat.le_of_ble_eq_true rfl) rfl rfl ?_
        rintro _ _ ⟨rfl, hH⟩; obtain rfl := hH.symm
        show WP (l, consts_1) Z hB _ _ _ _ _ _ _ _ (H ++ [Sum.inr (cloneOf cl)]) _ _ [(.int (if ([99, 111, 110, 116, 101, 120, 116] : List Int32) = xs then 1 else 0))]
        by_cases q3 : ([99, 111, 110, 116, 101, 120, 116] : List Int32) = xs
        ·
          rw [if_pos q3]
          refine Wk.ifN (pc' := 36) d7_33 (XT.i0_eq_f (by decide)) rfl ?_
          refine Wk.aload (pc' := 38) d7_36 rfl rfl rfl ?_
          refine Wk.astoreN (pc' := 39) (Ls' := #[.val (.ref a), .val (.ref r3), .val (rf hB H.length), .val (.int (4 : Int32)), .val (.int (3 : Int32)), .val (.ref r3)]) d7_38 rfl rfl rfl ?_
          refine Wk.iinc (pc' := 42) (Ls' := #[.val (.ref a), .val (.ref r3), .val (rf hB H.length), .val (.int (4 : Int32)), .val (.int (4 : Int32)), .val (.ref r3)]) (4 : Int32) d7_39 rfl (by decide) rfl rfl ?_
          refine Wk.goTo (pc' := 12) d7_42 (by decide) (by decide) ?_
          refine Wk.iload (pc' := 14) d7_12 rfl rfl ?_
          refine Wk.iloadN (pc' := 15) d7_14 rfl rfl ?_
          refine Wk.icY (pc' := 45) d7_15 (XT.ii_ge_t (by decide)) (by decide) (by decide) ?_
          refine Wk.aloadN (pc' := 46) d7_45 rfl rfl rfl ?_
          exact Wk.aret (t := (.object "com/example/reckon/reckon/core/RequestData$Root")) d7_46 rfl rfl rfl (by first | (simp only [List.length_append, List.length_cons, List.length_nil] <;> omega) | simp) (Nat.le_of_ble_eq_true rfl) ⟨congrArg some (show (.ref r3) = nmV xs r0 r1 r2 r3 from by rw [nmV, if_pos q3]), rfl⟩
        ·
          rw [if_neg q3]
          refine Wk.ifY (pc' := 39) d7_33 (XT.i0_eq_t rfl) (by decide) (by decide) ?_
          refine Wk.iinc (pc' := 42) (Ls' := #[.val (.ref a), .val (.ref r1), .val (rf hB H.length), .val (.int (4 : Int32)), .val (.int (4 : Int32)), .val (.ref r3)]) (4 : Int32) d7_39 rfl (by decide) rfl rfl ?_
          refine Wk.goTo (pc' := 12) d7_42 (by decide) (by decide) ?_
          refine Wk.iload (pc' := 14) d7_12 rfl rfl ?_
          refine Wk.iloadN (pc' := 15) d7_14 rfl rfl ?_
          refine Wk.icY (pc' := 45) d7_15 (XT.ii_ge_t (by decide)) (by decide) (by decide) ?_
          refine Wk.aloadN (pc' := 46) d7_45 rfl rfl rfl ?_
          exact Wk.aret (t := (.object "com/example/reckon/reckon/core/RequestData$Root")) d7_46 rfl rfl rfl (by first | (simp only [List.length_append, List.length_cons, List.length_nil] <;> omega) | simp) (Nat.le_of_ble_eq_true rfl) ⟨congrArg some (show (.ref r1) = nmV xs r0 r1 r2 r3 from by rw [nmV, if_neg q3, if_neg q2, if_pos q1]), rfl⟩
    ·
      rw [if_neg q1]
      refine Wk.ifY (pc' := 39) d7_33 (XT.i0_eq_t rfl) (by decide) (by decide) ?_
      refine Wk.iinc (pc' := 42) (Ls' := #[.val (.ref a), .val .null, .val (rf hB H.length), .val (.int (4 : Int32)), .val (.int (2 : Int32)), .val (.ref r1)]) (2 : Int32) d7_39 rfl (by decide) rfl rfl ?_
      refine Wk.goTo (pc' := 12) d7_42 (by decide) (by decide) ?_
      refine Wk.iload (pc' := 14) d7_12 rfl rfl ?_
      refine Wk.iloadN (pc' := 15) d7_14 rfl rfl ?_
      refine Wk.icN (pc' := 18) d7_15 (XT.ii_ge_f (by decide)) rfl ?_
      refine Wk.aloadN (pc' := 19) d7_18 rfl rfl rfl ?_
      refine Wk.iload (pc' := 21) d7_19 rfl rfl ?_
      refine Wk.aaloadC (pc' := 22) (v := (.ref r2)) d7_21 (gaR rfl) (⟨fun _ q => (by cases q), AV.2.1.2⟩ : Z.isArrayOf (cloneOf cl) _) (fun q => by cases q) rfl (by rw [show (cloneOf cl).slots.size = 4 from hz]; decide) e2 rfl ?_
      refine Wk.astore (pc' := 24) (Ls' := #[.val (.ref a), .val .null, .val (rf hB H.length), .val (.int (4 : Int32)), .val (.int (2 : Int32)), .val (.ref r2)]) d7_22 rfl rfl rfl ?_
      refine Wk.aload (pc' := 26) d7_24 rfl rfl rfl ?_
      refine Wk.getFold (pc' := 29) d7_26 (wd58 hw) f2 rfl ?_
      refine Wk.aloadN (pc' := 30) d7_29 rfl rfl rfl ?_
      refine Wk.callV (pc' := 33) (argsL := [(.ref a)]) (st := []) d7_30 (wd60 hw) (wd61 hw) (Wk.nfSel (wd63 hw)) (wd63 hw) (wd62 hw) (wd8 hw) (wd64 hw) (by decide) (lenOf pd_9 rfl) (fun _ P => x2.ext P.toExt) (m_seq l Z a0 hw hB (H ++ [Sum.inr (cloneOf cl)]) ck sC hck n2 a ([114, 101, 115, 111, 117, 114, 99, 101] : List Int32) xs (s2 _) A.app) rfl (Nat.le_of_ble_eq_true rfl) (Nat.le_of_ble_eq_true rfl) (by first | (simp only [List.length_append, List.length_cons, List.length_nil] <;> omega) | simp) (Nat.le_of_ble_eq_true rfl) rfl rfl ?_
      rintro _ _ ⟨rfl, hH⟩; obtain rfl := hH.symm
      show WP (l, consts_1) Z hB _ _ _ _ _ _ _ _ (H ++ [Sum.inr (cloneOf cl)]) _ _ [(.int (if ([114, 101, 115, 111, 117, 114, 99, 101] : List Int32) = xs then 1 else 0))]
      by_cases q2 : ([114, 101, 115, 111, 117, 114, 99, 101] : List Int32) = xs
      ·
        rw [if_pos q2]
        refine Wk.ifN (pc' := 36) d7_33 (XT.i0_eq_f (by decide)) rfl ?_
        refine Wk.aload (pc' := 38) d7_36 rfl rfl rfl ?_
        refine Wk.astoreN (pc' := 39) (Ls' := #[.val (.ref a), .val (.ref r2), .val (rf hB H.length), .val (.int (4 : Int32)), .val (.int (2 : Int32)), .val (.ref r2)]) d7_38 rfl rfl rfl ?_
        refine Wk.iinc (pc' := 42) (Ls' := #[.val (.ref a), .val (.ref r2), .val (rf hB H.length), .val (.int (4 : Int32)), .val (.int (3 : Int32)), .val (.ref r2)]) (3 : Int32) d7_39 rfl (by decide) rfl rfl ?_
        refine Wk.goTo (pc' := 12) d7_42 (by decide) (by decide) ?_
        refine Wk.iload (pc' := 14) d7_12 rfl rfl ?_
        refine Wk.iloadN (pc' := 15) d7_14 rfl rfl ?_
        refine Wk.icN (pc' := 18) d7_15 (XT.ii_ge_f (by decide)) rfl ?_
        refine Wk.aloadN (pc' := 19) d7_18 rfl rfl rfl ?_
        refine Wk.iload (pc' := 21) d7_19 rfl rfl ?_
        refine Wk.aaloadC (pc' := 22) (v := (.ref r3)) d7_21 (gaR rfl) (⟨fun _ q => (by cases q), AV.2.1.2⟩ : Z.isArrayOf (cloneOf cl) _) (fun q => by cases q) rfl (by rw [show (cloneOf cl).slots.size = 4 from hz]; decide) e3 rfl ?_
        refine Wk.astore (pc' := 24) (Ls' := #[.val (.ref a), .val (.ref r2), .val (rf hB H.length), .val (.int (4 : Int32)), .val (.int (3 : Int32)), .val (.ref r3)]) d7_22 rfl rfl rfl ?_
        refine Wk.aload (pc' := 26) d7_24 rfl rfl rfl ?_
        refine Wk.getFold (pc' := 29) d7_26 (wd58 hw) f3 rfl ?_
        refine Wk.aloadN (pc' := 30) d7_29 rfl rfl rfl ?_
        refine Wk.callV (pc' := 33) (argsL := [(.ref a)]) (st := []) d7_30 (wd60 hw) (wd61 hw) (Wk.nfSel (wd63 hw)) (wd63 hw) (wd62 hw) (wd8 hw) (wd64 hw) (by decide) (lenOf pd_9 rfl) (fun _ P => x3.ext P.toExt) (m_seq l Z a0 hw hB (H ++ [Sum.inr (cloneOf cl)]) ck sC hck n3 a ([99, 111, 110, 116, 101, 120, 116] : List Int32) xs (s3 _) A.app) rfl (Nat.le_of_ble_eq_true rfl) (Nat.le_of_ble_eq_true rfl) (by first | (simp only [List.length_append, List.length_cons, List.length_nil] <;> omega) | simp) (Nat.le_of_ble_eq_true rfl) rfl rfl ?_
        rintro _ _ ⟨rfl, hH⟩; obtain rfl := hH.symm
        show WP (l, consts_1) Z hB _ _ _ _ _ _ _ _ (H ++ [Sum.inr (cloneOf cl)]) _ _ [(.int (if ([99, 111, 110, 116, 101, 120, 116] : List Int32) = xs then 1 else 0))]
        by_cases q3 : ([99, 111, 110, 116, 101, 120, 116] : List Int32) = xs
        ·
          rw [if_pos q3]
          refine Wk.ifN (pc' := 36) d7_33 (XT.i0_eq_f (by decide)) rfl ?_
          refine Wk.aload (pc' := 38) d7_36 rfl rfl rfl ?_
          refine Wk.astoreN (pc' := 39) (Ls' := #[.val (.ref a), .val (.ref r3), .val (rf hB H.length), .val (.int (4 : Int32)), .val (.int (3 : Int32)), .val (.ref r3)]) d7_38 rfl rfl rfl ?_
          refine Wk.iinc (pc' := 42) (Ls' := #[.val (.ref a), .val (.ref r3), .val (rf hB H.length), .val (.int (4 : Int32)), .val (.int (4 : Int32)), .val (.ref r3)]) (4 : Int32) d7_39 rfl (by decide) rfl rfl ?_
          refine Wk.goTo (pc' := 12) d7_42 (by decide) (by decide) ?_
          refine Wk.iload (pc' := 14) d7_12 rfl rfl ?_
          refine Wk.iloadN (pc' := 15) d7_14 rfl rfl ?_
          refine Wk.icY (pc' := 45) d7_15 (XT.ii_ge_t (by decide)) (by decide) (by decide) ?_
          refine Wk.aloadN (pc' := 46) d7_45 rfl rfl rfl ?_
          exact Wk.aret (t := (.object "com/example/reckon/reckon/core/RequestData$Root")) d7_46 rfl rfl rfl (by first | (simp only [List.length_append, List.length_cons, List.length_nil] <;> omega) | simp) (Nat.le_of_ble_eq_true rfl) ⟨congrArg some (show (.ref r3) = nmV xs r0 r1 r2 r3 from by rw [nmV, if_pos q3]), rfl⟩
        ·
          rw [if_neg q3]
          refine Wk.ifY (pc' := 39) d7_33 (XT.i0_eq_t rfl) (by decide) (by decide) ?_
          refine Wk.iinc (pc' := 42) (Ls' := #[.val (.ref a), .val (.ref r2), .val (rf hB H.length), .val (.int (4 : Int32)), .val (.int (4 : Int32)), .val (.ref r3)]) (4 : Int32) d7_39 rfl (by decide) rfl rfl ?_
          refine Wk.goTo (pc' := 12) d7_42 (by decide) (by decide) ?_
          refine Wk.iload (pc' := 14) d7_12 rfl rfl ?_
          refine Wk.iloadN (pc' := 15) d7_14 rfl rfl ?_
          refine Wk.icY (pc' := 45) d7_15 (XT.ii_ge_t (by decide)) (by decide) (by decide) ?_
          refine Wk.aloadN (pc' := 46) d7_45 rfl rfl rfl ?_
          exact Wk.aret (t := (.object "com/example/reckon/reckon/core/RequestData$Root")) d7_46 rfl rfl rfl (by first | (simp only [List.length_append, List.length_cons, List.length_nil] <;> omega) | simp) (Nat.le_of_ble_eq_true rfl) ⟨congrArg some (show (.ref r2) = nmV xs r0 r1 r2 r3 from by rw [nmV, if_neg q3, if_pos q2]), rfl⟩
      ·
        rw [if_neg q2]
        refine Wk.ifY (pc' := 39) d7_33 (XT.i0_eq_t rfl) (by decide) (by decide) ?_
        refine Wk.iinc (pc' := 42) (Ls' := #[.val (.ref a), .val .null, .val (rf hB H.length), .val (.int (4 : Int32)), .val (.int (3 : Int32)), .val (.ref r2)]) (3 : Int32) d7_39 rfl (by decide) rfl rfl ?_
        refine Wk.goTo (pc' := 12) d7_42 (by decide) (by decide) ?_
        refine Wk.iload (pc' := 14) d7_12 rfl rfl ?_
        refine Wk.iloadN (pc' := 15) d7_14 rfl rfl ?_
        refine Wk.icN (pc' := 18) d7_15 (XT.ii_ge_f (by decide)) rfl ?_
        refine Wk.aloadN (pc' := 19) d7_18 rfl rfl rfl ?_
        refine Wk.iload (pc' := 21) d7_19 rfl rfl ?_
        refine Wk.aaloadC (pc' := 22) (v := (.ref r3)) d7_21 (gaR rfl) (⟨fun _ q => (by cases q), AV.2.1.2⟩ : Z.isArrayOf (cloneOf cl) _) (fun q => by cases q) rfl (by rw [show (cloneOf cl).slots.size = 4 from hz]; decide) e3 rfl ?_
        refine Wk.astore (pc' := 24) (Ls' := #[.val (.ref a), .val .null, .val (rf hB H.length), .val (.int (4 : Int32)), .val (.int (3 : Int32)), .val (.ref r3)]) d7_22 rfl rfl rfl ?_
        refine Wk.aload (pc' := 26) d7_24 rfl rfl rfl ?_
        refine Wk.getFold (pc' := 29) d7_26 (wd58 hw) f3 rfl ?_
        refine Wk.aloadN (pc' := 30) d7_29 rfl rfl rfl ?_
        refine Wk.callV (pc' := 33) (argsL := [(.ref a)]) (st := []) d7_30 (wd60 hw) (wd61 hw) (Wk.nfSel (wd63 hw)) (wd63 hw) (wd62 hw) (wd8 hw) (wd64 hw) (by decide) (lenOf pd_9 rfl) (fun _ P => x3.ext P.toExt) (m_seq l Z a0 hw hB (H ++ [Sum.inr (cloneOf cl)]) ck sC hck n3 a ([99, 111, 110, 116, 101, 120, 116] : List Int32) xs (s3 _) A.app) rfl (Nat.le_of_ble_eq_true rfl) (Nat.le_of_ble_eq_true rfl) (by first | (simp only [List.length_append, List.length_cons, List.length_nil] <;> omega) | simp) (Nat.le_of_ble_eq_true rfl) rfl rfl ?_
        rintro _ _ ⟨rfl, hH⟩; obtain rfl := hH.symm
        show WP (l, consts_1) Z hB _ _ _ _ _ _ _ _ (H ++ [Sum.inr (cloneOf cl)]) _ _ [(.int (if ([99, 111, 110, 116, 101, 120, 116] : List Int32) = xs then 1 else 0))]
        by_cases q3 : ([99, 111, 110, 116, 101, 120, 116] : List Int32) = xs
        ·
          rw [if_pos q3]
          refine Wk.ifN (pc' := 36) d7_33 (XT.i0_eq_f (by decide)) rfl ?_
          refine Wk.aload (pc' := 38) d7_36 rfl rfl rfl ?_
          refine Wk.astoreN (pc' := 39) (Ls' := #[.val (.ref a), .val (.ref r3), .val (rf hB H.length), .val (.int (4 : Int32)), .val (.int (3 : Int32)), .val (.ref r3)]) d7_38 rfl rfl rfl ?_
          refine Wk.iinc (pc' := 42) (Ls' := #[.val (.ref a), .val (.ref r3), .val (rf hB H.length), .val (.int (4 : Int32)), .val (.int (4 : Int32)), .val (.ref r3)]) (4 : Int32) d7_39 rfl (by decide) rfl rfl ?_
          refine Wk.goTo (pc' := 12) d7_42 (by decide) (by decide) ?_
          refine Wk.iload (pc' := 14) d7_12 rfl rfl ?_
          refine Wk.iloadN (pc' := 15) d7_14 rfl rfl ?_
          refine Wk.icY (pc' := 45) d7_15 (XT.ii_ge_t (by decide)) (by decide) (by decide) ?_
          refine Wk.aloadN (pc' := 46) d7_45 rfl rfl rfl ?_
          exact Wk.aret (t := (.object "com/example/reckon/reckon/core/RequestData$Root")) d7_46 rfl rfl rfl (by first | (simp only [List.length_append, List.length_cons, List.length_nil] <;> omega) | simp) (Nat.le_of_ble_eq_true rfl) ⟨congrArg some (show (.ref r3) = nmV xs r0 r1 r2 r3 from by rw [nmV, if_pos q3]), rfl⟩
        ·
          rw [if_neg q3]
          refine Wk.ifY (pc' := 39) d7_33 (XT.i0_eq_t rfl) (by decide) (by decide) ?_
          refine Wk.iinc (pc' := 42) (Ls' := #[.val (.ref a), .val .null, .val (rf hB H.length), .val (.int (4 : Int32)), .val (.int (4 : Int32)), .val (.ref r3)]) (4 : Int32) d7_39 rfl (by decide) rfl rfl ?_
          refine Wk.goTo (pc' := 12) d7_42 (by decide) (by decide) ?_
          refine Wk.iload (pc' := 14) d7_12 rfl rfl ?_
          refine Wk.iloadN (pc' := 15) d7_14 rfl rfl ?_
          refine Wk.icY (pc' := 45) d7_15 (XT.ii_ge_t (by decide)) (by decide) (by decide) ?_
          refine Wk.aloadN (pc' := 46) d7_45 rfl rfl rfl ?_
          exact Wk.aret (t := (.object "com/example/reckon/reckon/core/RequestData$Root")) d7_46 rfl rfl rfl (by first | (simp only [List.length_append, List.length_cons, List.length_nil] <;> omega) | simp) (Nat.le_of_ble_eq_true rfl) ⟨congrArg some (show .null = nmV xs r0 r1 r2 r3 from by rw [nmV, if_neg q3, if_neg q2, if_neg q1, if_neg q0]), rfl⟩
set_option maxRecDepth 65536 in
set_option maxHeartbeats 40000000 in
theorem m_ref (l : Launch) (Z : State) (a0 : Array Value) (hw : ∀ d ∈ tables_1, d.before a0 Z = true) (hB : Heap) (H : List Rec) (ck : Int32) (sC : Sta Z hB "java/lang/String" "COMPACT_STRINGS" "Z" (.int ck)) (hck : ¬ ck = 0) (va : Addr) (cl : Cell) (sV : Sta Z hB "com/example/reckon/reckon/core/RequestData$Root" "$VALUES" "[Lcom/example/reckon/reckon/core/RequestData$Root;" (.ref va)) (AV : Arr Z hB va cl (.object "com/example/reckon/reckon/core/RequestData$Root")) (EV : Exa Z hB va "[Lcom/example/reckon/reckon/core/RequestData$Root;") (FV : FitC Z cl) (hz : cl.slots.size = 4) (r0 r1 r2 r3 n0 n1 n2 n3 : Addr) (e0 : cl.slots[0]? = some (.ref r0)) (f0 : Fld Z hB r0 "com/example/reckon/reckon/core/RequestData$Root" "name" "Ljava/lang/String;" (.ref n0)) (x0 : Exa Z hB n0 "java/lang/String") (s0 : ∀ H, Wk.SL Z hB H n0 ([115, 117, 98, 106, 101, 99, 116] : List Int32)) (t0 : Sta Z hB "com/example/reckon/reckon/core/RequestData$Root" "SUBJECT" "Lcom/example/reckon/reckon/core/RequestData$Root;" (.ref r0)) (e1 : cl.slots[1]? = some (.ref r1)) (f1 : Fld Z hB r1 "com/example/reckon/reckon/core/RequestData$Root" "name" "Ljava/lang/String;" (.ref n1)) (x1 : Exa Z hB n1 "java/lang/String") (s1 : ∀ H, Wk.SL Z hB H n1 ([97, 99, 116, 105, 111, 110] : List Int32)) (t1 : Sta Z hB "com/example/reckon/reckon/core/RequestData$Root" "ACTION" "Lcom/example/reckon/reckon/core/RequestData$Root;" (.ref r1)) (e2 : cl.slots[2]? = some (.ref r2)) (f2 : Fld Z hB r2 "com/example/reckon/reckon/core/RequestData$Root" "name" "Ljava/lang/String;" (.ref n2)) (x2 : Exa Z hB n2 "java/lang/String") (s2 : ∀ H, Wk.SL Z hB H n2 ([114, 101, 115, 111, 117, 114, 99, 101] : List Int32)) (t2 : Sta Z hB "com/example/reckon/reckon/core/RequestData$Root" "RESOURCE" "Lcom/example/reckon/reckon/core/RequestData$Root;" (.ref r2)) (e3 : cl.slots[3]? = some (.ref r3)) (f3 : Fld Z hB r3 "com/example/reckon/reckon/core/RequestData$Root" "name" "Ljava/lang/String;" (.ref n3)) (x3 : Exa Z hB n3 "java/lang/String") (s3 : ∀ H, Wk.SL Z hB H n3 ([99, 111, 110, 116, 101, 120, 116] : List Int32)) (t3 : Sta Z hB "com/example/reckon/reckon/core/RequestData$Root" "CONTEXT" "Lcom/example/reckon/reckon/core/RequestData$Root;" (.ref r3)) (a : Addr) (xs : List Int32) (A : Wk.SL Z hB H a xs) : Ctr (l, consts_1) Z hB ({ cls := "com/example/reckon/reckon/core/RootNamedPinLaw", name := "ref", desc := "(Ljava/lang/String;)Lcom/example/reckon/reckon/core/RequestData$Root;" } : Jvm.MethodName) method_3_code 1 (some (.object "com/example/reckon/reckon/core/RequestData$Root")) [] ({ frames := 2, cells := 8, slots := 128, locals := 28 } : Room) #[(.ref a)] H (fun v H' => v = some (rfV xs r0 r1 r2 r3) ∧ H'.length ≤ H.length + 8) := by
  refine Wk.ctr pn_13 (Ls := #[.val (.ref a)]) (fun m => by first | rfl | (simp [entryFrame, mkF, argsToLocals, Value.category]; done)) ?_
  obtain ⟨vs, SA, AA⟩ := id A
  refine Wk.aloadN (pc' := 1) d11_0 rfl rfl rfl ?_
  refine Wk.ldcStr (pc' := 3) (n := 28) (xs := ([115, 117, 98, 106, 101, 99, 116] : List Int32)) d11_1 (wd73 hw) (strW hw) (show _ ∈ consts_1 from by decide) ⟨by decide, by first | rfl | decide +kernel⟩ (by decide) (by decide) (by decide) (by first | (simp only [List.length_append, List.length_cons, List.length_nil] <;> omega) | simp) (Nat.le_of_ble_eq_true rfl) rfl (fun b1 M1 hM1 S1 => ?_)
  refine Wk.callV (pc' := 6) (argsL := [(.ref b1)]) (st := []) d11_3 (wd76 hw) (wd61 hw) (Wk.nfSel (wd63 hw)) (wd63 hw) (wd62 hw) (wd8 hw) (wd64 hw) (by decide) (lenOf pd_9 rfl) (fun _ P => (SA _ P.q.app).1) (m_seq l Z a0 hw hB (H ++ M1) ck sC hck a b1 xs ([115, 117, 98, 106, 101, 99, 116] : List Int32) A.app S1) rfl (Nat.le_of_ble_eq_true rfl) (Nat.le_of_ble_eq_true rfl) (by first | (simp only [List.length_append, List.length_cons, List.length_nil] <;> omega) | simp) (Nat.le_of_ble_eq_true rfl) rfl rfl ?_
  rintro _ _ ⟨rfl, hH⟩; obtain rfl := hH.symm
  show WP (l, consts_1) Z hB _ _ _ _ _ _ _ _ (H ++ M1) _ _ [(.int (if xs = ([115, 117, 98, 106, 101, 99, 116] : List Int32) then 1 else 0))]
  by_cases q0 : xs = ([115, 117, 98, 106, 101, 99, 116] : List Int32)
  ·
    rw [if_pos q0]
    refine Wk.ifN (pc' := 9) d11_6 (XT.i0_eq_f (by decide)) rfl ?_
    refine Wk.getSt (pc' := 12) d11_9 (wd101 hw) t0 rfl ?_
    exact Wk.aret (t := (.object "com/example/reckon/reckon/core/RequestData$Root")) d11_12 rfl rfl rfl (by first | (simp only [List.length_append, List.length_cons, List.length_nil] <;> omega) | simp) (Nat.le_of_ble_eq_true rfl) ⟨congrArg some (show (.ref r0) = rfV xs r0 r1 r2 r3 from by rw [rfV, if_pos q0]), (by simp only [List.length_append] <;> omega)⟩
  ·
    rw [if_neg q0]
    refine Wk.ifY (pc' := 13) d11_6 (XT.i0_eq_t rfl) (by decide) (by decide) ?_
    refine Wk.aloadN (pc' := 14) d11_13 rfl rfl rfl ?_
    refine Wk.ldcStr (pc' := 16) (n := 24) (xs := ([97, 99, 116, 105, 111, 110] : List Int32)) d11_14 (wd77 hw) (strW hw) (show _ ∈ consts_1 from by decide) ⟨by decide, by first | rfl | decide +kernel⟩ (by decide) (by decide) (by decide) (by first | (simp only [List.length_append, List.length_cons, List.length_nil] <;> omega) | simp) (Nat.le_of_ble_eq_true rfl) rfl (fun b2 M2 hM2 S2 => ?_)
    refine Wk.callV (pc' := 19) (argsL := [(.ref b2)]) (st := []) d11_16 (wd76 hw) (wd61 hw) (Wk.nfSel (wd63 hw)) (wd63 hw) (wd62 hw) (wd8 hw) (wd64 hw) (by decide) (lenOf pd_9 rfl) (fun _ P => (SA _ P.q.app.app).1) (m_seq l Z a0 hw hB ((H ++ M1) ++ M2) ck sC hck a b2 xs ([97, 99, 116, 105, 111, 110] : List Int32) A.app.app S2) rfl (Nat.le_of_ble_eq_true rfl) (Nat.le_of_ble_eq_true rfl) (by first | (simp only [List.length_append, List.length_cons, List.length_nil] <;> omega) | simp) (Nat.le_of_ble_eq_true rfl) rfl rfl ?_
    rintro _ _ ⟨rfl, hH⟩; obtain rfl := hH.symm
    show WP (l, consts_1) Z hB _ _ _ _ _ _ _ _ ((H ++ M1) ++ M2) _ _ [(.int (if xs = ([97, 99, 116, 105, 111, 110] : List Int32) then 1 else 0))]
    by_cases q1 : xs = ([97, 99, 116, 105, 111, 110] : List Int32)
    ·
      rw [if_pos q1]
      refine Wk.ifN (pc' := 22) d11_19 (XT.i0_eq_f (by decide)) rfl ?_
      refine Wk.getSt (pc' := 25) d11_22 (wd87 hw) t1 rfl ?_
      exact Wk.aret (t := (.object "com/example/reckon/reckon/core/RequestData$Root")) d11_25 rfl rfl rfl (by first | (simp only [List.length_append, List.length_cons, List.length_nil] <;> omega) | simp) (Nat.le_of_ble_eq_true rfl) ⟨congrArg some (show (.ref r1) = rfV xs r0 r1 r2 r3 from by rw [rfV, if_neg q0, if_pos q1]), (by simp only [List.length_append] <;> omega)⟩
    ·
      rw [if_neg q1]
      refine Wk.ifY (pc' := 26) d11_19 (XT.i0_eq_t rfl) (by decide) (by decide) ?_
      refine Wk.aloadN (pc' := 27) d11_26 rfl rfl rfl ?_
      refine Wk.ldcStr (pc' := 29) (n := 32) (xs := ([114, 101, 115, 111, 117, 114, 99, 101] : List Int32)) d11_27 (wd78 hw) (strW hw) (show _ ∈ consts_1 from by decide) ⟨by decide, by first | rfl | decide +kernel⟩ (by decide) (by decide) (by decide) (by first | (simp only [List.length_append, List.length_cons, List.length_nil] <;> omega) | simp) (Nat.le_of_ble_eq_true rfl) rfl (fun b3 M3 hM3 S3 => ?_)
      refine Wk.callV (pc' := 32) (argsL := [(.ref b3)]) (st := []) d11_29 (wd76 hw) (wd61 hw) (Wk.nfSel (wd63 hw)) (wd63 hw) (wd62 hw) (wd8 hw) (wd64 hw) (by decide) (lenOf pd_9 rfl) (fun _ P => (SA _ P.q.app.app.app).1) (m_seq l Z a0 hw hB (((H ++ M1) ++ M2) ++ M3) ck sC hck a b3 xs ([114, 101, 115, 111, 117, 114, 99, 101] : List Int32) A.app.app.app S3) rfl (Nat.le_of_ble_eq_true rfl) (Nat.le_of_ble_eq_true rfl) (by first | (simp only [List.length_append, List.length_cons, List.length_nil] <;> omega) | simp) (Nat.le_of_ble_eq_true rfl) rfl rfl ?_
      rintro _ _ ⟨rfl, hH⟩; obtain rfl := hH.symm
      show WP (l, consts_1) Z hB _ _ _ _ _ _ _ _ (((H ++ M1) ++ M2) ++ M3) _ _ [(.int (if xs = ([114, 101, 115, 111, 117, 114, 99, 101] : List Int32) then 1 else 0))]
      by_cases q2 : xs = ([114, 101, 115, 111, 117, 114, 99, 101] : List Int32)
      ·
        rw [if_pos q2]
        refine Wk.ifN (pc' := 35) d11_32 (XT.i0_eq_f (by decide)) rfl ?_
        refine Wk.getSt (pc' := 38) d11_35 (wd86 hw) t2 rfl ?_
        exact Wk.aret (t := (.object "com/example/reckon/reckon/core/RequestData$Root")) d11_38 rfl rfl rfl (by first | (simp only [List.length_append, List.length_cons, List.length_nil] <;> omega) | simp) (Nat.le_of_ble_eq_true rfl) ⟨congrArg some (show (.ref r2) = rfV xs r0 r1 r2 r3 from by rw [rfV, if_neg q0, if_neg q1, if_pos q2]), (by simp only [List.length_append] <;> omega)⟩
      ·
        rw [if_neg q2]
        refine Wk.ifY (pc' := 39) d11_32 (XT.i0_eq_t rfl) (by decide) (by decide) ?_
        refine Wk.aloadN (pc' := 40) d11_39 rfl rfl rfl ?_
        refine Wk.ldcStr (pc' := 42) (n := 28) (xs := ([99, 111, 110, 116, 101, 120, 116] : List Int32)) d11_40 (wd79 hw) (strW hw) (show _ ∈ consts_1 from by decide) ⟨by decide, by first | rfl | decide +kernel⟩ (by decide) (by decide) (by decide) (by first | (simp only [List.length_append, List.length_cons, List.length_nil] <;> omega) | simp) (Nat.le_of_ble_eq_true rfl) rfl (fun b4 M4 hM4 S4 => ?_)
        refine Wk.callV (pc' := 45) (argsL := [(.ref b4)]) (st := []) d11_42 (wd76 hw) (wd61 hw) (Wk.nfSel (wd63 hw)) (wd63 hw) (wd62 hw) (wd8 hw) (wd64 hw) (by decide) (lenOf pd_9 rfl) (fun _ P => (SA _ P.q.app.app.app.app).1) (m_seq l Z a0 hw hB ((((H ++ M1) ++ M2) ++ M3) ++ M4) ck sC hck a b4 xs ([99, 111, 110, 116, 101, 120, 116] : List Int32) A.app.app.app.app S4) rfl (Nat.le_of_ble_eq_true rfl) (Nat.le_of_ble_eq_true rfl) (by first | (simp only [List.length_append, List.length_cons, List.length_nil] <;> omega) | simp) (Nat.le_of_ble_eq_true rfl) rfl rfl ?_
        rintro _ _ ⟨rfl, hH⟩; obtain rfl := hH.symm
        show WP (l, consts_1) Z hB _ _ _ _ _ _ _ _ ((((H ++ M1) ++ M2) ++ M3) ++ M4) _ _ [(.int (if xs = ([99, 111, 110, 116, 101, 120, 116] : List Int32) then 1 else 0))]
        by_cases q3 : xs = ([99, 111, 110, 116, 101, 120, 116] : List Int32)
        ·
          rw [if_pos q3]
          refine Wk.ifN (pc' := 48) d11_45 (XT.i0_eq_f (by decide)) rfl ?_
          refine Wk.getSt (pc' := 51) d11_48 (wd100 hw) t3 rfl ?_
          exact Wk.aret (t := (.object "com/example/reckon/reckon/core/RequestData$Root")) d11_51 rfl rfl rfl (by first | (simp only [List.length_append, List.length_cons, List.length_nil] <;> omega) | simp) (Nat.le_of_ble_eq_true rfl) ⟨congrArg some (show (.ref r3) = rfV xs r0 r1 r2 r3 from by rw [rfV, if_neg q0, if_neg q1, if_neg q2, if_pos q3]), (by simp only [List.length_append] <;> omega)⟩
        ·
          rw [if_neg q3]
          refine Wk.ifY (pc' := 52) d11_45 (XT.i0_eq_t rfl) (by decide) (by decide) ?_
          refine Wk.aconstNull (pc' := 53) d11_52 rfl ?_
          exact Wk.aret (t := (.object "com/example/reckon/reckon/core/RequestData$Root")) d11_53 rfl rfl rfl (by first | (simp only [List.length_append, List.length_cons, List.length_nil] <;> omega) | simp) (Nat.le_of_ble_eq_true rfl) ⟨congrArg some (show .null = rfV xs r0 r1 r2 r3 from by rw [rfV, if_neg q0, if_neg q1, if_neg q2, if_neg q3]), (by simp only [List.length_append] <;> omega)⟩
set_option maxRecDepth 65536 in
set_option maxHeartbeats 40000000 in
theorem m_name (l : Launch) (Z : State) (a0 : Array Value) (hw : ∀ d ∈ tables_1, d.before a0 Z = true) (hB : Heap) (k : Int32) : Ctr (l, consts_1) Z hB ({ cls := "com/example/reckon/reckon/core/RootNamedPinLaw", name := "name", desc := "(I)Ljava/lang/String;" } : Jvm.MethodName) method_4_code 1 (some (.object "java/lang/String")) [] ({ frames := 0, cells := 2, slots := 40, locals := 0 } : Room) #[(.int k)] [] (fun v H' => ∃ (a : Addr) (xs : List Int32), v = some (.ref a) ∧ H'.length ≤ 4 ∧ Wk.SL Z hB H' a xs) := by
  refine Wk.ctr pn_14 (Ls := #[.val (.int k)]) (fun m => by first | rfl | (simp [entryFrame, mkF, argsToLocals, Value.category]; done)) ?_
  refine Wk.iloadN (pc' := 1) d13_0 rfl rfl ?_
  by_cases hc1 : k = (0 : Int32)
  ·
    refine Wk.ifN (pc' := 4) d13_1 (XT.i0_ne_f hc1) rfl ?_
    refine Wk.ldcStr (pc' := 6) (n := 28) (xs := ([115, 117, 98, 106, 101, 99, 116] : List Int32)) d13_4 (wd73 hw) (strW hw) (show _ ∈ consts_1 from by decide) ⟨by decide, by first | rfl | decide +kernel⟩ (by decide) (by decide) (by decide) (by simp <;> omega) (Nat.le_of_ble_eq_true rfl) rfl (fun b1 M1 hM1 S1 => ?_)
    exact Wk.aret (t := (.object "java/lang/String")) d13_6 rfl rfl rfl (by simp <;> omega) (Nat.le_of_ble_eq_true rfl) ⟨_, _, rfl, (by simp; omega), S1⟩
  ·
    refine Wk.ifY (pc' := 7) d13_1 (XT.i0_ne_t hc1) (by decide) (by decide) ?_
    refine Wk.iloadN (pc' := 8) d13_7 rfl rfl ?_
    refine Wk.iconst (pc' := 9) (1 : Int32) d13_8 (by decide) rfl ?_
    by_cases hc2 : k = (1 : Int32)
    ·
      refine Wk.icN (pc' := 12) d13_9 (XT.ii_ne_f hc2) rfl ?_
      refine Wk.ldcStr (pc' := 14) (n := 24) (xs := ([97, 99, 116, 105, 111, 110] : List Int32)) d13_12 (wd77 hw) (strW hw) (show _ ∈ consts_1 from by decide) ⟨by decide, by first | rfl | decide +kernel⟩ (by decide) (by decide) (by decide) (by simp <;> omega) (Nat.le_of_ble_eq_true rfl) rfl (fun b2 M2 hM2 S2 => ?_)
      exact Wk.aret (t := (.object "java/lang/String")) d13_14 rfl rfl rfl (by simp <;> omega) (Nat.le_of_ble_eq_true rfl) ⟨_, _, rfl, (by simp; omega), S2⟩
    ·
      refine Wk.icY (pc' := 15) d13_9 (XT.ii_ne_t hc2) (by decide) (by decide) ?_
      refine Wk.iloadN (pc' := 16) d13_15 rfl rfl ?_
      refine Wk.iconst (pc' := 17) (2 : Int32) d13_16 (by decide) rfl ?_
      by_cases hc3 : k = (2 : Int32)
      ·
        refine Wk.icN (pc' := 20) d13_17 (XT.ii_ne_f hc3) rfl ?_
        refine Wk.ldcStr (pc' := 22) (n := 32) (xs := ([114, 101, 115, 111, 117, 114, 99, 101] : List Int32)) d13_20 (wd78 hw) (strW hw) (show _ ∈ consts_1 from by decide) ⟨by decide, by first | rfl | decide +kernel⟩ (by decide) (by decide) (by decide) (by simp <;> omega) (Nat.le_of_ble_eq_true rfl) rfl (fun b3 M3 hM3 S3 => ?_)
        exact Wk.aret (t := (.object "java/lang/String")) d13_22 rfl rfl rfl (by simp <;> omega) (Nat.le_of_ble_eq_true rfl) ⟨_, _, rfl, (by simp; omega), S3⟩
      ·
        refine Wk.icY (pc' := 23) d13_17 (XT.ii_ne_t hc3) (by decide) (by decide) ?_
        refine Wk.ldcStr (pc' := 25) (n := 28) (xs := ([99, 111, 110, 116, 101, 120, 116] : List Int32)) d13_23 (wd79 hw) (strW hw) (show _ ∈ consts_1 from by decide) ⟨by decide, by first | rfl | decide +kernel⟩ (by decide) (by decide) (by decide) (by simp <;> omega) (Nat.le_of_ble_eq_true rfl) rfl (fun b4 M4 hM4 S4 => ?_)
        exact Wk.aret (t := (.object "java/lang/String")) d13_25 rfl rfl rfl (by simp <;> omega) (Nat.le_of_ble_eq_true rfl) ⟨_, _, rfl, (by simp; omega), S4⟩
set_option maxRecDepth 65536 in
set_option maxHeartbeats 40000000 in
theorem m_trunc (l : Launch) (Z : State) (a0 : Array Value) (hw : ∀ d ∈ tables_1, d.before a0 Z = true) (hB : Heap) (k : Int32) : Ctr (l, consts_1) Z hB ({ cls := "com/example/reckon/reckon/core/RootNamedPinLaw", name := "truncated", desc := "(I)Ljava/lang/String;" } : Jvm.MethodName) method_5_code 1 (some (.object "java/lang/String")) [] ({ frames := 0, cells := 2, slots := 40, locals := 0 } : Room) #[(.int k)] [] (fun v H' => ∃ (a : Addr) (xs : List Int32), v = some (.ref a) ∧ H'.length ≤ 4 ∧ Wk.SL Z hB H' a xs) := by
  refine Wk.ctr pn_15 (Ls := #[.val (.int k)]) (fun m => by first | rfl | (simp [entryFrame, mkF, argsToLocals, Value.category]; done)) ?_
  refine Wk.iloadN (pc' := 1) d18_0 rfl rfl ?_
  by_cases hc1 : k = (0 : Int32)
  ·
    refine Wk.ifN (pc' := 4) d18_1 (XT.i0_ne_f hc1) rfl ?_
    refine Wk.ldcStr (pc' := 6) (n := 24) (xs := ([115, 117, 98, 106, 101, 99] : List Int32)) d18_4 (wd105 hw) (strW hw) (show _ ∈ consts_1 from by decide) ⟨by decide, by first | rfl | decide +kernel⟩ (by decide) (by decide) (by decide) (by simp <;> omega) (Nat.le_of_ble_eq_true rfl) rfl (fun b1 M1 hM1 S1 => ?_)
    exact Wk.aret (t := (.object "java/lang/String")) d18_6 rfl rfl rfl (by simp <;> omega) (Nat.le_of_ble_eq_true rfl) ⟨_, _, rfl, (by simp; omega), S1⟩
  ·
    refine Wk.ifY (pc' := 7) d18_1 (XT.i0_ne_t hc1) (by decide) (by decide) ?_
    refine Wk.iloadN (pc' := 8) d18_7 rfl rfl ?_
    refine Wk.iconst (pc' := 9) (1 : Int32) d18_8 (by decide) rfl ?_
    by_cases hc2 : k = (1 : Int32)
    ·
      refine Wk.icN (pc' := 12) d18_9 (XT.ii_ne_f hc2) rfl ?_
      refine Wk.ldcStr (pc' := 14) (n := 20) (xs := ([97, 99, 116, 105, 111] : List Int32)) d18_12 (wd107 hw) (strW hw) (show _ ∈ consts_1 from by decide) ⟨by decide, by first | rfl | decide +kernel⟩ (by decide) (by decide) (by decide) (by simp <;> omega) (Nat.le_of_ble_eq_true rfl) rfl (fun b2 M2 hM2 S2 => ?_)
      exact Wk.aret (t := (.object "java/lang/String")) d18_14 rfl rfl rfl (by simp <;> omega) (Nat.le_of_ble_eq_true rfl) ⟨_, _, rfl, (by simp; omega), S2⟩
    ·
      refine Wk.icY (pc' := 15) d18_9 (XT.ii_ne_t hc2) (by decide) (by decide) ?_
      refine Wk.iloadN (pc' := 16) d18_15 rfl rfl ?_
      refine Wk.iconst (pc' := 17) (2 : Int32) d18_16 (by decide) rfl ?_
      by_cases hc3 : k = (2 : Int32)
      ·
        refine Wk.icN (pc' := 20) d18_17 (XT.ii_ne_f hc3) rfl ?_
        refine Wk.ldcStr (pc' := 22) (n := 28) (xs := ([114, 101, 115, 111, 117, 114, 99] : List Int32)) d18_20 (wd109 hw) (strW hw) (show _ ∈ consts_1 from by decide) ⟨by decide, by first | rfl | decide +kernel⟩ (by decide) (by decide) (by decide) (by simp <;> omega) (Nat.le_of_ble_eq_true rfl) rfl (fun b3 M3 hM3 S3 => ?_)
        exact Wk.aret (t := (.object "java/lang/String")) d18_22 rfl rfl rfl (by simp <;> omega) (Nat.le_of_ble_eq_true rfl) ⟨_, _, rfl, (by simp; omega), S3⟩
      ·
        refine Wk.icY (pc' := 23) d18_17 (XT.ii_ne_t hc3) (by decide) (by decide) ?_
        refine Wk.ldcStr (pc' := 25) (n := 24) (xs := ([99, 111, 110, 116, 101, 120] : List Int32)) d18_23 (wd106 hw) (strW hw) (show _ ∈ consts_1 from by decide) ⟨by decide, by first | rfl | decide +kernel⟩ (by decide) (by decide) (by decide) (by simp <;> omega) (Nat.le_of_ble_eq_true rfl) rfl (fun b4 M4 hM4 S4 => ?_)
        exact Wk.aret (t := (.object "java/lang/String")) d18_25 rfl rfl rfl (by simp <;> omega) (Nat.le_of_ble_eq_true rfl) ⟨_, _, rfl, (by simp; omega), S4⟩
set_option maxRecDepth 65536 in
set_option maxHeartbeats 40000000 in
theorem m_mut (l : Launch) (Z : State) (a0 : Array Value) (hw : ∀ d ∈ tables_1, d.before a0 Z = true) (hB : Heap) (ck : Int32) (sC : Sta Z hB "java/lang/String" "COMPACT_STRINGS" "Z" (.int ck)) (hck : ¬ ck = 0) (k pos : Int32) (ch : Int32) (hch : nar .char ch = ch) (h255 : ¬ (255 : Int32) < ch) : Ctr (l, consts_1) Z hB ({ cls := "com/example/reckon/reckon/core/RootNamedPinLaw", name := "mutated", desc := "(IIC)Ljava/lang/String;" } : Jvm.MethodName) method_6_code 4 (some (.object "java/lang/String")) [] ({ frames := 4, cells := 3, slots := 40, locals := 66 } : Room) #[(.int k), (.int pos), (.int ch)] [] (fun v H' => ∃ (a : Addr) (xs : List Int32), v = some (.ref a) ∧ H'.length ≤ 4 ∧ Wk.SL Z hB H' a xs) := by
  refine Wk.ctr pn_16 (Ls := #[.val (.int k), .val (.int pos), .val (.int ch), .unset]) (fun m => by first | rfl | (simp [entryFrame, mkF, argsToLocals, Value.category]; done)) ?_
  refine Wk.iloadN (pc' := 1) d0_0 rfl rfl ?_
  by_cases hc1 : k = (0 : Int32)
  ·
    refine Wk.ifN (pc' := 4) d0_1 (XT.i0_ne_f hc1) rfl ?_
    refine Wk.bipush (pc' := 6) (7 : Int32) d0_4 (by decide) rfl ?_
    refine Wk.newArr (pc' := 8) (i := 0) (nn := 7) (H' := [arr .char [(.int (0 : Int32)), (.int (0 : Int32)), (.int (0 : Int32)), (.int (0 : Int32)), (.int (0 : Int32)), (.int (0 : Int32)), (.int (0 : Int32))]]) d0_6 (wd4 hw) (by decide) (by decide) (by omega) rfl ⟨(by intro C; simp [newarray.typeOf]), (by intro C; simp [newarray.typeOf])⟩ (Nat.le_of_ble_eq_true rfl) (Nat.le_of_ble_eq_true rfl) rfl rfl rfl ?_
    refine Wk.dup (pc' := 9) d0_8 rfl rfl ?_
    refine Wk.iconst (pc' := 10) (0 : Int32) d0_9 (by decide) rfl ?_
    refine Wk.bipush (pc' := 12) (115 : Int32) d0_10 (by decide) rfl ?_
    refine Wk.castore (pc' := 13) (i := 0) (jn := 0) (H' := [arr .char [(.int (115 : Int32)), (.int (0 : Int32)), (.int (0 : Int32)), (.int (0 : Int32)), (.int (0 : Int32)), (.int (0 : Int32)), (.int (0 : Int32))]]) d0_12 rfl (by decide) (by decide) (Nat.le_of_ble_eq_true rfl) (by first | rfl | (rw [hch]; rfl) | (rw [hch2]; rfl)) rfl ?_
    refine Wk.dup (pc' := 14) d0_13 rfl rfl ?_
    refine Wk.iconst (pc' := 15) (1 : Int32) d0_14 (by decide) rfl ?_
    refine Wk.bipush (pc' := 17) (117 : Int32) d0_15 (by decide) rfl ?_
    refine Wk.castore (pc' := 18) (i := 0) (jn := 1) (H' := [arr .char [(.int (115 : Int32)), (.int (117 : Int32)), (.int (0 : Int32)), (.int (0 : Int32)), (.int (0 : Int32)), (.int (0 : Int32)), (.int (0 : Int32))]]) d0_17 rfl (by decide) (by decide) (Nat.le_of_ble_eq_true rfl) (by first | rfl | (rw [hch]; rfl) | (rw [hch2]; rfl)) rfl ?_
    refine Wk.dup (pc' := 19) d0_18 rfl rfl ?_
    refine Wk.iconst (pc' := 20) (2 : Int32) d0_19 (by decide) rfl ?_
    refine Wk.bipush (pc' := 22) (98 : Int32) d0_20 (by decide) rfl ?_
    refine Wk.castore (pc' := 23) (i := 0) (jn := 2) (H' := [arr .char [(.int (115 : Int32)), (.int (117 : Int32)), (.int (98 : Int32)), (.int (0 : Int32)), (.int (0 : Int32)), (.int (0 : Int32)), (.int (0 : Int32))]]) d0_22 rfl (by decide) (by decide) (Nat.le_of_ble_eq_true rfl) (by first | rfl | (rw [hch]; rfl) | (rw [hch2]; rfl)) rfl ?_
    refine Wk.dup (pc' := 24) d0_23 rfl rfl ?_
    refine Wk.iconst (pc' := 25) (3 : Int32) d0_24 (by decide) rfl ?_
    refine Wk.bipush (pc' := 27) (106 : Int32) d0_25 (by decide) rfl ?_
    refine Wk.castore (pc' := 28) (i := 0) (jn := 3) (H' := [arr .char [(.int (115 : Int32)), (.int (117 : Int32)), (.int (98 : Int32)), (.int (106 : Int32)), (.int (0 : Int32)), (.int (0 : Int32)), (.int (0 : Int32))]]) d0_27 rfl (by decide) (by decide) (Nat.le_of_ble_eq_true rfl) (by first | rfl | (rw [hch]; rfl) | (rw [hch2]; rfl)) rfl ?_
    refine Wk.dup (pc' := 29) d0_28 rfl rfl ?_
    refine Wk.iconst (pc' := 30) (4 : Int32) d0_29 (by decide) rfl ?_
    refine Wk.bipush (pc' := 32) (101 : Int32) d0_30 (by decide) rfl ?_
    refine Wk.castore (pc' := 33) (i := 0) (jn := 4) (H' := [arr .char [(.int (115 : Int32)), (.int (117 : Int32)), (.int (98 : Int32)), (.int (106 : Int32)), (.int (101 : Int32)), (.int (0 : Int32)), (.int (0 : Int32))]]) d0_32 rfl (by decide) (by decide) (Nat.le_of_ble_eq_true rfl) (by first | rfl | (rw [hch]; rfl) | (rw [hch2]; rfl)) rfl ?_
    refine Wk.dup (pc' := 34) d0_33 rfl rfl ?_
    refine Wk.iconst (pc' := 35) (5 : Int32) d0_34 (by decide) rfl ?_
    refine Wk.bipush (pc' := 37) (99 : Int32) d0_35 (by decide) rfl ?_
    refine Wk.castore (pc' := 38) (i := 0) (jn := 5) (H' := [arr .char [(.int (115 : Int32)), (.int (117 : Int32)), (.int (98 : Int32)), (.int (106 : Int32)), (.int (101 : Int32)), (.int (99 : Int32)), (.int (0 : Int32))]]) d0_37 rfl (by decide) (by decide) (Nat.le_of_ble_eq_true rfl) (by first | rfl | (rw [hch]; rfl) | (rw [hch2]; rfl)) rfl ?_
    refine Wk.dup (pc' := 39) d0_38 rfl rfl ?_
    refine Wk.bipush (pc' := 41) (6 : Int32) d0_39 (by decide) rfl ?_
    refine Wk.bipush (pc' := 43) (116 : Int32) d0_41 (by decide) rfl ?_
    refine Wk.castore (pc' := 44) (i := 0) (jn := 6) (H' := [arr .char [(.int (115 : Int32)), (.int (117 : Int32)), (.int (98 : Int32)), (.int (106 : Int32)), (.int (101 : Int32)), (.int (99 : Int32)), (.int (116 : Int32))]]) d0_43 rfl (by decide) (by decide) (Nat.le_of_ble_eq_true rfl) (by first | rfl | (rw [hch]; rfl) | (rw [hch2]; rfl)) rfl ?_
    refine Wk.astoreN (pc' := 45) (Ls' := #[.val (.int k), .val (.int pos), .val (.int ch), .val (rf hB 0)]) d0_44 rfl rfl rfl ?_
    refine Wk.goTo (pc' := 187) d0_45 (by decide) (by decide) ?_
    refine Wk.aloadN (pc' := 188) d0_187 rfl rfl rfl ?_
    refine Wk.iloadN (pc' := 189) d0_188 rfl rfl ?_
    refine Wk.ldcInt (pc' := 191) d0_189 (wd5 hw) rfl ?_
    refine Wk.iand (pc' := 192) d0_191 rfl ?_
    refine Wk.aloadN (pc' := 193) d0_192 rfl rfl rfl ?_
    refine Wk.arrLen (pc' := 194) (i := 0) (z := (7 : Int32)) d0_193 rfl (by rfl) rfl ?_
    refine Wk.irem (pc' := 195) d0_194 (by decide) rfl ?_
    refine Wk.iloadN (pc' := 196) d0_195 rfl rfl ?_
    refine Wk.castore (pc' := 197) (i := 0) (jn := (((pos &&& (2147483647 : Int32)) % (7 : Int32))).toNatClampNeg) (H' := [arr .char ((([115, 117, 98, 106, 101, 99, 116] : List Int32).set (((pos &&& (2147483647 : Int32)) % (7 : Int32))).toNatClampNeg ch).map Value.int)]) d0_196 rfl (modB pos (n := (7 : Int32)) (m := 7) rfl (by decide)).1 rfl (modB pos (n := (7 : Int32)) (m := 7) rfl (by decide)).2 (by rw [hch]; show [arr .char ((([115, 117, 98, 106, 101, 99, 116] : List Int32).map Value.int).set _ (Value.int ch))] = _; rw [← List.map_set]) rfl ?_
    refine Wk.newObj (pc' := 200) (i := 1) (H' := [arr .char ((([115, 117, 98, 106, 101, 99, 116] : List Int32).set (((pos &&& (2147483647 : Int32)) % (7 : Int32))).toNatClampNeg ch).map Value.int), obj "java/lang/String" ksS [(.int (0 : Int32)), .null]]) d0_197 (wd6 hw) (wd7 hw) (wd8 hw) (ksS_laid hw) (ksS_dist hw) (Nat.le_of_ble_eq_true rfl) (Nat.le_of_ble_eq_true rfl) rfl rfl rfl ?_
    refine Wk.dup (pc' := 201) d0_200 rfl rfl ?_
    refine Wk.aloadN (pc' := 202) d0_201 rfl rfl rfl ?_
    refine Wk.callI (pc' := 205) (argsL := [(rf hB 0)]) (st := [(rf hB 1)]) d0_202 rfl (wd9 hw) (wd10 hw) (wd8 hw) (wd11 hw) (by decide) (lenOf pd_10 rfl) (m_si l Z a0 hw hB [arr .char ((([115, 117, 98, 106, 101, 99, 116] : List Int32).set (((pos &&& (2147483647 : Int32)) % (7 : Int32))).toNatClampNeg ch).map Value.int), obj "java/lang/String" ksS [(.int (0 : Int32)), .null]] ck sC hck 1 0 (([115, 117, 98, 106, 101, 99, 116] : List Int32).set (((pos &&& (2147483647 : Int32)) % (7 : Int32))).toNatClampNeg ch) (setLe (by decide) h255) (by rw [List.length_set]; decide) (by rw [List.length_set]; decide) rfl rfl) rfl (Nat.le_of_ble_eq_true rfl) (Nat.le_of_ble_eq_true rfl) (Nat.le_of_ble_eq_true rfl) (Nat.le_of_ble_eq_true rfl) rfl rfl ?_
    rintro _ _ ⟨rfl, hH⟩; obtain rfl := hH.symm
    show WP (l, consts_1) Z hB _ _ _ _ _ _ _ _ [arr .char ((([115, 117, 98, 106, 101, 99, 116] : List Int32).set (((pos &&& (2147483647 : Int32)) % (7 : Int32))).toNatClampNeg ch).map Value.int), obj "java/lang/String" ksS [(.int (0 : Int32)), (rf hB 2)], arr .byte ((((([115, 117, 98, 106, 101, 99, 116] : List Int32).set (((pos &&& (2147483647 : Int32)) % (7 : Int32))).toNatClampNeg ch).map fun c => c.toInt8.toInt32)).map Value.int)] _ _ [(rf hB 1)]
    exact Wk.aret (t := (.object "java/lang/String")) d0_205 rfl rfl rfl (Nat.le_of_ble_eq_true rfl) (Nat.le_of_ble_eq_true rfl) ⟨_, _, rfl, (Nat.le_of_ble_eq_true rfl), Wk.SL.made (i := 1) (j := 2) (jc := 0) (jv := 1) rfl rfl rfl rfl rfl rfl (by simp)⟩
  ·
    refine Wk.ifY (pc' := 48) d0_1 (XT.i0_ne_t hc1) (by decide) (by decide) ?_
    refine Wk.iloadN (pc' := 49) d0_48 rfl rfl ?_
    refine Wk.iconst (pc' := 50) (1 : Int32) d0_49 (by decide) rfl ?_
    by_cases hc2 : k = (1 : Int32)
    ·
      refine Wk.icN (pc' := 53) d0_50 (XT.ii_ne_f hc2) rfl ?_
      refine Wk.bipush (pc' := 55) (6 : Int32) d0_53 (by decide) rfl ?_
      refine Wk.newArr (pc' := 57) (i := 0) (nn := 6) (H' := [arr .char [(.int (0 : Int32)), (.int (0 : Int32)), (.int (0 : Int32)), (.int (0 : Int32)), (.int (0 : Int32)), (.int (0 : Int32))]]) d0_55 (wd4 hw) (by decide) (by decide) (by omega) rfl ⟨(by intro C; simp [newarray.typeOf]), (by intro C; simp [newarray.typeOf])⟩ (Nat.le_of_ble_eq_true rfl) (Nat.le_of_ble_eq_true rfl) rfl rfl rfl ?_
      refine Wk.dup (pc' := 58) d0_57 rfl rfl ?_
      refine Wk.iconst (pc' := 59) (0 : Int32) d0_58 (by decide) rfl ?_
      refine Wk.bipush (pc' := 61) (97 : Int32) d0_59 (by decide) rfl ?_
      refine Wk.castore (pc' := 62) (i := 0) (jn := 0) (H' := [arr .char [(.int (97 : Int32)), (.int (0 : Int32)), (.int (0 : Int32)), (.int (0 : Int32)), (.int (0 : Int32)), (.int (0 : Int32))]]) d0_61 rfl (by decide) (by decide) (Nat.le_of_ble_eq_true rfl) (by first | rfl | (rw [hch]; rfl) | (rw [hch2]; rfl)) rfl ?_
      refine Wk.dup (pc' := 63) d0_62 rfl rfl ?_
      refine Wk.iconst (pc' := 64) (1 : Int32) d0_63 (by decide) rfl ?_
      refine Wk.bipush (pc' := 66) (99 : Int32) d0_64 (by decide) rfl ?_
      refine Wk.castore (pc' := 67) (i := 0) (jn := 1) (H' := [arr .char [(.int (97 : Int32)), (.int (99 : Int32)), (.int (0 : Int32)), (.int (0 : Int32)), (.int (0 : Int32)), (.int (0 : Int32))]]) d0_66 rfl (by decide) (by decide) (Nat.le_of_ble_eq_true rfl) (by first | rfl | (rw [hch]; rfl) | (rw [hch2]; rfl)) rfl ?_
      refine Wk.dup (pc' := 68) d0_67 rfl rfl ?_
      refine Wk.iconst (pc' := 69) (2 : Int32) d0_68 (by decide) rfl ?_
      refine Wk.bipush (pc' := 71) (116 : Int32) d0_69 (by decide) rfl ?_
      refine Wk.castore (pc' := 72) (i := 0) (jn := 2) (H' := [arr .char [(.int (97 : Int32)), (.int (99 : Int32)), (.int (116 : Int32)), (.int (0 : Int32)), (.int (0 : Int32)), (.int (0 : Int32))]]) d0_71 rfl (by decide) (by decide) (Nat.le_of_ble_eq_true rfl) (by first | rfl | (rw [hch]; rfl) | (rw [hch2]; rfl)) rfl ?_
      refine Wk.dup (pc' := 73) d0_72 rfl rfl ?_
      refine Wk.iconst (pc' := 74) (3 : Int32) d0_73 (by decide) rfl ?_
      refine Wk.bipush (pc' := 76) (105 : Int32) d0_74 (by decide) rfl ?_
      refine Wk.castore (pc' := 77) (i := 0) (jn := 3) (H' := [arr .char [(.int (97 : Int32)), (.int (99 : Int32)), (.int (116 : Int32)), (.int (105 : Int32)), (.int (0 : Int32)), (.int (0 : Int32))]]) d0_76 rfl (by decide) (by decide) (Nat.le_of_ble_eq_true rfl) (by first | rfl | (rw [hch]; rfl) | (rw [hch2]; rfl)) rfl ?_
      refine Wk.dup (pc' := 78) d0_77 rfl rfl ?_
      refine Wk.iconst (pc' := 79) (4 : Int32) d0_78 (by decide) rfl ?_
      refine Wk.bipush (pc' := 81) (111 : Int32) d0_79 (by decide) rfl ?_
      refine Wk.castore (pc' := 82) (i := 0) (jn := 4) (H' := [arr .char [(.int (97 : Int32)), (.int (99 : Int32)), (.int (116 : Int32)), (.int (105 : Int32)), (.int (111 : Int32)), (.int (0 : Int32))]]) d0_81 rfl (by decide) (by decide) (Nat.le_of_ble_eq_true rfl) (by first | rfl | (rw [hch]; rfl) | (rw [hch2]; rfl)) rfl ?_
      refine Wk.dup (pc' := 83) d0_82 rfl rfl ?_
      refine Wk.iconst (pc' := 84) (5 : Int32) d0_83 (by decide) rfl ?_
      refine Wk.bipush (pc' := 86) (110 : Int32) d0_84 (by decide) rfl ?_
      refine Wk.castore (pc' := 87) (i := 0) (jn := 5) (H' := [arr .char [(.int (97 : Int32)), (.int (99 : Int32)), (.int (116 : Int32)), (.int (105 : Int32)), (.int (111 : Int32)), (.int (110 : Int32))]]) d0_86 rfl (by decide) (by decide) (Nat.le_of_ble_eq_true rfl) (by first | rfl | (rw [hch]; rfl) | (rw [hch2]; rfl)) rfl ?_
      refine Wk.astoreN (pc' := 88) (Ls' := #[.val (.int k), .val (.int pos), .val (.int ch), .val (rf hB 0)]) d0_87 rfl rfl rfl ?_
      refine Wk.goTo (pc' := 187) d0_88 (by decide) (by decide) ?_
      refine Wk.aloadN (pc' := 188) d0_187 rfl rfl rfl ?_
      refine Wk.iloadN (pc' := 189) d0_188 rfl rfl ?_
      refine Wk.ldcInt (pc' := 191) d0_189 (wd5 hw) rfl ?_
      refine Wk.iand (pc' := 192) d0_191 rfl ?_
      refine Wk.aloadN (pc' := 193) d0_192 rfl rfl rfl ?_
      refine Wk.arrLen (pc' := 194) (i := 0) (z := (6 : Int32)) d0_193 rfl (by rfl) rfl ?_
      refine Wk.irem (pc' := 195) d0_194 (by decide) rfl ?_
      refine Wk.iloadN (pc' := 196) d0_195 rfl rfl ?_
      refine Wk.castore (pc' := 197) (i := 0) (jn := (((pos &&& (2147483647 : Int32)) % (6 : Int32))).toNatClampNeg) (H' := [arr .char ((([97, 99, 116, 105, 111, 110] : List Int32).set (((pos &&& (2147483647 : Int32)) % (6 : Int32))).toNatClampNeg ch).map Value.int)]) d0_196 rfl (modB pos (n := (6 : Int32)) (m := 6) rfl (by decide)).1 rfl (modB pos (n := (6 : Int32)) (m := 6) rfl (by decide)).2 (by rw [hch]; show [arr .char ((([97, 99, 116, 105, 111, 110] : List Int32).map Value.int).set _ (Value.int ch))] = _; rw [← List.map_set]) rfl ?_
      refine Wk.newObj (pc' := 200) (i := 1) (H' := [arr .char ((([97, 99, 116, 105, 111, 110] : List Int32).set (((pos &&& (2147483647 : Int32)) % (6 : Int32))).toNatClampNeg ch).map Value.int), obj "java/lang/String" ksS [(.int (0 : Int32)), .null]]) d0_197 (wd6 hw) (wd7 hw) (wd8 hw) (ksS_laid hw) (ksS_dist hw) (Nat.le_of_ble_eq_true rfl) (Nat.le_of_ble_eq_true rfl) rfl rfl rfl ?_
      refine Wk.dup (pc' := 201) d0_200 rfl rfl ?_
      refine Wk.aloadN (pc' := 202) d0_201 rfl rfl rfl ?_
      refine Wk.callI (pc' := 205) (argsL := [(rf hB 0)]) (st := [(rf hB 1)]) d0_202 rfl (wd9 hw) (wd10 hw) (wd8 hw) (wd11 hw) (by decide) (lenOf pd_10 rfl) (m_si l Z a0 hw hB [arr .char ((([97, 99, 116, 105, 111, 110] : List Int32).set (((pos &&& (2147483647 : Int32)) % (6 : Int32))).toNatClampNeg ch).map Value.int), obj "java/lang/String" ksS [(.int (0 : Int32)), .null]] ck sC hck 1 0 (([97, 99, 116, 105, 111, 110] : List Int32).set (((pos &&& (2147483647 : Int32)) % (6 : Int32))).toNatClampNeg ch) (setLe (by decide) h255) (by rw [List.length_set]; decide) (by rw [List.length_set]; decide) rfl rfl) rfl (Nat.le_of_ble_eq_true rfl) (Nat.le_of_ble_eq_true rfl) (Nat.le_of_ble_eq_true rfl) (Nat.le_of_ble_eq_true rfl) rfl rfl ?_
      rintro _ _ ⟨rfl, hH⟩; obtain rfl := hH.symm
      show WP (l, consts_1) Z hB _ _ _ _ _ _ _ _ [arr .char ((([97, 99, 116, 105, 111, 110] : List Int32).set (((pos &&& (2147483647 : Int32)) % (6 : Int32))).toNatClampNeg ch).map Value.int), obj "java/lang/String" ksS [(.int (0 : Int32)), (rf hB 2)], arr .byte ((((([97, 99, 116, 105, 111, 110] : List Int32).set (((pos &&& (2147483647 : Int32)) % (6 : Int32))).toNatClampNeg ch).map fun c => c.toInt8.toInt32)).map Value.int)] _ _ [(rf hB 1)]
      exact Wk.aret (t := (.object "java/lang/String")) d0_205 rfl rfl rfl (Nat.le_of_ble_eq_true rfl) (Nat.le_of_ble_eq_true rfl) ⟨_, _, rfl, (Nat.le_of_ble_eq_true rfl), Wk.SL.made (i := 1) (j := 2) (jc := 0) (jv := 1) rfl rfl rfl rfl rfl rfl (by simp)⟩
    ·
      refine Wk.icY (pc' := 91) d0_50 (XT.ii_ne_t hc2) (by decide) (by decide) ?_
      refine Wk.iloadN (pc' := 92) d0_91 rfl rfl ?_
      refine Wk.iconst (pc' := 93) (2 : Int32) d0_92 (by decide) rfl ?_
      by_cases hc3 : k = (2 : Int32)
      ·
        refine Wk.icN (pc' := 96) d0_93 (XT.ii_ne_f hc3) rfl ?_
        refine Wk.bipush (pc' := 98) (8 : Int32) d0_96 (by decide) rfl ?_
        refine Wk.newArr (pc' := 100) (i := 0) (nn := 8) (H' := [arr .char [(.int (0 : Int32)), (.int (0 : Int32)), (.int (0 : Int32)), (.int (0 : Int32)), (.int (0 : Int32)), (.int (0 : Int32)), (.int (0 : Int32)), (.int (0 : Int32))]]) d0_98 (wd4 hw) (by decide) (by decide) (by omega) rfl ⟨(by intro C; simp [newarray.typeOf]), (by intro C; simp [newarray.typeOf])⟩ (Nat.le_of_ble_eq_true rfl) (Nat.le_of_ble_eq_true rfl) rfl rfl rfl ?_
        refine Wk.dup (pc' := 101) d0_100 rfl rfl ?_
        refine Wk.iconst (pc' := 102) (0 : Int32) d0_101 (by decide) rfl ?_
        refine Wk.bipush (pc' := 104) (114 : Int32) d0_102 (by decide) rfl ?_
        refine Wk.castore (pc' := 105) (i := 0) (jn := 0) (H' := [arr .char [(.int (114 : Int32)), (.int (0 : Int32)), (.int (0 : Int32)), (.int (0 : Int32)), (.int (0 : Int32)), (.int (0 : Int32)), (.int (0 : Int32)), (.int (0 : Int32))]]) d0_104 rfl (by decide) (by decide) (Nat.le_of_ble_eq_true rfl) (by first | rfl | (rw [hch]; rfl) | (rw [hch2]; rfl)) rfl ?_
        refine Wk.dup (pc' := 106) d0_105 rfl rfl ?_
        refine Wk.iconst (pc' := 107) (1 : Int32) d0_106 (by decide) rfl ?_
        refine Wk.bipush (pc' := 109) (101 : Int32) d0_107 (by decide) rfl ?_
        refine Wk.castore (pc' := 110) (i := 0) (jn := 1) (H' := [arr .char [(.int (114 : Int32)), (.int (101 : Int32)), (.int (0 : Int32)), (.int (0 : Int32)), (.int (0 : Int32)), (.int (0 : Int32)), (.int (0 : Int32)), (.int (0 : Int32))]]) d0_109 rfl (by decide) (by decide) (Nat.le_of_ble_eq_true rfl) (by first | rfl | (rw [hch]; rfl) | (rw [hch2]; rfl)) rfl ?_
        refine Wk.dup (pc' := 111) d0_110 rfl rfl ?_
        refine Wk.iconst (pc' := 112) (2 : Int32) d0_111 (by decide) rfl ?_
        refine Wk.bipush (pc' := 114) (115 : Int32) d0_112 (by decide) rfl ?_
        refine Wk.castore (pc' := 115) (i := 0) (jn := 2) (H' := [arr .char [(.int (114 : Int32)), (.int (101 : Int32)), (.int (115 : Int32)), (.int (0 : Int32)), (.int (0 : Int32)), (.int (0 : Int32)), (.int (0 : Int32)), (.int (0 : Int32))]]) d0_114 rfl (by decide) (by decide) (Nat.le_of_ble_eq_true rfl) (by first | rfl | (rw [hch]; rfl) | (rw [hch2]; rfl)) rfl ?_
        refine Wk.dup (pc' := 116) d0_115 rfl rfl ?_
        refine Wk.iconst (pc' := 117) (3 : Int32) d0_116 (by decide) rfl ?_
        refine Wk.bipush (pc' := 119) (111 : Int32) d0_117 (by decide) rfl ?_
        refine Wk.castore (pc' := 120) (i := 0) (jn := 3) (H' := [arr .char [(.int (114 : Int32)), (.int (101 : Int32)), (.int (115 : Int32)), (.int (111 : Int32)), (.int (0 : Int32)), (.int (0 : Int32)), (.int (0 : Int32)), (.int (0 : Int32))]]) d0_119 rfl (by decide) (by decide) (Nat.le_of_ble_eq_true rfl) (by first | rfl | (rw [hch]; rfl) | (rw [hch2]; rfl)) rfl ?_
        refine Wk.dup (pc' := 121) d0_120 rfl rfl ?_
        refine Wk.iconst (pc' := 122) (4 : Int32) d0_121 (by decide) rfl ?_
        refine Wk.bipush (pc' := 124) (117 : Int32) d0_122 (by decide) rfl ?_
        refine Wk.castore (pc' := 125) (i := 0) (jn := 4) (H' := [arr .char [(.int (114 : Int32)), (.int (101 : Int32)), (.int (115 : Int32)), (.int (111 : Int32)), (.int (117 : Int32)), (.int (0 : Int32)), (.int (0 : Int32)), (.int (0 : Int32))]]) d0_124 rfl (by decide) (by decide) (Nat.le_of_ble_eq_true rfl) (by first | rfl | (rw [hch]; rfl) | (rw [hch2]; rfl)) rfl ?_
        refine Wk.dup (pc' := 126) d0_125 rfl rfl ?_
        refine Wk.iconst (pc' := 127) (5 : Int32) d0_126 (by decide) rfl ?_
        refine Wk.bipush (pc' := 129) (114 : Int32) d0_127 (by decide) rfl ?_
        refine Wk.castore (pc' := 130) (i := 0) (jn := 5) (H' := [arr .char [(.int (114 : Int32)), (.int (101 : Int32)), (.int (115 : Int32)), (.int (111 : Int32)), (.int (117 : Int32)), (.int (114 : Int32)), (.int (0 : Int32)), (.int (0 : Int32))]]) d0_129 rfl (by decide) (by decide) (Nat.le_of_ble_eq_true rfl) (by first | rfl | (rw [hch]; rfl) | (rw [hch2]; rfl)) rfl ?_
        refine Wk.dup (pc' := 131) d0_130 rfl rfl ?_
        refine Wk.bipush (pc' := 133) (6 : Int32) d0_131 (by decide) rfl ?_
        refine Wk.bipush (pc' := 135) (99 : Int32) d0_133 (by decide) rfl ?_
        refine Wk.castore (pc' := 136) (i := 0) (jn := 6) (H' := [arr .char [(.int (114 : Int32)), (.int (101 : Int32)), (.int (115 : Int32)), (.int (111 : Int32)), (.int (117 : Int32)), (.int (114 : Int32)), (.int (99 : Int32)), (.int (0 : Int32))]]) d0_135 rfl (by decide) (by decide) (Nat.le_of_ble_eq_true rfl) (by first | rfl | (rw [hch]; rfl) | (rw [hch2]; rfl)) rfl ?_
        refine Wk.dup (pc' := 137) d0_136 rfl rfl ?_
        refine Wk.bipush (pc' := 139) (7 : Int32) d0_137 (by decide) rfl ?_
        refine Wk.bipush (pc' := 141) (101 : Int32) d0_139 (by decide) rfl ?_
        refine Wk.castore (pc' := 142) (i := 0) (jn := 7) (H' := [arr .char [(.int (114 : Int32)), (.int (101 : Int32)), (.int (115 : Int32)), (.int (111 : Int32)), (.int (117 : Int32)), (.int (114 : Int32)), (.int (99 : Int32)), (.int (101 : Int32))]]) d0_141 rfl (by decide) (by decide) (Nat.le_of_ble_eq_true rfl) (by first | rfl | (rw [hch]; rfl) | (rw [hch2]; rfl)) rfl ?_
        refine Wk.astoreN (pc' := 143) (Ls' := #[.val (.int k), .val (.int pos), .val (.int ch), .val (rf hB 0)]) d0_142 rfl rfl rfl ?_
        refine Wk.goTo (pc' := 187) d0_143 (by decide) (by decide) ?_
        refine Wk.aloadN (pc' := 188) d0_187 rfl rfl rfl ?_
        refine Wk.iloadN (pc' := 189) d0_188 rfl rfl ?_
        refine Wk.ldcInt (pc' := 191) d0_189 (wd5 hw) rfl ?_
        refine Wk.iand (pc' := 192) d0_191 rfl ?_
        refine Wk.aloadN (pc' := 193) d0_192 rfl rfl rfl ?_
        refine Wk.arrLen (pc' := 194) (i := 0) (z := (8 : Int32)) d0_193 rfl (by rfl) rfl ?_
        refine Wk.irem (pc' := 195) d0_194 (by decide) rfl ?_
        refine Wk.iloadN (pc' := 196) d0_195 rfl rfl ?_
        refine Wk.castore (pc' := 197) (i := 0) (jn := (((pos &&& (2147483647 : Int32)) % (8 : Int32))).toNatClampNeg) (H' := [arr .char ((([114, 101, 115, 111, 117, 114, 99, 101] : List Int32).set (((pos &&& (2147483647 : Int32)) % (8 : Int32))).toNatClampNeg ch).map Value.int)]) d0_196 rfl (modB pos (n := (8 : Int32)) (m := 8) rfl (by decide)).1 rfl (modB pos (n := (8 : Int32)) (m := 8) rfl (by decide)).2 (by rw [hch]; show [arr .char ((([114, 101, 115, 111, 117, 114, 99, 101] : List Int32).map Value.int).set _ (Value.int ch))] = _; rw [← List.map_set]) rfl ?_
        refine Wk.newObj (pc' := 200) (i := 1) (H' := [arr .char ((([114, 101, 115, 111, 117, 114, 99, 101] : List Int32).set (((pos &&& (2147483647 : Int32)) % (8 : Int32))).toNatClampNeg ch).map Value.int), obj "java/lang/String" ksS [(.int (0 : Int32)), .null]]) d0_197 (wd6 hw) (wd7 hw) (wd8 hw) (ksS_laid hw) (ksS_dist hw) (Nat.le_of_ble_eq_true rfl) (Nat.le_of_ble_eq_true rfl) rfl rfl rfl ?_
        refine Wk.dup (pc' := 201) d0_200 rfl rfl ?_
        refine Wk.aloadN (pc' := 202) d0_201 rfl rfl rfl ?_
        refine Wk.callI (pc' := 205) (argsL := [(rf hB 0)]) (st := [(rf hB 1)]) d0_202 rfl (wd9 hw) (wd10 hw) (wd8 hw) (wd11 hw) (by decide) (lenOf pd_10 rfl) (m_si l Z a0 hw hB [arr .char ((([114, 101, 115, 111, 117, 114, 99, 101] : List Int32).set (((pos &&& (2147483647 : Int32)) % (8 : Int32))).toNatClampNeg ch).map Value.int), obj "java/lang/String" ksS [(.int (0 : Int32)), .null]] ck sC hck 1 0 (([114, 101, 115, 111, 117, 114, 99, 101] : List Int32).set (((pos &&& (2147483647 : Int32)) % (8 : Int32))).toNatClampNeg ch) (setLe (by decide) h255) (by rw [List.length_set]; decide) (by rw [List.length_set]; decide) rfl rfl) rfl (Nat.le_of_ble_eq_true rfl) (Nat.le_of_ble_eq_true rfl) (Nat.le_of_ble_eq_true rfl) (Nat.le_of_ble_eq_true rfl) rfl rfl ?_
        rintro _ _ ⟨rfl, hH⟩; obtain rfl := hH.symm
        show WP (l, consts_1) Z hB _ _ _ _ _ _ _ _ [arr .char ((([114, 101, 115, 111, 117, 114, 99, 101] : List Int32).set (((pos &&& (2147483647 : Int32)) % (8 : Int32))).toNatClampNeg ch).map Value.int), obj "java/lang/String" ksS [(.int (0 : Int32)), (rf hB 2)], arr .byte ((((([114, 101, 115, 111, 117, 114, 99, 101] : List Int32).set (((pos &&& (2147483647 : Int32)) % (8 : Int32))).toNatClampNeg ch).map fun c => c.toInt8.toInt32)).map Value.int)] _ _ [(rf hB 1)]
        exact Wk.aret (t := (.object "java/lang/String")) d0_205 rfl rfl rfl (Nat.le_of_ble_eq_true rfl) (Nat.le_of_ble_eq_true rfl) ⟨_, _, rfl, (Nat.le_of_ble_eq_true rfl), Wk.SL.made (i := 1) (j := 2) (jc := 0) (jv := 1) rfl rfl rfl rfl rfl rfl (by simp)⟩
      ·
        refine Wk.icY (pc' := 146) d0_93 (XT.ii_ne_t hc3) (by decide) (by decide) ?_
        refine Wk.bipush (pc' := 148) (7 : Int32) d0_146 (by decide) rfl ?_
        refine Wk.newArr (pc' := 150) (i := 0) (nn := 7) (H' := [arr .char [(.int (0 : Int32)), (.int (0 : Int32)), (.int (0 : Int32)), (.int (0 : Int32)), (.int (0 : Int32)), (.int (0 : Int32)), (.int (0 : Int32))]]) d0_148 (wd4 hw) (by decide) (by decide) (by omega) rfl ⟨(by intro C; simp [newarray.typeOf]), (by intro C; simp [newarray.typeOf])⟩ (Nat.le_of_ble_eq_true rfl) (Nat.le_of_ble_eq_true rfl) rfl rfl rfl ?_
        refine Wk.dup (pc' := 151) d0_150 rfl rfl ?_
        refine Wk.iconst (pc' := 152) (0 : Int32) d0_151 (by decide) rfl ?_
        refine Wk.bipush (pc' := 154) (99 : Int32) d0_152 (by decide) rfl ?_
        refine Wk.castore (pc' := 155) (i := 0) (jn := 0) (H' := [arr .char [(.int (99 : Int32)), (.int (0 : Int32)), (.int (0 : Int32)), (.int (0 : Int32)), (.int (0 : Int32)), (.int (0 : Int32)), (.int (0 : Int32))]]) d0_154 rfl (by decide) (by decide) (Nat.le_of_ble_eq_true rfl) (by first | rfl | (rw [hch]; rfl) | (rw [hch2]; rfl)) rfl ?_
        refine Wk.dup (pc' := 156) d0_155 rfl rfl ?_
        refine Wk.iconst (pc' := 157) (1 : Int32) d0_156 (by decide) rfl ?_
        refine Wk.bipush (pc' := 159) (111 : Int32) d0_157 (by decide) rfl ?_
        refine Wk.castore (pc' := 160) (i := 0) (jn := 1) (H' := [arr .char [(.int (99 : Int32)), (.int (111 : Int32)), (.int (0 : Int32)), (.int (0 : Int32)), (.int (0 : Int32)), (.int (0 : Int32)), (.int (0 : Int32))]]) d0_159 rfl (by decide) (by decide) (Nat.le_of_ble_eq_true rfl) (by first | rfl | (rw [hch]; rfl) | (rw [hch2]; rfl)) rfl ?_
        refine Wk.dup (pc' := 161) d0_160 rfl rfl ?_
        refine Wk.iconst (pc' := 162) (2 : Int32) d0_161 (by decide) rfl ?_
        refine Wk.bipush (pc' := 164) (110 : Int32) d0_162 (by decide) rfl ?_
        refine Wk.castore (pc' := 165) (i := 0) (jn := 2) (H' := [arr .char [(.int (99 : Int32)), (.int (111 : Int32)), (.int (110 : Int32)), (.int (0 : Int32)), (.int (0 : Int32)), (.int (0 : Int32)), (.int (0 : Int32))]]) d0_164 rfl (by decide) (by decide) (Nat.le_of_ble_eq_true rfl) (by first | rfl | (rw [hch]; rfl) | (rw [hch2]; rfl)) rfl ?_
        refine Wk.dup (pc' := 166) d0_165 rfl rfl ?_
        refine Wk.iconst (pc' := 167) (3 : Int32) d0_166 (by decide) rfl ?_
        refine Wk.bipush (pc' := 169) (116 : Int32) d0_167 (by decide) rfl ?_
        refine Wk.castore (pc' := 170) (i := 0) (jn := 3) (H' := [arr .char [(.int (99 : Int32)), (.int (111 : Int32)), (.int (110 : Int32)), (.int (116 : Int32)), (.int (0 : Int32)), (.int (0 : Int32)), (.int (0 : Int32))]]) d0_169 rfl (by decide) (by decide) (Nat.le_of_ble_eq_true rfl) (by first | rfl | (rw [hch]; rfl) | (rw [hch2]; rfl)) rfl ?_
        refine Wk.dup (pc' := 171) d0_170 rfl rfl ?_
        refine Wk.iconst (pc' := 172) (4 : Int32) d0_171 (by decide) rfl ?_
        refine Wk.bipush (pc' := 174) (101 : Int32) d0_172 (by decide) rfl ?_
        refine Wk.castore (pc' := 175) (i := 0) (jn := 4) (H' := [arr .char [(.int (99 : Int32)), (.int (111 : Int32)), (.int (110 : Int32)), (.int (116 : Int32)), (.int (101 : Int32)), (.int (0 : Int32)), (.int (0 : Int32))]]) d0_174 rfl (by decide) (by decide) (Nat.le_of_ble_eq_true rfl) (by first | rfl | (rw [hch]; rfl) | (rw [hch2]; rfl)) rfl ?_
        refine Wk.dup (pc' := 176) d0_175 rfl rfl ?_
        refine Wk.iconst (pc' := 177) (5 : Int32) d0_176 (by decide) rfl ?_
        refine Wk.bipush (pc' := 179) (120 : Int32) d0_177 (by decide) rfl ?_
        refine Wk.castore (pc' := 180) (i := 0) (jn := 5) (H' := [arr .char [(.int (99 : Int32)), (.int (111 : Int32)), (.int (110 : Int32)), (.int (116 : Int32)), (.int (101 : Int32)), (.int (120 : Int32)), (.int (0 : Int32))]]) d0_179 rfl (by decide) (by decide) (Nat.le_of_ble_eq_true rfl) (by first | rfl | (rw [hch]; rfl) | (rw [hch2]; rfl)) rfl ?_
        refine Wk.dup (pc' := 181) d0_180 rfl rfl ?_
        refine Wk.bipush (pc' := 183) (6 : Int32) d0_181 (by decide) rfl ?_
        refine Wk.bipush (pc' := 185) (116 : Int32) d0_183 (by decide) rfl ?_
        refine Wk.castore (pc' := 186) (i := 0) (jn := 6) (H' := [arr .char [(.int (99 : Int32)), (.int (111 : Int32)), (.int (110 : Int32)), (.int (116 : Int32)), (.int (101 : Int32)), (.int (120 : Int32)), (.int (116 : Int32))]]) d0_185 rfl (by decide) (by decide) (Nat.le_of_ble_eq_true rfl) (by first | rfl | (rw [hch]; rfl) | (rw [hch2]; rfl)) rfl ?_
        refine Wk.astoreN (pc' := 187) (Ls' := #[.val (.int k), .val (.int pos), .val (.int ch), .val (rf hB 0)]) d0_186 rfl rfl rfl ?_
        refine Wk.aloadN (pc' := 188) d0_187 rfl rfl rfl ?_
        refine Wk.iloadN (pc' := 189) d0_188 rfl rfl ?_
        refine Wk.ldcInt (pc' := 191) d0_189 (wd5 hw) rfl ?_
        refine Wk.iand (pc' := 192) d0_191 rfl ?_
        refine Wk.aloadN (pc' := 193) d0_192 rfl rfl rfl ?_
        refine Wk.arrLen (pc' := 194) (i := 0) (z := (7 : Int32)) d0_193 rfl (by rfl) rfl ?_
        refine Wk.irem (pc' := 195) d0_194 (by decide) rfl ?_
        refine Wk.iloadN (pc' := 196) d0_195 rfl rfl ?_
        refine Wk.castore (pc' := 197) (i := 0) (jn := (((pos &&& (2147483647 : Int32)) % (7 : Int32))).toNatClampNeg) (H' := [arr .char ((([99, 111, 110, 116, 101, 120, 116] : List Int32).set (((pos &&& (2147483647 : Int32)) % (7 : Int32))).toNatClampNeg ch).map Value.int)]) d0_196 rfl (modB pos (n := (7 : Int32)) (m := 7) rfl (by decide)).1 rfl (modB pos (n := (7 : Int32)) (m := 7) rfl (by decide)).2 (by rw [hch]; show [arr .char ((([99, 111, 110, 116, 101, 120, 116] : List Int32).map Value.int).set _ (Value.int ch))] = _; rw [← List.map_set]) rfl ?_
        refine Wk.newObj (pc' := 200) (i := 1) (H' := [arr .char ((([99, 111, 110, 116, 101, 120, 116] : List Int32).set (((pos &&& (2147483647 : Int32)) % (7 : Int32))).toNatClampNeg ch).map Value.int), obj "java/lang/String" ksS [(.int (0 : Int32)), .null]]) d0_197 (wd6 hw) (wd7 hw) (wd8 hw) (ksS_laid hw) (ksS_dist hw) (Nat.le_of_ble_eq_true rfl) (Nat.le_of_ble_eq_true rfl) rfl rfl rfl ?_
        refine Wk.dup (pc' := 201) d0_200 rfl rfl ?_
        refine Wk.aloadN (pc' := 202) d0_201 rfl rfl rfl ?_
        refine Wk.callI (pc' := 205) (argsL := [(rf hB 0)]) (st := [(rf hB 1)]) d0_202 rfl (wd9 hw) (wd10 hw) (wd8 hw) (wd11 hw) (by decide) (lenOf pd_10 rfl) (m_si l Z a0 hw hB [arr .char ((([99, 111, 110, 116, 101, 120, 116] : List Int32).set (((pos &&& (2147483647 : Int32)) % (7 : Int32))).toNatClampNeg ch).map Value.int), obj "java/lang/String" ksS [(.int (0 : Int32)), .null]] ck sC hck 1 0 (([99, 111, 110, 116, 101, 120, 116] : List Int32).set (((pos &&& (2147483647 : Int32)) % (7 : Int32))).toNatClampNeg ch) (setLe (by decide) h255) (by rw [List.length_set]; decide) (by rw [List.length_set]; decide) rfl rfl) rfl (Nat.le_of_ble_eq_true rfl) (Nat.le_of_ble_eq_true rfl) (Nat.le_of_ble_eq_true rfl) (Nat.le_of_ble_eq_true rfl) rfl rfl ?_
        rintro _ _ ⟨rfl, hH⟩; obtain rfl := hH.symm
        show WP (l, consts_1) Z hB _ _ _ _ _ _ _ _ [arr .char ((([99, 111, 110, 116, 101, 120, 116] : List Int32).set (((pos &&& (2147483647 : Int32)) % (7 : Int32))).toNatClampNeg ch).map Value.int), obj "java/lang/String" ksS [(.int (0 : Int32)), (rf hB 2)], arr .byte ((((([99, 111, 110, 116, 101, 120, 116] : List Int32).set (((pos &&& (2147483647 : Int32)) % (7 : Int32))).toNatClampNeg ch).map fun c => c.toInt8.toInt32)).map Value.int)] _ _ [(rf hB 1)]
        exact Wk.aret (t := (.object "java/lang/String")) d0_205 rfl rfl rfl (Nat.le_of_ble_eq_true rfl) (Nat.le_of_ble_eq_true rfl) ⟨_, _, rfl, (Nat.le_of_ble_eq_true rfl), Wk.SL.made (i := 1) (j := 2) (jc := 0) (jv := 1) rfl rfl rfl rfl rfl rfl (by simp)⟩
set_option maxRecDepth 65536 in
set_option maxHeartbeats 40000000 in
theorem m_ext (l : Launch) (Z : State) (a0 : Array Value) (hw : ∀ d ∈ tables_1, d.before a0 Z = true) (hB : Heap) (ck : Int32) (sC : Sta Z hB "java/lang/String" "COMPACT_STRINGS" "Z" (.int ck)) (hck : ¬ ck = 0) (k : Int32) (ch : Int32) (hch : nar .char ch = ch) (h255 : ¬ (255 : Int32) < ch) : Ctr (l, consts_1) Z hB ({ cls := "com/example/reckon/reckon/core/RootNamedPinLaw", name := "extended", desc := "(IC)Ljava/lang/String;" } : Jvm.MethodName) method_7_code 3 (some (.object "java/lang/String")) [] ({ frames := 4, cells := 3, slots := 40, locals := 66 } : Room) #[(.int k), (.int ch)] [] (fun v H' => ∃ (a : Addr) (xs : List Int32), v = some (.ref a) ∧ H'.length ≤ 4 ∧ Wk.SL Z hB H' a xs) := by
  refine Wk.ctr pn_17 (Ls := #[.val (.int k), .val (.int ch), .unset]) (fun m => by first | rfl | (simp [entryFrame, mkF, argsToLocals, Value.category]; done)) ?_
  refine Wk.iloadN (pc' := 1) d12_0 rfl rfl ?_
  by_cases hc1 : k = (0 : Int32)
  ·
    refine Wk.ifN (pc' := 4) d12_1 (XT.i0_ne_f hc1) rfl ?_
    refine Wk.bipush (pc' := 6) (8 : Int32) d12_4 (by decide) rfl ?_
    refine Wk.newArr (pc' := 8) (i := 0) (nn := 8) (H' := [arr .char [(.int (0 : Int32)), (.int (0 : Int32)), (.int (0 : Int32)), (.int (0 : Int32)), (.int (0 : Int32)), (.int (0 : Int32)), (.int (0 : Int32)), (.int (0 : Int32))]]) d12_6 (wd4 hw) (by decide) (by decide) (by omega) rfl ⟨(by intro C; simp [newarray.typeOf]), (by intro C; simp [newarray.typeOf])⟩ (Nat.le_of_ble_eq_true rfl) (Nat.le_of_ble_eq_true rfl) rfl rfl rfl ?_
    refine Wk.dup (pc' := 9) d12_8 rfl rfl ?_
    refine Wk.iconst (pc' := 10) (0 : Int32) d12_9 (by decide) rfl ?_
    refine Wk.bipush (pc' := 12) (115 : Int32) d12_10 (by decide) rfl ?_
    refine Wk.castore (pc' := 13) (i := 0) (jn := 0) (H' := [arr .char [(.int (115 : Int32)), (.int (0 : Int32)), (.int (0 : Int32)), (.int (0 : Int32)), (.int (0 : Int32)), (.int (0 : Int32)), (.int (0 : Int32)), (.int (0 : Int32))]]) d12_12 rfl (by decide) (by decide) (Nat.le_of_ble_eq_true rfl) (by first | rfl | (rw [hch]; rfl) | (rw [hch2]; rfl)) rfl ?_
    refine Wk.dup (pc' := 14) d12_13 rfl rfl ?_
    refine Wk.iconst (pc' := 15) (1 : Int32) d12_14 (by decide) rfl ?_
    refine Wk.bipush (pc' := 17) (117 : Int32) d12_15 (by decide) rfl ?_
    refine Wk.castore (pc' := 18) (i := 0) (jn := 1) (H' := [arr .char [(.int (115 : Int32)), (.int (117 : Int32)), (.int (0 : Int32)), (.int (0 : Int32)), (.int (0 : Int32)), (.int (0 : Int32)), (.int (0 : Int32)), (.int (0 : Int32))]]) d12_17 rfl (by decide) (by decide) (Nat.le_of_ble_eq_true rfl) (by first | rfl | (rw [hch]; rfl) | (rw [hch2]; rfl)) rfl ?_
    refine Wk.dup (pc' := 19) d12_18 rfl rfl ?_
    refine Wk.iconst (pc' := 20) (2 : Int32) d12_19 (by decide) rfl ?_
    refine Wk.bipush (pc' := 22) (98 : Int32) d12_20 (by decide) rfl ?_
    refine Wk.castore (pc' := 23) (i := 0) (jn := 2) (H' := [arr .char [(.int (115 : Int32)), (.int (117 : Int32)), (.int (98 : Int32)), (.int (0 : Int32)), (.int (0 : Int32)), (.int (0 : Int32)), (.int (0 : Int32)), (.int (0 : Int32))]]) d12_22 rfl (by decide) (by decide) (Nat.le_of_ble_eq_true rfl) (by first | rfl | (rw [hch]; rfl) | (rw [hch2]; rfl)) rfl ?_
    refine Wk.dup (pc' := 24) d12_23 rfl rfl ?_
    refine Wk.iconst (pc' := 25) (3 : Int32) d12_24 (by decide) rfl ?_
    refine Wk.bipush (pc' := 27) (106 : Int32) d12_25 (by decide) rfl ?_
    refine Wk.castore (pc' := 28) (i := 0) (jn := 3) (H' := [arr .char [(.int (115 : Int32)), (.int (117 : Int32)), (.int (98 : Int32)), (.int (106 : Int32)), (.int (0 : Int32)), (.int (0 : Int32)), (.int (0 : Int32)), (.int (0 : Int32))]]) d12_27 rfl (by decide) (by decide) (Nat.le_of_ble_eq_true rfl) (by first | rfl | (rw [hch]; rfl) | (rw [hch2]; rfl)) rfl ?_
    refine Wk.dup (pc' := 29) d12_28 rfl rfl ?_
    refine Wk.iconst (pc' := 30) (4 : Int32) d12_29 (by decide) rfl ?_
    refine Wk.bipush (pc' := 32) (101 : Int32) d12_30 (by decide) rfl ?_
    refine Wk.castore (pc' := 33) (i := 0) (jn := 4) (H' := [arr .char [(.int (115 : Int32)), (.int (117 : Int32)), (.int (98 : Int32)), (.int (106 : Int32)), (.int (101 : Int32)), (.int (0 : Int32)), (.int (0 : Int32)), (.int (0 : Int32))]]) d12_32 rfl (by decide) (by decide) (Nat.le_of_ble_eq_true rfl) (by first | rfl | (rw [hch]; rfl) | (rw [hch2]; rfl)) rfl ?_
    refine Wk.dup (pc' := 34) d12_33 rfl rfl ?_
    refine Wk.iconst (pc' := 35) (5 : Int32) d12_34 (by decide) rfl ?_
    refine Wk.bipush (pc' := 37) (99 : Int32) d12_35 (by decide) rfl ?_
    refine Wk.castore (pc' := 38) (i := 0) (jn := 5) (H' := [arr .char [(.int (115 : Int32)), (.int (117 : Int32)), (.int (98 : Int32)), (.int (106 : Int32)), (.int (101 : Int32)), (.int (99 : Int32)), (.int (0 : Int32)), (.int (0 : Int32))]]) d12_37 rfl (by decide) (by decide) (Nat.le_of_ble_eq_true rfl) (by first | rfl | (rw [hch]; rfl) | (rw [hch2]; rfl)) rfl ?_
    refine Wk.dup (pc' := 39) d12_38 rfl rfl ?_
    refine Wk.bipush (pc' := 41) (6 : Int32) d12_39 (by decide) rfl ?_
    refine Wk.bipush (pc' := 43) (116 : Int32) d12_41 (by decide) rfl ?_
    refine Wk.castore (pc' := 44) (i := 0) (jn := 6) (H' := [arr .char [(.int (115 : Int32)), (.int (117 : Int32)), (.int (98 : Int32)), (.int (106 : Int32)), (.int (101 : Int32)), (.int (99 : Int32)), (.int (116 : Int32)), (.int (0 : Int32))]]) d12_43 rfl (by decide) (by decide) (Nat.le_of_ble_eq_true rfl) (by first | rfl | (rw [hch]; rfl) | (rw [hch2]; rfl)) rfl ?_
    refine Wk.dup (pc' := 45) d12_44 rfl rfl ?_
    refine Wk.bipush (pc' := 47) (7 : Int32) d12_45 (by decide) rfl ?_
    refine Wk.iloadN (pc' := 48) d12_47 rfl rfl ?_
    refine Wk.castore (pc' := 49) (i := 0) (jn := 7) (H' := [arr .char [(.int (115 : Int32)), (.int (117 : Int32)), (.int (98 : Int32)), (.int (106 : Int32)), (.int (101 : Int32)), (.int (99 : Int32)), (.int (116 : Int32)), (.int ch)]]) d12_48 rfl (by decide) (by decide) (Nat.le_of_ble_eq_true rfl) (by first | rfl | (rw [hch]; rfl) | (rw [hch2]; rfl)) rfl ?_
    refine Wk.astoreN (pc' := 50) (Ls' := #[.val (.int k), .val (.int ch), .val (rf hB 0)]) d12_49 rfl rfl rfl ?_
    refine Wk.goTo (pc' := 207) d12_50 (by decide) (by decide) ?_
    refine Wk.newObj (pc' := 210) (i := 1) (H' := [arr .char [(.int (115 : Int32)), (.int (117 : Int32)), (.int (98 : Int32)), (.int (106 : Int32)), (.int (101 : Int32)), (.int (99 : Int32)), (.int (116 : Int32)), (.int ch)], obj "java/lang/String" ksS [(.int (0 : Int32)), .null]]) d12_207 (wd6 hw) (wd7 hw) (wd8 hw) (ksS_laid hw) (ksS_dist hw) (Nat.le_of_ble_eq_true rfl) (Nat.le_of_ble_eq_true rfl) rfl rfl rfl ?_
    refine Wk.dup (pc' := 211) d12_210 rfl rfl ?_
    refine Wk.aloadN (pc' := 212) d12_211 rfl rfl rfl ?_
    refine Wk.callI (pc' := 215) (argsL := [(rf hB 0)]) (st := [(rf hB 1)]) d12_212 rfl (wd9 hw) (wd10 hw) (wd8 hw) (wd11 hw) (by decide) (lenOf pd_10 rfl) (m_si l Z a0 hw hB [arr .char [(.int (115 : Int32)), (.int (117 : Int32)), (.int (98 : Int32)), (.int (106 : Int32)), (.int (101 : Int32)), (.int (99 : Int32)), (.int (116 : Int32)), (.int ch)], obj "java/lang/String" ksS [(.int (0 : Int32)), .null]] ck sC hck 1 0 ([115, 117, 98, 106, 101, 99, 116, ch] : List Int32) (by intro c hc; simp only [List.mem_cons, List.not_mem_nil, or_false] at hc; rcases hc with rfl | rfl | rfl | rfl | rfl | rfl | rfl | rfl <;> first | decide | assumption) (Nat.le_of_ble_eq_true rfl) (Nat.le_of_ble_eq_true rfl) rfl rfl) rfl (Nat.le_of_ble_eq_true rfl) (Nat.le_of_ble_eq_true rfl) (Nat.le_of_ble_eq_true rfl) (Nat.le_of_ble_eq_true rfl) rfl rfl ?_
    rintro _ _ ⟨rfl, hH⟩; obtain rfl := hH.symm
    show WP (l, consts_1) Z hB _ _ _ _ _ _ _ _ [arr .char [(.int (115 : Int32)), (.int (117 : Int32)), (.int (98 : Int32)), (.int (106 : Int32)), (.int (101 : Int32)), (.int (99 : Int32)), (.int (116 : Int32)), (.int ch)], obj "java/lang/String" ksS [(.int (0 : Int32)), (rf hB 2)], arr .byte (((([115, 117, 98, 106, 101, 99, 116, ch] : List Int32).map fun c => c.toInt8.toInt32)).map Value.int)] _ _ [(rf hB 1)]
    exact Wk.aret (t := (.object "java/lang/String")) d12_215 rfl rfl rfl (Nat.le_of_ble_eq_true rfl) (Nat.le_of_ble_eq_true rfl) ⟨_, _, rfl, (Nat.le_of_ble_eq_true rfl), Wk.SL.made (i := 1) (j := 2) (jc := 0) (jv := 1) rfl rfl rfl rfl rfl rfl (by simp)⟩
  ·
    refine Wk.ifY (pc' := 53) d12_1 (XT.i0_ne_t hc1) (by decide) (by decide) ?_
    refine Wk.iloadN (pc' := 54) d12_53 rfl rfl ?_
    refine Wk.iconst (pc' := 55) (1 : Int32) d12_54 (by decide) rfl ?_
    by_cases hc2 : k = (1 : Int32)
    ·
      refine Wk.icN (pc' := 58) d12_55 (XT.ii_ne_f hc2) rfl ?_
      refine Wk.bipush (pc' := 60) (7 : Int32) d12_58 (by decide) rfl ?_
      refine Wk.newArr (pc' := 62) (i := 0) (nn := 7) (H' := [arr .char [(.int (0 : Int32)), (.int (0 : Int32)), (.int (0 : Int32)), (.int (0 : Int32)), (.int (0 : Int32)), (.int (0 : Int32)), (.int (0 : Int32))]]) d12_60 (wd4 hw) (by decide) (by decide) (by omega) rfl ⟨(by intro C; simp [newarray.typeOf]), (by intro C; simp [newarray.typeOf])⟩ (Nat.le_of_ble_eq_true rfl) (Nat.le_of_ble_eq_true rfl) rfl rfl rfl ?_
      refine Wk.dup (pc' := 63) d12_62 rfl rfl ?_
      refine Wk.iconst (pc' := 64) (0 : Int32) d12_63 (by decide) rfl ?_
      refine Wk.bipush (pc' := 66) (97 : Int32) d12_64 (by decide) rfl ?_
      refine Wk.castore (pc' := 67) (i := 0) (jn := 0) (H' := [arr .char [(.int (97 : Int32)), (.int (0 : Int32)), (.int (0 : Int32)), (.int (0 : Int32)), (.int (0 : Int32)), (.int (0 : Int32)), (.int (0 : Int32))]]) d12_66 rfl (by decide) (by decide) (Nat.le_of_ble_eq_true rfl) (by first | rfl | (rw [hch]; rfl) | (rw [hch2]; rfl)) rfl ?_
      refine Wk.dup (pc' := 68) d12_67 rfl rfl ?_
      refine Wk.iconst (pc' := 69) (1 : Int32) d12_68 (by decide) rfl ?_
      refine Wk.bipush (pc' := 71) (99 : Int32) d12_69 (by decide) rfl ?_
      refine Wk.castore (pc' := 72) (i := 0) (jn := 1) (H' := [arr .char [(.int (97 : Int32)), (.int (99 : Int32)), (.int (0 : Int32)), (.int (0 : Int32)), (.int (0 : Int32)), (.int (0 : Int32)), (.int (0 : Int32))]]) d12_71 rfl (by decide) (by decide) (Nat.le_of_ble_eq_true rfl) (by first | rfl | (rw [hch]; rfl) | (rw [hch2]; rfl)) rfl ?_
      refine Wk.dup (pc' := 73) d12_72 rfl rfl ?_
      refine Wk.iconst (pc' := 74) (2 : Int32) d12_73 (by decide) rfl ?_
      refine Wk.bipush (pc' := 76) (116 : Int32) d12_74 (by decide) rfl ?_
      refine Wk.castore (pc' := 77) (i := 0) (jn := 2) (H' := [arr .char [(.int (97 : Int32)), (.int (99 : Int32)), (.int (116 : Int32)), (.int (0 : Int32)), (.int (0 : Int32)), (.int (0 : Int32)), (.int (0 : Int32))]]) d12_76 rfl (by decide) (by decide) (Nat.le_of_ble_eq_true rfl) (by first | rfl | (rw [hch]; rfl) | (rw [hch2]; rfl)) rfl ?_
      refine Wk.dup (pc' := 78) d12_77 rfl rfl ?_
      refine Wk.iconst (pc' := 79) (3 : Int32) d12_78 (by decide) rfl ?_
      refine Wk.bipush (pc' := 81) (105 : Int32) d12_79 (by decide) rfl ?_
      refine Wk.castore (pc' := 82) (i := 0) (jn := 3) (H' := [arr .char [(.int (97 : Int32)), (.int (99 : Int32)), (.int (116 : Int32)), (.int (105 : Int32)), (.int (0 : Int32)), (.int (0 : Int32)), (.int (0 : Int32))]]) d12_81 rfl (by decide) (by decide) (Nat.le_of_ble_eq_true rfl) (by first | rfl | (rw [hch]; rfl) | (rw [hch2]; rfl)) rfl ?_
      refine Wk.dup (pc' := 83) d12_82 rfl rfl ?_
      refine Wk.iconst (pc' := 84) (4 : Int32) d12_83 (by decide) rfl ?_
      refine Wk.bipush (pc' := 86) (111 : Int32) d12_84 (by decide) rfl ?_
      refine Wk.castore (pc' := 87) (i := 0) (jn := 4) (H' := [arr .char [(.int (97 : Int32)), (.int (99 : Int32)), (.int (116 : Int32)), (.int (105 : Int32)), (.int (111 : Int32)), (.int (0 : Int32)), (.int (0 : Int32))]]) d12_86 rfl (by decide) (by decide) (Nat.le_of_ble_eq_true rfl) (by first | rfl | (rw [hch]; rfl) | (rw [hch2]; rfl)) rfl ?_
      refine Wk.dup (pc' := 88) d12_87 rfl rfl ?_
      refine Wk.iconst (pc' := 89) (5 : Int32) d12_88 (by decide) rfl ?_
      refine Wk.bipush (pc' := 91) (110 : Int32) d12_89 (by decide) rfl ?_
      refine Wk.castore (pc' := 92) (i := 0) (jn := 5) (H' := [arr .char [(.int (97 : Int32)), (.int (99 : Int32)), (.int (116 : Int32)), (.int (105 : Int32)), (.int (111 : Int32)), (.int (110 : Int32)), (.int (0 : Int32))]]) d12_91 rfl (by decide) (by decide) (Nat.le_of_ble_eq_true rfl) (by first | rfl | (rw [hch]; rfl) | (rw [hch2]; rfl)) rfl ?_
      refine Wk.dup (pc' := 93) d12_92 rfl rfl ?_
      refine Wk.bipush (pc' := 95) (6 : Int32) d12_93 (by decide) rfl ?_
      refine Wk.iloadN (pc' := 96) d12_95 rfl rfl ?_
      refine Wk.castore (pc' := 97) (i := 0) (jn := 6) (H' := [arr .char [(.int (97 : Int32)), (.int (99 : Int32)), (.int (116 : Int32)), (.int (105 : Int32)), (.int (111 : Int32)), (.int (110 : Int32)), (.int ch)]]) d12_96 rfl (by decide) (by decide) (Nat.le_of_ble_eq_true rfl) (by first | rfl | (rw [hch]; rfl) | (rw [hch2]; rfl)) rfl ?_
      refine Wk.astoreN (pc' := 98) (Ls' := #[.val (.int k), .val (.int ch), .val (rf hB 0)]) d12_97 rfl rfl rfl ?_
      refine Wk.goTo (pc' := 207) d12_98 (by decide) (by decide) ?_
      refine Wk.newObj (pc' := 210) (i := 1) (H' := [arr .char [(.int (97 : Int32)), (.int (99 : Int32)), (.int (116 : Int32)), (.int (105 : Int32)), (.int (111 : Int32)), (.int (110 : Int32)), (.int ch)], obj "java/lang/String" ksS [(.int (0 : Int32)), .null]]) d12_207 (wd6 hw) (wd7 hw) (wd8 hw) (ksS_laid hw) (ksS_dist hw) (Nat.le_of_ble_eq_true rfl) (Nat.le_of_ble_eq_true rfl) rfl rfl rfl ?_
      refine Wk.dup (pc' := 211) d12_210 rfl rfl ?_
      refine Wk.aloadN (pc' := 212) d12_211 rfl rfl rfl ?_
      refine Wk.callI (pc' := 215) (argsL := [(rf hB 0)]) (st := [(rf hB 1)]) d12_212 rfl (wd9 hw) (wd10 hw) (wd8 hw) (wd11 hw) (by decide) (lenOf pd_10 rfl) (m_si l Z a0 hw hB [arr .char [(.int (97 : Int32)), (.int (99 : Int32)), (.int (116 : Int32)), (.int (105 : Int32)), (.int (111 : Int32)), (.int (110 : Int32)), (.int ch)], obj "java/lang/String" ksS [(.int (0 : Int32)), .null]] ck sC hck 1 0 ([97, 99, 116, 105, 111, 110, ch] : List Int32) (by intro c hc; simp only [List.mem_cons, List.not_mem_nil, or_false] at hc; rcases hc with rfl | rfl | rfl | rfl | rfl | rfl | rfl <;> first | decide | assumption) (Nat.le_of_ble_eq_true rfl) (Nat.le_of_ble_eq_true rfl) rfl rfl) rfl (Nat.le_of_ble_eq_true rfl) (Nat.le_of_ble_eq_true rfl) (Nat.le_of_ble_eq_true rfl) (Nat.le_of_ble_eq_true rfl) rfl rfl ?_
      rintro _ _ ⟨rfl, hH⟩; obtain rfl := hH.symm
      show WP (l, consts_1) Z hB _ _ _ _ _ _ _ _ [arr .char [(.int (97 : Int32)), (.int (99 : Int32)), (.int (116 : Int32)), (.int (105 : Int32)), (.int (111 : Int32)), (.int (110 : Int32)), (.int ch)], obj "java/lang/String" ksS [(.int (0 : Int32)), (rf hB 2)], arr .byte (((([97, 99, 116, 105, 111, 110, ch] : List Int32).map fun c => c.toInt8.toInt32)).map Value.int)] _ _ [(rf hB 1)]
      exact Wk.aret (t := (.object "java/lang/String")) d12_215 rfl rfl rfl (Nat.le_of_ble_eq_true rfl) (Nat.le_of_ble_eq_true rfl) ⟨_, _, rfl, (Nat.le_of_ble_eq_true rfl), Wk.SL.made (i := 1) (j := 2) (jc := 0) (jv := 1) rfl rfl rfl rfl rfl rfl (by simp)⟩
    ·
      refine Wk.icY (pc' := 101) d12_55 (XT.ii_ne_t hc2) (by decide) (by decide) ?_
      refine Wk.iloadN (pc' := 102) d12_101 rfl rfl ?_
      refine Wk.iconst (pc' := 103) (2 : Int32) d12_102 (by decide) rfl ?_
      by_cases hc3 : k = (2 : Int32)
      ·
        refine Wk.icN (pc' := 106) d12_103 (XT.ii_ne_f hc3) rfl ?_
        refine Wk.bipush (pc' := 108) (9 : Int32) d12_106 (by decide) rfl ?_
        refine Wk.newArr (pc' := 110) (i := 0) (nn := 9) (H' := [arr .char [(.int (0 : Int32)), (.int (0 : Int32)), (.int (0 : Int32)), (.int (0 : Int32)), (.int (0 : Int32)), (.int (0 : Int32)), (.int (0 : Int32)), (.int (0 : Int32)), (.int (0 : Int32))]]) d12_108 (wd4 hw) (by decide) (by decide) (by omega) rfl ⟨(by intro C; simp [newarray.typeOf]), (by intro C; simp [newarray.typeOf])⟩ (Nat.le_of_ble_eq_true rfl) (Nat.le_of_ble_eq_true rfl) rfl rfl rfl ?_
        refine Wk.dup (pc' := 111) d12_110 rfl rfl ?_
        refine Wk.iconst (pc' := 112) (0 : Int32) d12_111 (by decide) rfl ?_
        refine Wk.bipush (pc' := 114) (114 : Int32) d12_112 (by decide) rfl ?_
        refine Wk.castore (pc' := 115) (i := 0) (jn := 0) (H' := [arr .char [(.int (114 : Int32)), (.int (0 : Int32)), (.int (0 : Int32)), (.int (0 : Int32)), (.int (0 : Int32)), (.int (0 : Int32)), (.int (0 : Int32)), (.int (0 : Int32)), (.int (0 : Int32))]]) d12_114 rfl (by decide) (by decide) (Nat.le_of_ble_eq_true rfl) (by first | rfl | (rw [hch]; rfl) | (rw [hch2]; rfl)) rfl ?_
        refine Wk.dup (pc' := 116) d12_115 rfl rfl ?_
        refine Wk.iconst (pc' := 117) (1 : Int32) d12_116 (by decide) rfl ?_
        refine Wk.bipush (pc' := 119) (101 : Int32) d12_117 (by decide) rfl ?_
        refine Wk.castore (pc' := 120) (i := 0) (jn := 1) (H' := [arr .char [(.int (114 : Int32)), (.int (101 : Int32)), (.int (0 : Int32)), (.int (0 : Int32)), (.int (0 : Int32)), (.int (0 : Int32)), (.int (0 : Int32)), (.int (0 : Int32)), (.int (0 : Int32))]]) d12_119 rfl (by decide) (by decide) (Nat.le_of_ble_eq_true rfl) (by first | rfl | (rw [hch]; rfl) | (rw [hch2]; rfl)) rfl ?_
        refine Wk.dup (pc' := 121) d12_120 rfl rfl ?_
        refine Wk.iconst (pc' := 122) (2 : Int32) d12_121 (by decide) rfl ?_
        refine Wk.bipush (pc' := 124) (115 : Int32) d12_122 (by decide) rfl ?_
        refine Wk.castore (pc' := 125) (i := 0) (jn := 2) (H' := [arr .char [(.int (114 : Int32)), (.int (101 : Int32)), (.int (115 : Int32)), (.int (0 : Int32)), (.int (0 : Int32)), (.int (0 : Int32)), (.int (0 : Int32)), (.int (0 : Int32)), (.int (0 : Int32))]]) d12_124 rfl (by decide) (by decide) (Nat.le_of_ble_eq_true rfl) (by first | rfl | (rw [hch]; rfl) | (rw [hch2]; rfl)) rfl ?_
        refine Wk.dup (pc' := 126) d12_125 rfl rfl ?_
        refine Wk.iconst (pc' := 127) (3 : Int32) d12_126 (by decide) rfl ?_
        refine Wk.bipush (pc' := 129) (111 : Int32) d12_127 (by decide) rfl ?_
        refine Wk.castore (pc' := 130) (i := 0) (jn := 3) (H' := [arr .char [(.int (114 : Int32)), (.int (101 : Int32)), (.int (115 : Int32)), (.int (111 : Int32)), (.int (0 : Int32)), (.int (0 : Int32)), (.int (0 : Int32)), (.int (0 : Int32)), (.int (0 : Int32))]]) d12_129 rfl (by decide) (by decide) (Nat.le_of_ble_eq_true rfl) (by first | rfl | (rw [hch]; rfl) | (rw [hch2]; rfl)) rfl ?_
        refine Wk.dup (pc' := 131) d12_130 rfl rfl ?_
        refine Wk.iconst (pc' := 132) (4 : Int32) d12_131 (by decide) rfl ?_
        refine Wk.bipush (pc' := 134) (117 : Int32) d12_132 (by decide) rfl ?_
        refine Wk.castore (pc' := 135) (i := 0) (jn := 4) (H' := [arr .char [(.int (114 : Int32)), (.int (101 : Int32)), (.int (115 : Int32)), (.int (111 : Int32)), (.int (117 : Int32)), (.int (0 : Int32)), (.int (0 : Int32)), (.int (0 : Int32)), (.int (0 : Int32))]]) d12_134 rfl (by decide) (by decide) (Nat.le_of_ble_eq_true rfl) (by first | rfl | (rw [hch]; rfl) | (rw [hch2]; rfl)) rfl ?_
        refine Wk.dup (pc' := 136) d12_135 rfl rfl ?_
        refine Wk.iconst (pc' := 137) (5 : Int32) d12_136 (by decide) rfl ?_
        refine Wk.bipush (pc' := 139) (114 : Int32) d12_137 (by decide) rfl ?_
        refine Wk.castore (pc' := 140) (i := 0) (jn := 5) (H' := [arr .char [(.int (114 : Int32)), (.int (101 : Int32)), (.int (115 : Int32)), (.int (111 : Int32)), (.int (117 : Int32)), (.int (114 : Int32)), (.int (0 : Int32)), (.int (0 : Int32)), (.int (0 : Int32))]]) d12_139 rfl (by decide) (by decide) (Nat.le_of_ble_eq_true rfl) (by first | rfl | (rw [hch]; rfl) | (rw [hch2]; rfl)) rfl ?_
        refine Wk.dup (pc' := 141) d12_140 rfl rfl ?_
        refine Wk.bipush (pc' := 143) (6 : Int32) d12_141 (by decide) rfl ?_
        refine Wk.bipush (pc' := 145) (99 : Int32) d12_143 (by decide) rfl ?_
        refine Wk.castore (pc' := 146) (i := 0) (jn := 6) (H' := [arr .char [(.int (114 : Int32)), (.int (101 : Int32)), (.int (115 : Int32)), (.int (111 : Int32)), (.int (117 : Int32)), (.int (114 : Int32)), (.int (99 : Int32)), (.int (0 : Int32)), (.int (0 : Int32))]]) d12_145 rfl (by decide) (by decide) (Nat.le_of_ble_eq_true rfl) (by first | rfl | (rw [hch]; rfl) | (rw [hch2]; rfl)) rfl ?_
        refine Wk.dup (pc' := 147) d12_146 rfl rfl ?_
        refine Wk.bipush (pc' := 149) (7 : Int32) d12_147 (by decide) rfl ?_
        refine Wk.bipush (pc' := 151) (101 : Int32) d12_149 (by decide) rfl ?_
        refine Wk.castore (pc' := 152) (i := 0) (jn := 7) (H' := [arr .char [(.int (114 : Int32)), (.int (101 : Int32)), (.int (115 : Int32)), (.int (111 : Int32)), (.int (117 : Int32)), (.int (114 : Int32)), (.int (99 : Int32)), (.int (101 : Int32)), (.int (0 : Int32))]]) d12_151 rfl (by decide) (by decide) (Nat.le_of_ble_eq_true rfl) (by first | rfl | (rw [hch]; rfl) | (rw [hch2]; rfl)) rfl ?_
        refine Wk.dup (pc' := 153) d12_152 rfl rfl ?_
        refine Wk.bipush (pc' := 155) (8 : Int32) d12_153 (by decide) rfl ?_
        refine Wk.iloadN (pc' := 156) d12_155 rfl rfl ?_
        refine Wk.castore (pc' := 157) (i := 0) (jn := 8) (H' := [arr .char [(.int (114 : Int32)), (.int (101 : Int32)), (.int (115 : Int32)), (.int (111 : Int32)), (.int (117 : Int32)), (.int (114 : Int32)), (.int (99 : Int32)), (.int (101 : Int32)), (.int ch)]]) d12_156 rfl (by decide) (by decide) (Nat.le_of_ble_eq_true rfl) (by first | rfl | (rw [hch]; rfl) | (rw [hch2]; rfl)) rfl ?_
        refine Wk.astoreN (pc' := 158) (Ls' := #[.val (.int k), .val (.int ch), .val (rf hB 0)]) d12_157 rfl rfl rfl ?_
        refine Wk.goTo (pc' := 207) d12_158 (by decide) (by decide) ?_
        refine Wk.newObj (pc' := 210) (i := 1) (H' := [arr .char [(.int (114 : Int32)), (.int (101 : Int32)), (.int (115 : Int32)), (.int (111 : Int32)), (.int (117 : Int32)), (.int (114 : Int32)), (.int (99 : Int32)), (.int (101 : Int32)), (.int ch)], obj "java/lang/String" ksS [(.int (0 : Int32)), .null]]) d12_207 (wd6 hw) (wd7 hw) (wd8 hw) (ksS_laid hw) (ksS_dist hw) (Nat.le_of_ble_eq_true rfl) (Nat.le_of_ble_eq_true rfl) rfl rfl rfl ?_
        refine Wk.dup (pc' := 211) d12_210 rfl rfl ?_
        refine Wk.aloadN (pc' := 212) d12_211 rfl rfl rfl ?_
        refine Wk.callI (pc' := 215) (argsL := [(rf hB 0)]) (st := [(rf hB 1)]) d12_212 rfl (wd9 hw) (wd10 hw) (wd8 hw) (wd11 hw) (by decide) (lenOf pd_10 rfl) (m_si l Z a0 hw hB [arr .char [(.int (114 : Int32)), (.int (101 : Int32)), (.int (115 : Int32)), (.int (111 : Int32)), (.int (117 : Int32)), (.int (114 : Int32)), (.int (99 : Int32)), (.int (101 : Int32)), (.int ch)], obj "java/lang/String" ksS [(.int (0 : Int32)), .null]] ck sC hck 1 0 ([114, 101, 115, 111, 117, 114, 99, 101, ch] : List Int32) (by intro c hc; simp only [List.mem_cons, List.not_mem_nil, or_false] at hc; rcases hc with rfl | rfl | rfl | rfl | rfl | rfl | rfl | rfl | rfl <;> first | decide | assumption) (Nat.le_of_ble_eq_true rfl) (Nat.le_of_ble_eq_true rfl) rfl rfl) rfl (Nat.le_of_ble_eq_true rfl) (Nat.le_of_ble_eq_true rfl) (Nat.le_of_ble_eq_true rfl) (Nat.le_of_ble_eq_true rfl) rfl rfl ?_
        rintro _ _ ⟨rfl, hH⟩; obtain rfl := hH.symm
        show WP (l, consts_1) Z hB _ _ _ _ _ _ _ _ [arr .char [(.int (114 : Int32)), (.int (101 : Int32)), (.int (115 : Int32)), (.int (111 : Int32)), (.int (117 : Int32)), (.int (114 : Int32)), (.int (99 : Int32)), (.int (101 : Int32)), (.int ch)], obj "java/lang/String" ksS [(.int (0 : Int32)), (rf hB 2)], arr .byte (((([114, 101, 115, 111, 117, 114, 99, 101, ch] : List Int32).map fun c => c.toInt8.toInt32)).map Value.int)] _ _ [(rf hB 1)]
        exact Wk.aret (t := (.object "java/lang/String")) d12_215 rfl rfl rfl (Nat.le_of_ble_eq_true rfl) (Nat.le_of_ble_eq_true rfl) ⟨_, _, rfl, (Nat.le_of_ble_eq_true rfl), Wk.SL.made (i := 1) (j := 2) (jc := 0) (jv := 1) rfl rfl rfl rfl rfl rfl (by simp)⟩
      ·
        refine Wk.icY (pc' := 161) d12_103 (XT.ii_ne_t hc3) (by decide) (by decide) ?_
        refine Wk.bipush (pc' := 163) (8 : Int32) d12_161 (by decide) rfl ?_
        refine Wk.newArr (pc' := 165) (i := 0) (nn := 8) (H' := [arr .char [(.int (0 : Int32)), (.int (0 : Int32)), (.int (0 : Int32)), (.int (0 : Int32)), (.int (0 : Int32)), (.int (0 : Int32)), (.int (0 : Int32)), (.int (0 : Int32))]]) d12_163 (wd4 hw) (by decide) (by decide) (by omega) rfl ⟨(by intro C; simp [newarray.typeOf]), (by intro C; simp [newarray.typeOf])⟩ (Nat.le_of_ble_eq_true rfl) (Nat.le_of_ble_eq_true rfl) rfl rfl rfl ?_
        refine Wk.dup (pc' := 166) d12_165 rfl rfl ?_
        refine Wk.iconst (pc' := 167) (0 : Int32) d12_166 (by decide) rfl ?_
        refine Wk.bipush (pc' := 169) (99 : Int32) d12_167 (by decide) rfl ?_
        refine Wk.castore (pc' := 170) (i := 0) (jn := 0) (H' := [arr .char [(.int (99 : Int32)), (.int (0 : Int32)), (.int (0 : Int32)), (.int (0 : Int32)), (.int (0 : Int32)), (.int (0 : Int32)), (.int (0 : Int32)), (.int (0 : Int32))]]) d12_169 rfl (by decide) (by decide) (Nat.le_of_ble_eq_true rfl) (by first | rfl | (rw [hch]; rfl) | (rw [hch2]; rfl)) rfl ?_
        refine Wk.dup (pc' := 171) d12_170 rfl rfl ?_
        refine Wk.iconst (pc' := 172) (1 : Int32) d12_171 (by decide) rfl ?_
        refine Wk.bipush (pc' := 174) (111 : Int32) d12_172 (by decide) rfl ?_
        refine Wk.castore (pc' := 175) (i := 0) (jn := 1) (H' := [arr .char [(.int (99 : Int32)), (.int (111 : Int32)), (.int (0 : Int32)), (.int (0 : Int32)), (.int (0 : Int32)), (.int (0 : Int32)), (.int (0 : Int32)), (.int (0 : Int32))]]) d12_174 rfl (by decide) (by decide) (Nat.le_of_ble_eq_true rfl) (by first | rfl | (rw [hch]; rfl) | (rw [hch2]; rfl)) rfl ?_
        refine Wk.dup (pc' := 176) d12_175 rfl rfl ?_
        refine Wk.iconst (pc' := 177) (2 : Int32) d12_176 (by decide) rfl ?_
        refine Wk.bipush (pc' := 179) (110 : Int32) d12_177 (by decide) rfl ?_
        refine Wk.castore (pc' := 180) (i := 0) (jn := 2) (H' := [arr .char [(.int (99 : Int32)), (.int (111 : Int32)), (.int (110 : Int32)), (.int (0 : Int32)), (.int (0 : Int32)), (.int (0 : Int32)), (.int (0 : Int32)), (.int (0 : Int32))]]) d12_179 rfl (by decide) (by decide) (Nat.le_of_ble_eq_true rfl) (by first | rfl | (rw [hch]; rfl) | (rw [hch2]; rfl)) rfl ?_
        refine Wk.dup (pc' := 181) d12_180 rfl rfl ?_
        refine Wk.iconst (pc' := 182) (3 : Int32) d12_181 (by decide) rfl ?_
        refine Wk.bipush (pc' := 184) (116 : Int32) d12_182 (by decide) rfl ?_
        refine Wk.castore (pc' := 185) (i := 0) (jn := 3) (H' := [arr .char [(.int (99 : Int32)), (.int (111 : Int32)), (.int (110 : Int32)), (.int (116 : Int32)), (.int (0 : Int32)), (.int (0 : Int32)), (.int (0 : Int32)), (.int (0 : Int32))]]) d12_184 rfl (by decide) (by decide) (Nat.le_of_ble_eq_true rfl) (by first | rfl | (rw [hch]; rfl) | (rw [hch2]; rfl)) rfl ?_
        refine Wk.dup (pc' := 186) d12_185 rfl rfl ?_
        refine Wk.iconst (pc' := 187) (4 : Int32) d12_186 (by decide) rfl ?_
        refine Wk.bipush (pc' := 189) (101 : Int32) d12_187 (by decide) rfl ?_
        refine Wk.castore (pc' := 190) (i := 0) (jn := 4) (H' := [arr .char [(.int (99 : Int32)), (.int (111 : Int32)), (.int (110 : Int32)), (.int (116 : Int32)), (.int (101 : Int32)), (.int (0 : Int32)), (.int (0 : Int32)), (.int (0 : Int32))]]) d12_189 rfl (by decide) (by decide) (Nat.le_of_ble_eq_true rfl) (by first | rfl | (rw [hch]; rfl) | (rw [hch2]; rfl)) rfl ?_
        refine Wk.dup (pc' := 191) d12_190 rfl rfl ?_
        refine Wk.iconst (pc' := 192) (5 : Int32) d12_191 (by decide) rfl ?_
        refine Wk.bipush (pc' := 194) (120 : Int32) d12_192 (by decide) rfl ?_
        refine Wk.castore (pc' := 195) (i := 0) (jn := 5) (H' := [arr .char [(.int (99 : Int32)), (.int (111 : Int32)), (.int (110 : Int32)), (.int (116 : Int32)), (.int (101 : Int32)), (.int (120 : Int32)), (.int (0 : Int32)), (.int (0 : Int32))]]) d12_194 rfl (by decide) (by decide) (Nat.le_of_ble_eq_true rfl) (by first | rfl | (rw [hch]; rfl) | (rw [hch2]; rfl)) rfl ?_
        refine Wk.dup (pc' := 196) d12_195 rfl rfl ?_
        refine Wk.bipush (pc' := 198) (6 : Int32) d12_196 (by decide) rfl ?_
        refine Wk.bipush (pc' := 200) (116 : Int32) d12_198 (by decide) rfl ?_
        refine Wk.castore (pc' := 201) (i := 0) (jn := 6) (H' := [arr .char [(.int (99 : Int32)), (.int (111 : Int32)), (.int (110 : Int32)), (.int (116 : Int32)), (.int (101 : Int32)), (.int (120 : Int32)), (.int (116 : Int32)), (.int (0 : Int32))]]) d12_200 rfl (by decide) (by decide) (Nat.le_of_ble_eq_true rfl) (by first | rfl | (rw [hch]; rfl) | (rw [hch2]; rfl)) rfl ?_
        refine Wk.dup (pc' := 202) d12_201 rfl rfl ?_
        refine Wk.bipush (pc' := 204) (7 : Int32) d12_202 (by decide) rfl ?_
        refine Wk.iloadN (pc' := 205) d12_204 rfl rfl ?_
        refine Wk.castore (pc' := 206) (i := 0) (jn := 7) (H' := [arr .char [(.int (99 : Int32)), (.int (111 : Int32)), (.int (110 : Int32)), (.int (116 : Int32)), (.int (101 : Int32)), (.int (120 : Int32)), (.int (116 : Int32)), (.int ch)]]) d12_205 rfl (by decide) (by decide) (Nat.le_of_ble_eq_true rfl) (by first | rfl | (rw [hch]; rfl) | (rw [hch2]; rfl)) rfl ?_
        refine Wk.astoreN (pc' := 207) (Ls' := #[.val (.int k), .val (.int ch), .val (rf hB 0)]) d12_206 rfl rfl rfl ?_
        refine Wk.newObj (pc' := 210) (i := 1) (H' := [arr .char [(.int (99 : Int32)), (.int (111 : Int32)), (.int (110 : Int32)), (.int (116 : Int32)), (.int (101 : Int32)), (.int (120 : Int32)), (.int (116 : Int32)), (.int ch)], obj "java/lang/String" ksS [(.int (0 : Int32)), .null]]) d12_207 (wd6 hw) (wd7 hw) (wd8 hw) (ksS_laid hw) (ksS_dist hw) (Nat.le_of_ble_eq_true rfl) (Nat.le_of_ble_eq_true rfl) rfl rfl rfl ?_
        refine Wk.dup (pc' := 211) d12_210 rfl rfl ?_
        refine Wk.aloadN (pc' := 212) d12_211 rfl rfl rfl ?_
        refine Wk.callI (pc' := 215) (argsL := [(rf hB 0)]) (st := [(rf hB 1)]) d12_212 rfl (wd9 hw) (wd10 hw) (wd8 hw) (wd11 hw) (by decide) (lenOf pd_10 rfl) (m_si l Z a0 hw hB [arr .char [(.int (99 : Int32)), (.int (111 : Int32)), (.int (110 : Int32)), (.int (116 : Int32)), (.int (101 : Int32)), (.int (120 : Int32)), (.int (116 : Int32)), (.int ch)], obj "java/lang/String" ksS [(.int (0 : Int32)), .null]] ck sC hck 1 0 ([99, 111, 110, 116, 101, 120, 116, ch] : List Int32) (by intro c hc; simp only [List.mem_cons, List.not_mem_nil, or_false] at hc; rcases hc with rfl | rfl | rfl | rfl | rfl | rfl | rfl | rfl <;> first | decide | assumption) (Nat.le_of_ble_eq_true rfl) (Nat.le_of_ble_eq_true rfl) rfl rfl) rfl (Nat.le_of_ble_eq_true rfl) (Nat.le_of_ble_eq_true rfl) (Nat.le_of_ble_eq_true rfl) (Nat.le_of_ble_eq_true rfl) rfl rfl ?_
        rintro _ _ ⟨rfl, hH⟩; obtain rfl := hH.symm
        show WP (l, consts_1) Z hB _ _ _ _ _ _ _ _ [arr .char [(.int (99 : Int32)), (.int (111 : Int32)), (.int (110 : Int32)), (.int (116 : Int32)), (.int (101 : Int32)), (.int (120 : Int32)), (.int (116 : Int32)), (.int ch)], obj "java/lang/String" ksS [(.int (0 : Int32)), (rf hB 2)], arr .byte (((([99, 111, 110, 116, 101, 120, 116, ch] : List Int32).map fun c => c.toInt8.toInt32)).map Value.int)] _ _ [(rf hB 1)]
        exact Wk.aret (t := (.object "java/lang/String")) d12_215 rfl rfl rfl (Nat.le_of_ble_eq_true rfl) (Nat.le_of_ble_eq_true rfl) ⟨_, _, rfl, (Nat.le_of_ble_eq_true rfl), Wk.SL.made (i := 1) (j := 2) (jc := 0) (jv := 1) rfl rfl rfl rfl rfl rfl (by simp)⟩
set_option maxRecDepth 65536 in
set_option maxHeartbeats 40000000 in
theorem m_151 (l : Launch) (Z : State) (a0 : Array Value) (hw : ∀ d ∈ tables_1, d.before a0 Z = true) (hB : Heap) (ck : Int32) (sC : Sta Z hB "java/lang/String" "COMPACT_STRINGS" "Z" (.int ck)) (hck : ¬ ck = 0) (va : Addr) (cl : Cell) (sV : Sta Z hB "com/example/reckon/reckon/core/RequestData$Root" "$VALUES" "[Lcom/example/reckon/reckon/core/RequestData$Root;" (.ref va)) (AV : Arr Z hB va cl (.object "com/example/reckon/reckon/core/RequestData$Root")) (EV : Exa Z hB va "[Lcom/example/reckon/reckon/core/RequestData$Root;") (FV : FitC Z cl) (hz : cl.slots.size = 4) (r0 r1 r2 r3 n0 n1 n2 n3 : Addr) (e0 : cl.slots[0]? = some (.ref r0)) (f0 : Fld Z hB r0 "com/example/reckon/reckon/core/RequestData$Root" "name" "Ljava/lang/String;" (.ref n0)) (x0 : Exa Z hB n0 "java/lang/String") (s0 : ∀ H, Wk.SL Z hB H n0 ([115, 117, 98, 106, 101, 99, 116] : List Int32)) (t0 : Sta Z hB "com/example/reckon/reckon/core/RequestData$Root" "SUBJECT" "Lcom/example/reckon/reckon/core/RequestData$Root;" (.ref r0)) (e1 : cl.slots[1]? = some (.ref r1)) (f1 : Fld Z hB r1 "com/example/reckon/reckon/core/RequestData$Root" "name" "Ljava/lang/String;" (.ref n1)) (x1 : Exa Z hB n1 "java/lang/String") (s1 : ∀ H, Wk.SL Z hB H n1 ([97, 99, 116, 105, 111, 110] : List Int32)) (t1 : Sta Z hB "com/example/reckon/reckon/core/RequestData$Root" "ACTION" "Lcom/example/reckon/reckon/core/RequestData$Root;" (.ref r1)) (e2 : cl.slots[2]? = some (.ref r2)) (f2 : Fld Z hB r2 "com/example/reckon/reckon/core/RequestData$Root" "name" "Ljava/lang/String;" (.ref n2)) (x2 : Exa Z hB n2 "java/lang/String") (s2 : ∀ H, Wk.SL Z hB H n2 ([114, 101, 115, 111, 117, 114, 99, 101] : List Int32)) (t2 : Sta Z hB "com/example/reckon/reckon/core/RequestData$Root" "RESOURCE" "Lcom/example/reckon/reckon/core/RequestData$Root;" (.ref r2)) (e3 : cl.slots[3]? = some (.ref r3)) (f3 : Fld Z hB r3 "com/example/reckon/reckon/core/RequestData$Root" "name" "Ljava/lang/String;" (.ref n3)) (x3 : Exa Z hB n3 "java/lang/String") (s3 : ∀ H, Wk.SL Z hB H n3 ([99, 111, 110, 116, 101, 120, 116] : List Int32)) (t3 : Sta Z hB "com/example/reckon/reckon/core/RequestData$Root" "CONTEXT" "Lcom/example/reckon/reckon/core/RequestData$Root;" (.ref r3)) (sel pos c0 mode w4 k5 ch ch2 : Int32) (H : List Rec) (a : Addr) (xs : List Int32) (hl : H.length ≤ 4) (A : Wk.SL Z hB H a xs) : WP (l, consts_1) Z hB x code maxLocals ret room_1 0 (fun v _ => v = some (.int 1)) 400 H 151 #[.val (.int sel), .val (.int pos), .val (.int c0), .val (.int mode), .val (.int w4), .val (.int k5), .val (.int ch), .val (.int ch2), .val (.ref a), .unset] [] := by
  refine Wk.aload (pc' := 153) at_151 rfl rfl rfl ?_
  refine Wk.callS (pc' := 156) (argsL := [(.ref a)]) (st := []) at_153 (wd35 hw) (wd36 hw) (wd37 hw) (wd38 hw) (by decide) (lenOf pd_11 rfl) (m_named l Z a0 hw hB H ck sC hck va cl sV AV EV FV hz r0 r1 r2 r3 n0 n1 n2 n3 e0 f0 x0 s0 t0 e1 f1 x1 s1 t1 e2 f2 x2 s2 t2 e3 f3 x3 s3 t3 a xs A) rfl (Nat.le_of_ble_eq_true rfl) (Nat.le_of_ble_eq_true rfl) (by simp only [List.length_append, List.length_cons, List.length_nil]; have h40 : room_1.cells = 40 := rfl; omega) (Nat.le_of_ble_eq_true rfl) rfl rfl ?_
  rintro _ _ ⟨rfl, hH⟩; obtain rfl := hH.symm
  show WP (l, consts_1) Z hB _ _ _ _ _ _ _ _ (H ++ [Sum.inr (cloneOf cl)]) _ _ [(nmV xs r0 r1 r2 r3)]
  by_cases hz9 : nmV xs r0 r1 r2 r3 = .null
  ·
    rw [hz9]
    refine Wk.astore (pc' := 158) (Ls' := #[.val (.int sel), .val (.int pos), .val (.int c0), .val (.int mode), .val (.int w4), .val (.int k5), .val (.int ch), .val (.int ch2), .val (.ref a), .val .null]) at_156 rfl rfl rfl ?_
    refine Wk.aload (pc' := 160) at_158 rfl rfl rfl ?_
    refine Wk.aload (pc' := 162) at_160 rfl rfl rfl ?_
    refine Wk.callS (pc' := 165) (argsL := [(.ref a)]) (st := [.null]) at_162 (wd70 hw) (wd71 hw) (wd2 hw) (wd72 hw) (by decide) (lenOf pd_11 rfl) (m_ref l Z a0 hw hB (H ++ [Sum.inr (cloneOf cl)]) ck sC hck va cl sV AV EV FV hz r0 r1 r2 r3 n0 n1 n2 n3 e0 f0 x0 s0 t0 e1 f1 x1 s1 t1 e2 f2 x2 s2 t2 e3 f3 x3 s3 t3 a xs A.app) rfl (Nat.le_of_ble_eq_true rfl) (Nat.le_of_ble_eq_true rfl) (by simp only [List.length_append, List.length_cons, List.length_nil]; have h40 : room_1.cells = 40 := rfl; omega) (Nat.le_of_ble_eq_true rfl) rfl rfl ?_
    rintro _ H9 ⟨rfl, hl9⟩; rw [← nm_rf, hz9]
    show WP (l, consts_1) Z hB _ _ _ _ _ _ _ _ H9 _ _ [.null, .null]
    refine Wk.acN (pc' := 168) at_165 rfl rfl (XT.aa_ne_f rfl) rfl ?_
    refine Wk.iconst (pc' := 169) (1 : Int32) at_168 (by decide) rfl ?_
    refine Wk.goTo (pc' := 173) at_169 (by decide) (by decide) ?_
    exact Wk.iret (t := .boolean) at_173 rfl (by simp) rfl (by have h40 : room_1.cells = 40 := rfl; simp only [List.length_append, List.length_cons, List.length_nil] at hl9; omega) (Nat.le_of_ble_eq_true rfl) rfl
  ·
    obtain ⟨zz, hz9⟩ := nm_some hz9
    rw [hz9]
    refine Wk.astore (pc' := 158) (Ls' := #[.val (.int sel), .val (.int pos), .val (.int c0), .val (.int mode), .val (.int w4), .val (.int k5), .val (.int ch), .val (.int ch2), .val (.ref a), .val (.ref zz)]) at_156 rfl rfl rfl ?_
    refine Wk.aload (pc' := 160) at_158 rfl rfl rfl ?_
    refine Wk.aload (pc' := 162) at_160 rfl rfl rfl ?_
    refine Wk.callS (pc' := 165) (argsL := [(.ref a)]) (st := [(.ref zz)]) at_162 (wd70 hw) (wd71 hw) (wd2 hw) (wd72 hw) (by decide) (lenOf pd_11 rfl) (m_ref l Z a0 hw hB (H ++ [Sum.inr (cloneOf cl)]) ck sC hck va cl sV AV EV FV hz r0 r1 r2 r3 n0 n1 n2 n3 e0 f0 x0 s0 t0 e1 f1 x1 s1 t1 e2 f2 x2 s2 t2 e3 f3 x3 s3 t3 a xs A.app) rfl (Nat.le_of_ble_eq_true rfl) (Nat.le_of_ble_eq_true rfl) (by simp only [List.length_append, List.length_cons, List.length_nil]; have h40 : room_1.cells = 40 := rfl; omega) (Nat.le_of_ble_eq_true rfl) rfl rfl ?_
    rintro _ H9 ⟨rfl, hl9⟩; rw [← nm_rf, hz9]
    show WP (l, consts_1) Z hB _ _ _ _ _ _ _ _ H9 _ _ [(.ref zz), (.ref zz)]
    refine Wk.acN (pc' := 168) at_165 rfl rfl (XT.aa_ne_f rfl) rfl ?_
    refine Wk.iconst (pc' := 169) (1 : Int32) at_168 (by decide) rfl ?_
    refine Wk.goTo (pc' := 173) at_169 (by decide) (by decide) ?_
    exact Wk.iret (t := .boolean) at_173 rfl (by simp) rfl (by have h40 : room_1.cells = 40 := rfl; simp only [List.length_append, List.length_cons, List.length_nil] at hl9; omega) (Nat.le_of_ble_eq_true rfl) rfl
set_option maxRecDepth 65536 in
set_option maxHeartbeats 40000000 in
theorem m_law (l : Launch) (Z : State) (a0 : Array Value) (hw : ∀ d ∈ tables_1, d.before a0 Z = true) (hB : Heap) (sel pos c0 mode : Int32) (ck : Int32) (sC : Sta Z hB "java/lang/String" "COMPACT_STRINGS" "Z" (.int ck)) (hck : ¬ ck = 0) (va : Addr) (cl : Cell) (sV : Sta Z hB "com/example/reckon/reckon/core/RequestData$Root" "$VALUES" "[Lcom/example/reckon/reckon/core/RequestData$Root;" (.ref va)) (AV : Arr Z hB va cl (.object "com/example/reckon/reckon/core/RequestData$Root")) (EV : Exa Z hB va "[Lcom/example/reckon/reckon/core/RequestData$Root;") (FV : FitC Z cl) (hz : cl.slots.size = 4) (r0 r1 r2 r3 n0 n1 n2 n3 : Addr) (e0 : cl.slots[0]? = some (.ref r0)) (f0 : Fld Z hB r0 "com/example/reckon/reckon/core/RequestData$Root" "name" "Ljava/lang/String;" (.ref n0)) (x0 : Exa Z hB n0 "java/lang/String") (s0 : ∀ H, Wk.SL Z hB H n0 ([115, 117, 98, 106, 101, 99, 116] : List Int32)) (t0 : Sta Z hB "com/example/reckon/reckon/core/RequestData$Root" "SUBJECT" "Lcom/example/reckon/reckon/core/RequestData$Root;" (.ref r0)) (e1 : cl.slots[1]? = some (.ref r1)) (f1 : Fld Z hB r1 "com/example/reckon/reckon/core/RequestData$Root" "name" "Ljava/lang/String;" (.ref n1)) (x1 : Exa Z hB n1 "java/lang/String") (s1 : ∀ H, Wk.SL Z hB H n1 ([97, 99, 116, 105, 111, 110] : List Int32)) (t1 : Sta Z hB "com/example/reckon/reckon/core/RequestData$Root" "ACTION" "Lcom/example/reckon/reckon/core/RequestData$Root;" (.ref r1)) (e2 : cl.slots[2]? = some (.ref r2)) (f2 : Fld Z hB r2 "com/example/reckon/reckon/core/RequestData$Root" "name" "Ljava/lang/String;" (.ref n2)) (x2 : Exa Z hB n2 "java/lang/String") (s2 : ∀ H, Wk.SL Z hB H n2 ([114, 101, 115, 111, 117, 114, 99, 101] : List Int32)) (t2 : Sta Z hB "com/example/reckon/reckon/core/RequestData$Root" "RESOURCE" "Lcom/example/reckon/reckon/core/RequestData$Root;" (.ref r2)) (e3 : cl.slots[3]? = some (.ref r3)) (f3 : Fld Z hB r3 "com/example/reckon/reckon/core/RequestData$Root" "name" "Ljava/lang/String;" (.ref n3)) (x3 : Exa Z hB n3 "java/lang/String") (s3 : ∀ H, Wk.SL Z hB H n3 ([99, 111, 110, 116, 101, 120, 116] : List Int32)) (t3 : Sta Z hB "com/example/reckon/reckon/core/RequestData$Root" "CONTEXT" "Lcom/example/reckon/reckon/core/RequestData$Root;" (.ref r3)) : Ctr (l, consts_1) Z hB x code maxLocals ret tables_1 room_1 #[(.int sel), (.int pos), (.int c0), (.int mode)] [] (fun v _ => v = some (.int 1)) := by
  refine Wk.ctr pn_18 (Ls := #[.val (.int sel), .val (.int pos), .val (.int c0), .val (.int mode), .unset, .unset, .unset, .unset, .unset, .unset]) (fun m => by first | rfl | (simp [entryFrame, mkF, argsToLocals, Value.category]; done)) ?_
  have q1 := chB c0
  have q2 := chB (Jvm.Free.XT.ushr c0 8)
  generalize hg1 : (c0 &&& 255).toUInt32.toUInt16.toUInt32.toInt32 = ch at q1
  generalize hg2 : (Jvm.Free.XT.ushr c0 8 &&& 255).toUInt32.toUInt16.toUInt32.toInt32 = ch2 at q2
  obtain ⟨hch, h255⟩ := q1
  obtain ⟨hch2, h255'⟩ := q2
  refine Wk.iloadN (pc' := 1) at_0 rfl rfl ?_
  refine Wk.iconst (pc' := 2) (3 : Int32) at_1 (by decide) rfl ?_
  refine Wk.iand (pc' := 3) at_2 rfl ?_
  refine Wk.istore (pc' := 5) (Ls' := #[.val (.int sel), .val (.int pos), .val (.int c0), .val (.int mode), .val (.int (sel &&& (3 : Int32))), .unset, .unset, .unset, .unset, .unset]) at_3 rfl rfl ?_
  refine Wk.iloadN (pc' := 6) at_5 rfl rfl ?_
  refine Wk.bipush (pc' := 8) (7 : Int32) at_6 (by decide) rfl ?_
  refine Wk.iand (pc' := 9) at_8 rfl ?_
  refine Wk.istore (pc' := 11) (Ls' := #[.val (.int sel), .val (.int pos), .val (.int c0), .val (.int mode), .val (.int (sel &&& (3 : Int32))), .val (.int (mode &&& (7 : Int32))), .unset, .unset, .unset, .unset]) at_9 rfl rfl ?_
  refine Wk.iloadN (pc' := 12) at_11 rfl rfl ?_
  refine Wk.sipush (pc' := 15) (255 : Int32) at_12 (by decide) rfl ?_
  refine Wk.iand (pc' := 16) at_15 rfl ?_
  refine Wk.i2c (pc' := 17) at_16 rfl ?_
  rw [hg1]
  refine Wk.istore (pc' := 19) (Ls' := #[.val (.int sel), .val (.int pos), .val (.int c0), .val (.int mode), .val (.int (sel &&& (3 : Int32))), .val (.int (mode &&& (7 : Int32))), .val (.int ch), .unset, .unset, .unset]) at_17 rfl rfl ?_
  refine Wk.iloadN (pc' := 20) at_19 rfl rfl ?_
  refine Wk.bipush (pc' := 22) (8 : Int32) at_20 (by decide) rfl ?_
  refine Wk.iushr (pc' := 23) at_22 rfl ?_
  refine Wk.sipush (pc' := 26) (255 : Int32) at_23 (by decide) rfl ?_
  refine Wk.iand (pc' := 27) at_26 rfl ?_
  refine Wk.i2c (pc' := 28) at_27 rfl ?_
  rw [hg2]
  refine Wk.istore (pc' := 30) (Ls' := #[.val (.int sel), .val (.int pos), .val (.int c0), .val (.int mode), .val (.int (sel &&& (3 : Int32))), .val (.int (mode &&& (7 : Int32))), .val (.int ch), .val (.int ch2), .unset, .unset]) at_28 rfl rfl ?_
  refine Wk.iload (pc' := 32) at_30 rfl rfl ?_
  refine Wk.iconst (pc' := 33) (1 : Int32) at_32 (by decide) rfl ?_
  by_cases hc1 : (mode &&& (7 : Int32)) = (1 : Int32)
  ·
    refine Wk.icN (pc' := 36) at_33 (XT.ii_ne_f hc1) rfl ?_
    refine Wk.iload (pc' := 38) at_36 rfl rfl ?_
    refine Wk.iloadN (pc' := 39) at_38 rfl rfl ?_
    refine Wk.iload (pc' := 41) at_39 rfl rfl ?_
    refine Wk.callS (pc' := 44) (argsL := [(.int (sel &&& (3 : Int32))), (.int pos), (.int ch)]) (st := []) at_41 (wd0 hw) (wd1 hw) (wd2 hw) (wd3 hw) (by decide) (lenOf pd_12 rfl) (m_mut l Z a0 hw hB ck sC hck (sel &&& (3 : Int32)) pos ch hch h255) rfl (Nat.le_of_ble_eq_true rfl) (Nat.le_of_ble_eq_true rfl) (Nat.le_of_ble_eq_true rfl) (Nat.le_of_ble_eq_true rfl) rfl rfl ?_
    rintro _ H1 ⟨a, xs, rfl, hl, A⟩
    show WP (l, consts_1) Z hB _ _ _ _ _ _ _ _ H1 _ _ [(.ref a)]
    refine Wk.astore (pc' := 46) (Ls' := #[.val (.int sel), .val (.int pos), .val (.int c0), .val (.int mode), .val (.int (sel &&& (3 : Int32))), .val (.int (mode &&& (7 : Int32))), .val (.int ch), .val (.int ch2), .val (.ref a), .unset]) at_44 rfl rfl rfl ?_
    refine Wk.goTo (pc' := 151) at_46 (by decide) (by decide) ?_
    exact Wk.WP.mono (sl' := 400) (by decide) (m_151 l Z a0 hw hB ck sC hck va cl sV AV EV FV hz r0 r1 r2 r3 n0 n1 n2 n3 e0 f0 x0 s0 t0 e1 f1 x1 s1 t1 e2 f2 x2 s2 t2 e3 f3 x3 s3 t3 sel pos c0 mode (sel &&& (3 : Int32)) (mode &&& (7 : Int32)) ch ch2 H1 a xs hl A)
  ·
    refine Wk.icY (pc' := 49) at_33 (XT.ii_ne_t hc1) (by decide) (by decide) ?_
    refine Wk.iload (pc' := 51) at_49 rfl rfl ?_
    refine Wk.iconst (pc' := 52) (2 : Int32) at_51 (by decide) rfl ?_
    by_cases hc2 : (mode &&& (7 : Int32)) = (2 : Int32)
    ·
      refine Wk.icN (pc' := 55) at_52 (XT.ii_ne_f hc2) rfl ?_
      refine Wk.iload (pc' := 57) at_55 rfl rfl ?_
      refine Wk.iload (pc' := 59) at_57 rfl rfl ?_
      refine Wk.callS (pc' := 62) (argsL := [(.int (sel &&& (3 : Int32))), (.int ch)]) (st := []) at_59 (wd80 hw) (wd81 hw) (wd2 hw) (wd82 hw) (by decide) (lenOf pd_13 rfl) (m_ext l Z a0 hw hB ck sC hck (sel &&& (3 : Int32)) ch hch h255) rfl (Nat.le_of_ble_eq_true rfl) (Nat.le_of_ble_eq_true rfl) (Nat.le_of_ble_eq_true rfl) (Nat.le_of_ble_eq_true rfl) rfl rfl ?_
      rintro _ H1 ⟨a, xs, rfl, hl, A⟩
      show WP (l, consts_1) Z hB _ _ _ _ _ _ _ _ H1 _ _ [(.ref a)]
      refine Wk.astore (pc' := 64) (Ls' := #[.val (.int sel), .val (.int pos), .val (.int c0), .val (.int mode), .val (.int (sel &&& (3 : Int32))), .val (.int (mode &&& (7 : Int32))), .val (.int ch), .val (.int ch2), .val (.ref a), .unset]) at_62 rfl rfl rfl ?_
      refine Wk.goTo (pc' := 151) at_64 (by decide) (by decide) ?_
      exact Wk.WP.mono (sl' := 400) (by decide) (m_151 l Z a0 hw hB ck sC hck va cl sV AV EV FV hz r0 r1 r2 r3 n0 n1 n2 n3 e0 f0 x0 s0 t0 e1 f1 x1 s1 t1 e2 f2 x2 s2 t2 e3 f3 x3 s3 t3 sel pos c0 mode (sel &&& (3 : Int32)) (mode &&& (7 : Int32)) ch ch2 H1 a xs hl A)
    ·
      refine Wk.icY (pc' := 67) at_52 (XT.ii_ne_t hc2) (by decide) (by decide) ?_
      refine Wk.iload (pc' := 69) at_67 rfl rfl ?_
      refine Wk.iconst (pc' := 70) (3 : Int32) at_69 (by decide) rfl ?_
      by_cases hc3 : (mode &&& (7 : Int32)) = (3 : Int32)
      ·
        refine Wk.icN (pc' := 73) at_70 (XT.ii_ne_f hc3) rfl ?_
        refine Wk.iload (pc' := 75) at_73 rfl rfl ?_
        refine Wk.callS (pc' := 78) (argsL := [(.int (sel &&& (3 : Int32)))]) (st := []) at_75 (wd102 hw) (wd103 hw) (wd2 hw) (wd104 hw) (by decide) (lenOf pd_14 rfl) (m_trunc l Z a0 hw hB (sel &&& (3 : Int32))) rfl (Nat.le_of_ble_eq_true rfl) (Nat.le_of_ble_eq_true rfl) (Nat.le_of_ble_eq_true rfl) (Nat.le_of_ble_eq_true rfl) rfl rfl ?_
        rintro _ H1 ⟨a, xs, rfl, hl, A⟩
        show WP (l, consts_1) Z hB _ _ _ _ _ _ _ _ H1 _ _ [(.ref a)]
        refine Wk.astore (pc' := 80) (Ls' := #[.val (.int sel), .val (.int pos), .val (.int c0), .val (.int mode), .val (.int (sel &&& (3 : Int32))), .val (.int (mode &&& (7 : Int32))), .val (.int ch), .val (.int ch2), .val (.ref a), .unset]) at_78 rfl rfl rfl ?_
        refine Wk.goTo (pc' := 151) at_80 (by decide) (by decide) ?_
        exact Wk.WP.mono (sl' := 400) (by decide) (m_151 l Z a0 hw hB ck sC hck va cl sV AV EV FV hz r0 r1 r2 r3 n0 n1 n2 n3 e0 f0 x0 s0 t0 e1 f1 x1 s1 t1 e2 f2 x2 s2 t2 e3 f3 x3 s3 t3 sel pos c0 mode (sel &&& (3 : Int32)) (mode &&& (7 : Int32)) ch ch2 H1 a xs hl A)
      ·
        refine Wk.icY (pc' := 83) at_70 (XT.ii_ne_t hc3) (by decide) (by decide) ?_
        refine Wk.iload (pc' := 85) at_83 rfl rfl ?_
        refine Wk.iconst (pc' := 86) (4 : Int32) at_85 (by decide) rfl ?_
        by_cases hc4 : (mode &&& (7 : Int32)) = (4 : Int32)
        ·
          refine Wk.icN (pc' := 89) at_86 (XT.ii_ne_f hc4) rfl ?_
          refine Wk.iload (pc' := 91) at_89 rfl rfl ?_
          refine Wk.callS (pc' := 94) (argsL := [(.int ch)]) (st := []) at_91 (wd88 hw) (wd89 hw) (wd8 hw) (wd90 hw) (by decide) (lenOf pd_15 rfl) (m_voc l Z a0 hw hB [] ck sC hck ch h255) rfl (Nat.le_of_ble_eq_true rfl) (Nat.le_of_ble_eq_true rfl) (Nat.le_of_ble_eq_true rfl) (Nat.le_of_ble_eq_true rfl) rfl rfl ?_
          rintro _ _ ⟨rfl, hH⟩; obtain rfl := hH.symm
          show WP (l, consts_1) Z hB _ _ _ _ _ _ _ _ [obj "java/lang/String" ksS [(.int (0 : Int32)), (rf hB 1)], arr .byte [.int (nar .byte ch.toInt8.toInt32)]] _ _ [(rf hB 0)]
          refine Wk.astore (pc' := 96) (Ls' := #[.val (.int sel), .val (.int pos), .val (.int c0), .val (.int mode), .val (.int (sel &&& (3 : Int32))), .val (.int (mode &&& (7 : Int32))), .val (.int ch), .val (.int ch2), .val (rf hB 0), .unset]) at_94 rfl rfl rfl ?_
          refine Wk.goTo (pc' := 151) at_96 (by decide) (by decide) ?_
          exact Wk.WP.mono (sl' := 400) (by decide) (m_151 l Z a0 hw hB ck sC hck va cl sV AV EV FV hz r0 r1 r2 r3 n0 n1 n2 n3 e0 f0 x0 s0 t0 e1 f1 x1 s1 t1 e2 f2 x2 s2 t2 e3 f3 x3 s3 t3 sel pos c0 mode (sel &&& (3 : Int32)) (mode &&& (7 : Int32)) ch ch2 [obj "java/lang/String" ksS [(.int (0 : Int32)), (rf hB 1)], arr .byte [.int (nar .byte ch.toInt8.toInt32)]] (hB.size + 0) ([nar .byte ch.toInt8.toInt32] : List Int32) (Nat.le_of_ble_eq_true rfl) (Wk.SL.made (i := 0) (j := 1) (jc := 0) (jv := 1) rfl rfl rfl rfl rfl rfl (by simp)))
        ·
          refine Wk.icY (pc' := 99) at_86 (XT.ii_ne_t hc4) (by decide) (by decide) ?_
          refine Wk.iload (pc' := 101) at_99 rfl rfl ?_
          refine Wk.iconst (pc' := 102) (5 : Int32) at_101 (by decide) rfl ?_
          by_cases hc5 : (mode &&& (7 : Int32)) = (5 : Int32)
          ·
            refine Wk.icN (pc' := 105) at_102 (XT.ii_ne_f hc5) rfl ?_
            refine Wk.ldcStr (pc' := 107) (n := 0) (xs := ([] : List Int32)) at_105 (wd108 hw) (strW hw) (show _ ∈ consts_1 from by decide) ⟨by decide, by first | rfl | decide +kernel⟩ (by decide) (by decide) (by decide) (Nat.le_of_ble_eq_true rfl) (Nat.le_of_ble_eq_true rfl) rfl (fun b1 M1 hM1 S1 => ?_)
            refine Wk.astore (pc' := 109) (Ls' := #[.val (.int sel), .val (.int pos), .val (.int c0), .val (.int mode), .val (.int (sel &&& (3 : Int32))), .val (.int (mode &&& (7 : Int32))), .val (.int ch), .val (.int ch2), .val (.ref b1), .unset]) at_107 rfl rfl rfl ?_
            refine Wk.goTo (pc' := 151) at_109 (by decide) (by decide) ?_
            exact Wk.WP.mono (sl' := 400) (by decide) (m_151 l Z a0 hw hB ck sC hck va cl sV AV EV FV hz r0 r1 r2 r3 n0 n1 n2 n3 e0 f0 x0 s0 t0 e1 f1 x1 s1 t1 e2 f2 x2 s2 t2 e3 f3 x3 s3 t3 sel pos c0 mode (sel &&& (3 : Int32)) (mode &&& (7 : Int32)) ch ch2 ([] ++ M1) b1 _ (by simp; omega) S1)
          ·
            refine Wk.icY (pc' := 112) at_102 (XT.ii_ne_t hc5) (by decide) (by decide) ?_
            refine Wk.iload (pc' := 114) at_112 rfl rfl ?_
            refine Wk.bipush (pc' := 116) (6 : Int32) at_114 (by decide) rfl ?_
            by_cases hc6 : (mode &&& (7 : Int32)) = (6 : Int32)
            ·
              refine Wk.icN (pc' := 119) at_116 (XT.ii_ne_f hc6) rfl ?_
              refine Wk.newObj (pc' := 122) (i := 0) (H' := [obj "java/lang/String" ksS [(.int (0 : Int32)), .null]]) at_119 (wd6 hw) (wd7 hw) (wd8 hw) (ksS_laid hw) (ksS_dist hw) (Nat.le_of_ble_eq_true rfl) (Nat.le_of_ble_eq_true rfl) rfl rfl rfl ?_
              refine Wk.dup (pc' := 123) at_122 rfl rfl ?_
              refine Wk.iconst (pc' := 124) (2 : Int32) at_123 (by decide) rfl ?_
              refine Wk.newArr (pc' := 126) (i := 1) (nn := 2) (H' := [obj "java/lang/String" ksS [(.int (0 : Int32)), .null], arr .char [(.int (0 : Int32)), (.int (0 : Int32))]]) at_124 (wd4 hw) (by decide) (by decide) (by omega) rfl ⟨(by intro C; simp [newarray.typeOf]), (by intro C; simp [newarray.typeOf])⟩ (Nat.le_of_ble_eq_true rfl) (Nat.le_of_ble_eq_true rfl) rfl rfl rfl ?_
              refine Wk.dup (pc' := 127) at_126 rfl rfl ?_
              refine Wk.iconst (pc' := 128) (0 : Int32) at_127 (by decide) rfl ?_
              refine Wk.iload (pc' := 130) at_128 rfl rfl ?_
              refine Wk.castore (pc' := 131) (i := 1) (jn := 0) (H' := [obj "java/lang/String" ksS [(.int (0 : Int32)), .null], arr .char [(.int ch), (.int (0 : Int32))]]) at_130 rfl (by decide) (by decide) (Nat.le_of_ble_eq_true rfl) (by first | rfl | (rw [hch]; rfl) | (rw [hch2]; rfl)) rfl ?_
              refine Wk.dup (pc' := 132) at_131 rfl rfl ?_
              refine Wk.iconst (pc' := 133) (1 : Int32) at_132 (by decide) rfl ?_
              refine Wk.iload (pc' := 135) at_133 rfl rfl ?_
              refine Wk.castore (pc' := 136) (i := 1) (jn := 1) (H' := [obj "java/lang/String" ksS [(.int (0 : Int32)), .null], arr .char [(.int ch), (.int ch2)]]) at_135 rfl (by decide) (by decide) (Nat.le_of_ble_eq_true rfl) (by first | rfl | (rw [hch]; rfl) | (rw [hch2]; rfl)) rfl ?_
              refine Wk.callI (pc' := 139) (argsL := [(rf hB 1)]) (st := [(rf hB 0)]) at_136 rfl (wd9 hw) (wd10 hw) (wd8 hw) (wd11 hw) (by decide) (lenOf pd_10 rfl) (m_si l Z a0 hw hB [obj "java/lang/String" ksS [(.int (0 : Int32)), .null], arr .char [(.int ch), (.int ch2)]] ck sC hck 0 1 ([ch, ch2] : List Int32) (by intro c hc; simp only [List.mem_cons, List.not_mem_nil, or_false] at hc; rcases hc with rfl | rfl <;> first | decide | assumption) (Nat.le_of_ble_eq_true rfl) (Nat.le_of_ble_eq_true rfl) rfl rfl) rfl (Nat.le_of_ble_eq_true rfl) (Nat.le_of_ble_eq_true rfl) (Nat.le_of_ble_eq_true rfl) (Nat.le_of_ble_eq_true rfl) rfl rfl ?_
              rintro _ _ ⟨rfl, hH⟩; obtain rfl := hH.symm
              show WP (l, consts_1) Z hB _ _ _ _ _ _ _ _ [obj "java/lang/String" ksS [(.int (0 : Int32)), (rf hB 2)], arr .char [(.int ch), (.int ch2)], arr .byte (((([ch, ch2] : List Int32).map fun c => c.toInt8.toInt32)).map Value.int)] _ _ [(rf hB 0)]
              refine Wk.astore (pc' := 141) (Ls' := #[.val (.int sel), .val (.int pos), .val (.int c0), .val (.int mode), .val (.int (sel &&& (3 : Int32))), .val (.int (mode &&& (7 : Int32))), .val (.int ch), .val (.int ch2), .val (rf hB 0), .unset]) at_139 rfl rfl rfl ?_
              refine Wk.goTo (pc' := 151) at_141 (by decide) (by decide) ?_
              exact Wk.WP.mono (sl' := 400) (by decide) (m_151 l Z a0 hw hB ck sC hck va cl sV AV EV FV hz r0 r1 r2 r3 n0 n1 n2 n3 e0 f0 x0 s0 t0 e1 f1 x1 s1 t1 e2 f2 x2 s2 t2 e3 f3 x3 s3 t3 sel pos c0 mode (sel &&& (3 : Int32)) (mode &&& (7 : Int32)) ch ch2 [obj "java/lang/String" ksS [(.int (0 : Int32)), (rf hB 2)], arr .char [(.int ch), (.int ch2)], arr .byte (((([ch, ch2] : List Int32).map fun c => c.toInt8.toInt32)).map Value.int)] (hB.size + 0) _ (Nat.le_of_ble_eq_true rfl) (Wk.SL.made (i := 0) (j := 2) (jc := 0) (jv := 1) rfl rfl rfl rfl rfl rfl (by simp)))
            ·
              refine Wk.icY (pc' := 144) at_116 (XT.ii_ne_t hc6) (by decide) (by decide) ?_
              refine Wk.iload (pc' := 146) at_144 rfl rfl ?_
              refine Wk.callS (pc' := 149) (argsL := [(.int (sel &&& (3 : Int32)))]) (st := []) at_146 (wd83 hw) (wd84 hw) (wd2 hw) (wd85 hw) (by decide) (lenOf pd_14 rfl) (m_name l Z a0 hw hB (sel &&& (3 : Int32))) rfl (Nat.le_of_ble_eq_true rfl) (Nat.le_of_ble_eq_true rfl) (Nat.le_of_ble_eq_true rfl) (Nat.le_of_ble_eq_true rfl) rfl rfl ?_
              rintro _ H1 ⟨a, xs, rfl, hl, A⟩
              show WP (l, consts_1) Z hB _ _ _ _ _ _ _ _ H1 _ _ [(.ref a)]
              refine Wk.astore (pc' := 151) (Ls' := #[.val (.int sel), .val (.int pos), .val (.int c0), .val (.int mode), .val (.int (sel &&& (3 : Int32))), .val (.int (mode &&& (7 : Int32))), .val (.int ch), .val (.int ch2), .val (.ref a), .unset]) at_149 rfl rfl rfl ?_
              exact Wk.WP.mono (sl' := 400) (by decide) (m_151 l Z a0 hw hB ck sC hck va cl sV AV EV FV hz r0 r1 r2 r3 n0 n1 n2 n3 e0 f0 x0 s0 t0 e1 f1 x1 s1 t1 e2 f2 x2 s2 t2 e3 f3 x3 s3 t3 sel pos c0 mode (sel &&& (3 : Int32)) (mode &&& (7 : Int32)) ch ch2 H1 a xs hl A)
set_option maxRecDepth 65536 in
set_option maxHeartbeats 40000000 in
theorem comes_1 {Post : Tables → Env → Array Value → State → Outcome → State → Prop} (hpost : ∀ tb e args s v u, (limb_1_1.after args s (.returned v) u = true ∧ limb_1_2.after args s (.returned v) u = true ∧ True) → ReturnedEndW s (.returned v) u (Jvm.fieldLocs frame_1_writes args s ++ Jvm.arrayLocs frame_1_arrays args s ++ Jvm.staticLocs frame_1_statics s) 40 9408 → Post tb e args s (.returned v) u) :
    ArmFor flags0 classFile x code maxLocals ret World_1 tables_1 room_1 Calls_1 rest_1 Pre_1 Post := by
  intro l hfl _ _ p e ha hc hk s m args below hf hA hF happ hP
  obtain ⟨hcalls, hrest, hpre⟩ := hP
  obtain ⟨-, -, -, hnamed, -, -, -, hat⟩ := (Spec.applies_iff hf).mp happ
  obtain ⟨hg, hn⟩ := and_e (Cond.before_iff.mp (show (Jvm.Cond.and given_1 narrow_1).before args s = true from hpre))
  obtain ⟨h1, h2⟩ := and_e hg
  obtain ⟨w0, w1, w2, w3, rfl⟩ : ∃ w0 w1 w2 w3 : Value, args = #[w0, w1, w2, w3] := by
    have hs : args.size = 4 := by simpa [Cond.value, given_1] using h1
    obtain ⟨L⟩ := args
    match L, hs with
    | [w0, w1, w2, w3], _ => exact ⟨w0, w1, w2, w3, rfl⟩
  have hw := fun d (hd : d ∈ tables_1) => atoms_spec (ws := Jvm.Cond.code x code maxLocals ret :: tables_1) hat d (List.mem_cons_of_mem _ hd)
  have hfit : Fit s := fun {y c} hc i hi => by
    obtain ⟨ha, rfl⟩ := Array.getElem?_eq_some_iff.mp hc
    have q := List.all_eq_true.mp ((Array.all_eq_true_iff_forall_mem.mp hF) _ (Array.getElem_mem ha)) i (List.mem_range.mpr hi)
    simpa [Array.getElem?_eq_getElem hi] using q
  obtain ⟨g0, r0⟩ := and_e h2
  obtain ⟨i0, e0⟩ := is_v g0
  obtain rfl : w0 = (.int i0) := Option.some.inj e0
  obtain ⟨g1, r1⟩ := and_e r0
  obtain ⟨i1, e1⟩ := is_v g1
  obtain rfl : w1 = (.int i1) := Option.some.inj e1
  obtain ⟨g2, r2⟩ := and_e r1
  obtain ⟨i2, e2⟩ := is_v g2
  obtain rfl : w2 = (.int i2) := Option.some.inj e2
  obtain ⟨i3, e3⟩ := is_v r2
  obtain rfl : w3 = (.int i3) := Option.some.inj e3
  obtain ⟨hsets, -⟩ := atoms_of jdkStatics_1 (show (jdkStatics_1.foldr Jvm.Cond.and restOwn_1).before _ s = true from (by rw [← rest_1_c_eq]; exact hrest))
  have hcw : Jvm.Lit.compactW.before _ s = true := hsets _ (List.mem_of_getElem? (i := 2) rfl)
  obtain ⟨ck, eck, hck⟩ := Wk.notEqI (Cond.before_iff.mp (hsets _ (List.mem_of_getElem? (i := 1) rfl))) (Cond.before_iff.mp hcw)
  have sC := Sta.start eck (Or.inl (hsets _ (List.mem_of_getElem? (i := 0) rfl)))
  obtain ⟨p0, p1⟩ := and_e hn
  obtain ⟨p1, p2⟩ := and_e p1
  obtain ⟨p2, p3⟩ := and_e p2
  obtain ⟨p3, p4⟩ := and_e p3
  obtain ⟨p4, p5⟩ := and_e p4
  obtain ⟨p5, p6⟩ := and_e p5
  obtain ⟨p6, p7⟩ := and_e p6
  obtain ⟨p7, p8⟩ := and_e p7
  obtain ⟨p8, p9⟩ := and_e p8
  obtain ⟨p9, p10⟩ := and_e p9
  obtain ⟨p10, p11⟩ := and_e p10
  obtain ⟨p11, p12⟩ := and_e p11
  obtain ⟨p12, p13⟩ := and_e p12
  obtain ⟨p13, p14⟩ := and_e p13
  obtain ⟨p14, p15⟩ := and_e p14
  obtain ⟨p15, p16⟩ := and_e p15
  obtain ⟨p16, p17⟩ := and_e p16
  obtain ⟨p17, p18⟩ := and_e p17
  obtain ⟨p18, p19⟩ := and_e p18
  obtain ⟨p19, p20⟩ := and_e p19
  obtain ⟨p20, p21⟩ := and_e p20
  obtain ⟨p21, p22⟩ := and_e p21
  obtain ⟨p22, p23⟩ := and_e p22
  obtain ⟨p23, p24⟩ := and_e p23
  obtain ⟨p24, p25⟩ := and_e p24
  obtain ⟨p25, p26⟩ := and_e p25
  obtain ⟨p26, p27⟩ := and_e p26
  obtain ⟨p27, p28⟩ := and_e p27
  obtain ⟨p28, p29⟩ := and_e p28
  obtain ⟨p29, p30⟩ := and_e p29
  obtain ⟨p30, p31⟩ := and_e p30
  obtain ⟨p31, p32⟩ := and_e p31
  obtain ⟨p32, p33⟩ := and_e p32
  obtain ⟨p33, p34⟩ := and_e p33
  obtain ⟨p34, p35⟩ := and_e p34
  obtain ⟨p35, p36⟩ := and_e p35
  obtain ⟨p36, p37⟩ := and_e p36
  obtain ⟨p37, p38⟩ := and_e p37
  obtain ⟨p38, p39⟩ := and_e p38
  obtain ⟨p39, p40⟩ := and_e p39
  obtain ⟨p40, p41⟩ := and_e p40
  obtain ⟨p41, p42⟩ := and_e p41
  obtain ⟨p42, p43⟩ := and_e p42
  obtain ⟨p43, p44⟩ := and_e p43
  obtain ⟨p44, p45⟩ := and_e p44
  obtain ⟨p45, p46⟩ := and_e p45
  obtain ⟨p46, p47⟩ := and_e p46
  obtain ⟨p47, p48⟩ := and_e p47
  obtain ⟨p48, p49⟩ := and_e p48
  obtain ⟨p49, p50⟩ := and_e p49
  obtain ⟨p50, p51⟩ := and_e p50
  obtain ⟨p51, p52⟩ := and_e p51
  obtain ⟨p52, p53⟩ := and_e p52
  obtain ⟨p53, p54⟩ := and_e p53
  obtain ⟨va, eva, EV⟩ := Wk.exaOf p1
  obtain ⟨va', cl, eva', hcl, AV⟩ := Wk.arrOf p0
  cases eva.symm.trans eva'
  have hz := Wk.sizeOf eva hcl p2 (n := 4) rfl (by decide)
  have FV := FitC.start hfit AV
  have sV := Sta.start eva (Or.inr ⟨(wd37 hw), (wd43 hw)⟩)
  obtain ⟨r0, er0, y0⟩ := Wk.exaOf p3
  have e0 := Wk.elemR eva hcl (j := 0) (by decide) (Wk.eqvR er0 p4)
  have t0 := Sta.start er0 (Or.inr ⟨(wd37 hw), (wd51 hw)⟩)
  obtain ⟨r1, er1, y1⟩ := Wk.exaOf p5
  have e1 := Wk.elemR eva hcl (j := 1) (by decide) (Wk.eqvR er1 p6)
  have t1 := Sta.start er1 (Or.inr ⟨(wd37 hw), (wd52 hw)⟩)
  obtain ⟨r2, er2, y2⟩ := Wk.exaOf p7
  have e2 := Wk.elemR eva hcl (j := 2) (by decide) (Wk.eqvR er2 p8)
  have t2 := Sta.start er2 (Or.inr ⟨(wd37 hw), (wd53 hw)⟩)
  obtain ⟨r3, er3, y3⟩ := Wk.exaOf p9
  have e3 := Wk.elemR eva hcl (j := 3) (by decide) (Wk.eqvR er3 p10)
  have t3 := Sta.start er3 (Or.inr ⟨(wd37 hw), (wd54 hw)⟩)
  obtain ⟨n0, en0, x0⟩ := Wk.exaOf p11
  have f0 := Wk.fldV er0 en0
  have co0 := Wk.fldInt en0 p12
  obtain ⟨v0, cv0, ev0, hv0, Av0⟩ := Wk.arrOf p13
  have vf0 := Wk.fldV en0 ev0
  have sz0 := Wk.sizeOf ev0 hv0 p14 (n := 7) rfl (by decide)
  have s0 : ∀ H, Wk.SL s s.heap H n0 ([115, 117, 98, 106, 101, 99, 116] : List Int32) := fun H => Wk.SL.old x0 co0 vf0 (by decide) (Wk.arvOld Av0 sz0 hfit (by decide) (by intro i hi; match i, hi with | 0, _ => exact (Wk.elemI ev0 hv0 (j := 0) (by decide) p27) | 1, _ => exact (Wk.elemI ev0 hv0 (j := 1) (by decide) p28) | 2, _ => exact (Wk.elemI ev0 hv0 (j := 2) (by decide) p29) | 3, _ => exact (Wk.elemI ev0 hv0 (j := 3) (by decide) p30) | 4, _ => exact (Wk.elemI ev0 hv0 (j := 4) (by decide) p31) | 5, _ => exact (Wk.elemI ev0 hv0 (j := 5) (by decide) p32) | 6, _ => exact (Wk.elemI ev0 hv0 (j := 6) (by decide) p33) | i + 7, hi => exact absurd hi (by simp)))
  obtain ⟨n1, en1, x1⟩ := Wk.exaOf p15
  have f1 := Wk.fldV er1 en1
  have co1 := Wk.fldInt en1 p16
  obtain ⟨v1, cv1, ev1, hv1, Av1⟩ := Wk.arrOf p17
  have vf1 := Wk.fldV en1 ev1
  have sz1 := Wk.sizeOf ev1 hv1 p18 (n := 6) rfl (by decide)
  have s1 : ∀ H, Wk.SL s s.heap H n1 ([97, 99, 116, 105, 111, 110] : List Int32) := fun H => Wk.SL.old x1 co1 vf1 (by decide) (Wk.arvOld Av1 sz1 hfit (by decide) (by intro i hi; match i, hi with | 0, _ => exact (Wk.elemI ev1 hv1 (j := 0) (by decide) p34) | 1, _ => exact (Wk.elemI ev1 hv1 (j := 1) (by decide) p35) | 2, _ => exact (Wk.elemI ev1 hv1 (j := 2) (by decide) p36) | 3, _ => exact (Wk.elemI ev1 hv1 (j := 3) (by decide) p37) | 4, _ => exact (Wk.elemI ev1 hv1 (j := 4) (by decide) p38) | 5, _ => exact (Wk.elemI ev1 hv1 (j := 5) (by decide) p39) | i + 6, hi => exact absurd hi (by simp)))
  obtain ⟨n2, en2, x2⟩ := Wk.exaOf p19
  have f2 := Wk.fldV er2 en2
  have co2 := Wk.fldInt en2 p20
  obtain ⟨v2, cv2, ev2, hv2, Av2⟩ := Wk.arrOf p21
  have vf2 := Wk.fldV en2 ev2
  have sz2 := Wk.sizeOf ev2 hv2 p22 (n := 8) rfl (by decide)
  have s2 : ∀ H, Wk.SL s s.heap H n2 ([114, 101, 115, 111, 117, 114, 99, 101] : List Int32) := fun H => Wk.SL.old x2 co2 vf2 (by decide) (Wk.arvOld Av2 sz2 hfit (by decide) (by intro i hi; match i, hi with | 0, _ => exact (Wk.elemI ev2 hv2 (j := 0) (by decide) p40) | 1, _ => exact (Wk.elemI ev2 hv2 (j := 1) (by decide) p41) | 2, _ => exact (Wk.elemI ev2 hv2 (j := 2) (by decide) p42) | 3, _ => exact (Wk.elemI ev2 hv2 (j := 3) (by decide) p43) | 4, _ => exact (Wk.elemI ev2 hv2 (j := 4) (by decide) p44) | 5, _ => exact (Wk.elemI ev2 hv2 (j := 5) (by decide) p45) | 6, _ => exact (Wk.elemI ev2 hv2 (j := 6) (by decide) p46) | 7, _ => exact (Wk.elemI ev2 hv2 (j := 7) (by decide) p47) | i + 8, hi => exact absurd hi (by simp)))
  obtain ⟨n3, en3, x3⟩ := Wk.exaOf p23
  have f3 := Wk.fldV er3 en3
  have co3 := Wk.fldInt en3 p24
  obtain ⟨v3, cv3, ev3, hv3, Av3⟩ := Wk.arrOf p25
  have vf3 := Wk.fldV en3 ev3
  have sz3 := Wk.sizeOf ev3 hv3 p26 (n := 7) rfl (by decide)
  have s3 : ∀ H, Wk.SL s s.heap H n3 ([99, 111, 110, 116, 101, 120, 116] : List Int32) := fun H => Wk.SL.old x3 co3 vf3 (by decide) (Wk.arvOld Av3 sz3 hfit (by decide) (by intro i hi; match i, hi with | 0, _ => exact (Wk.elemI ev3 hv3 (j := 0) (by decide) p48) | 1, _ => exact (Wk.elemI ev3 hv3 (j := 1) (by decide) p49) | 2, _ => exact (Wk.elemI ev3 hv3 (j := 2) (by decide) p50) | 3, _ => exact (Wk.elemI ev3 hv3 (j := 3) (by decide) p51) | 4, _ => exact (Wk.elemI ev3 hv3 (j := 4) (by decide) p52) | 5, _ => exact (Wk.elemI ev3 hv3 (j := 5) (by decide) p53) | 6, _ => exact (Wk.elemI ev3 hv3 (j := 6) (by decide) p54) | i + 7, hi => exact absurd hi (by simp)))
  have hEW : EW s _ consts_1 := (EW.cons (wd108 hw) (by decide) (EW.cons (wd73 hw) (by decide) (EW.cons (wd77 hw) (by decide) (EW.cons (wd78 hw) (by decide) (EW.cons (wd79 hw) (by decide) (EW.cons (wd105 hw) (by decide) (EW.cons (wd107 hw) (by decide) (EW.cons (wd109 hw) (by decide) (EW.cons (wd106 hw) (by decide) EW.nil)))))))))
  have hLI := Wk.LI.start hEW (fun p hp => hcalls.1 p hp) hcw (wd24 hw) (wd7 hw)
  obtain ⟨n, o, h1, h2, h3, v, L, H', rfl, rfl, hp, -, N, hq⟩ := m_law l s _ hw s.heap i0 i1 i2 i3 ck sC hck va cl sV AV EV FV hz r0 r1 r2 r3 n0 n1 n2 n3 e0 f0 x0 s0 t0 e1 f1 x1 s1 t1 e2 f2 x2 s2 t2 e3 f3 x3 s3 t3 p e ha hc hk s m _ below hf ((Spec.applies_iff_loose hf).mp happ).1 ⟨rfl, State.Warmed39.refl s, Wk.Hp.start s s.heap, hLI⟩ trivial
  refine ⟨n, _, h1, h2, h3, hpost _ _ _ _ _ _ ⟨Cond.after_iff.mpr rfl, Cond.after_iff.mpr (eq_i res_at (Term.int_eval (1)) rfl), trivial⟩ ⟨hq.1, hq.2.1, hq.2.2.1, (hq.2.2.2.sift fun y hy => Or.inr (N y hy)).mono (by decide) (by decide)⟩⟩
theorem main_1_1 : Claimed_1_1 := comes_1 fun _ _ _ _ _ _ h hF => ⟨h.1, hF⟩
theorem main_1_2 : Claimed_1_2 := comes_1 fun _ _ _ _ _ _ h hF => ⟨h.2.1, hF⟩
end Jvm.Pilot.@@N@@
namespace Jvm.Pilot.@@N@@
open Jvm Jvm.ClassFile Sem Op Lib Jvm.Free Jvm.Stand Jvm.Pilot.@@N@@.Jvm.D
/-! MADE BY PROGRAM (witnessworld.py) out of the Statement's table words and the real class files: 22 classes; the members and pool entries that the words name. The judged class is class 1, her method 1. -/
namespace start1
open Jvm.ClassFile
def u (s : String) : CpInfo := .utf8 (stringToUtf16 s)
/-- a pool by its gaps: so many unusable entries, then the entry; so many at the end -/
def gap : Nat → List CpInfo → List CpInfo
  | 0, r => r
  | n + 1, r => .unusable :: gap n r
def poolList (es : List (Nat × CpInfo)) (last : Nat) : List CpInfo := es.foldr (fun e r => gap e.1 (e.2 :: r)) (gap last [])
def pool (es : List (Nat × CpInfo)) (last : Nat) : Array CpInfo := ⟨poolList es last⟩
def fileOf (pool : Array CpInfo) (this : Nat) (attrs : Array Attribute := #[]) (ms : Array MethodInfo := #[]) (fl : Nat := 33) (sup : Nat := 0) (ifs : Array Nat := #[]) (fds : Array FieldInfo := #[]) : ClassFile where
  minorVersion := 0
  majorVersion := 65
  constantPool := pool
  accessFlags := fl
  thisClass := this
  superClass := sup
  interfaces := ifs
  fields := fds
  methods := ms
  attributes := attrs
def plain (name : String) (sup : Option ClassId) : Class where
  name := name
  kind := .ordinary
  loader := none
  accessFlags := 33
  super := sup
  interfaces := #[]
  cf := none
  fields := #[]
  methods := #[]
  instanceTypes := #[]
  staticTypes := #[]
  resolved := #[]
  callSites := []
  init := .initialized
  statics := none
  mirror := none

def pool0 : Array CpInfo := pool [(5, u "<init>"), (0, u "()V"), (1, .class_ 10), (1, u "java/lang/Object"), (85, u "clone"), (0, u "()Ljava/lang/Object;")] 26

def k0c0 : Code := { maxStack := 0, maxLocals := 1, code := object_method_1_code, exceptionTable := #[], attributes := #[] }
def k0m0 : Method := { name := "<init>", desc := "()V", sig := { parameters := [], returnType := none }, accessFlags := 1, code := some k0c0 }
def k0m1 : Method := { name := "clone", desc := "()Ljava/lang/Object;", sig := { parameters := [], returnType := some (.object "java/lang/Object") }, accessFlags := 260, code := none }
/-- java/lang/Object -/
def k0 : Class := { plain "java/lang/Object" none with
  accessFlags := 33
  interfaces := #[]
  cf := some (fileOf pool0 8 #[] #[{ accessFlags := 1, nameIndex := 5, descriptorIndex := 6, attributes := #[] }, { accessFlags := 260, nameIndex := 96, descriptorIndex := 97, attributes := #[] }] 33 0 #[] #[])
  fields := #[]
  methods := #[k0m0, k0m1]
  instanceTypes := #[]
  staticTypes := #[]
  resolved := Array.replicate 124 none
  statics := none }

def pool1 : Array CpInfo := pool [(2, .class_ 4), (1, u "java/lang/Object"), (0, u "<init>"), (0, u "()V"), (0, .methodref 8 9), (0, .class_ 10), (0, .nameAndType 11 12), (0, u "com/example/reckon/reckon/core/RootNamedPinLaw"), (0, u "mutated"), (0, u "(IIC)Ljava/lang/String;"), (0, .methodref 8 14), (0, .nameAndType 15 16), (0, u "extended"), (0, u "(IC)Ljava/lang/String;"), (0, .methodref 8 18), (0, .nameAndType 19 20), (0, u "truncated"), (0, u "(I)Ljava/lang/String;"), (0, .methodref 22 23), (0, .class_ 24), (0, .nameAndType 25 26), (0, u "java/lang/String"), (0, u "valueOf"), (0, u "(C)Ljava/lang/String;"), (0, .string 28), (0, u ""), (0, .methodref 22 30), (0, .nameAndType 5 31), (0, u "([C)V"), (0, .methodref 8 33), (0, .nameAndType 34 20), (0, u "name"), (0, .methodref 36 37), (0, .class_ 38), (0, .nameAndType 39 40), (0, u "com/example/reckon/reckon/core/RequestData$Root"), (0, u "named"), (0, u "(Ljava/lang/String;)Lcom/example/reckon/reckon/core/RequestData$Root;"), (0, .methodref 8 42), (0, .nameAndType 43 40), (0, u "ref"), (0, .string 45), (0, u "subject"), (0, .methodref 22 47), (0, .nameAndType 48 49), (0, u "equals"), (0, u "(Ljava/lang/Object;)Z"), (0, .fieldref 36 51), (0, .nameAndType 52 53), (0, u "SUBJECT"), (0, u "Lcom/example/reckon/reckon/core/RequestData$Root;"), (0, .string 55), (0, u "action"), (0, .fieldref 36 57), (0, .nameAndType 58 53), (0, u "ACTION"), (0, .string 60), (0, u "resource"), (0, .fieldref 36 62), (0, .nameAndType 63 53), (0, u "RESOURCE"), (0, .string 65), (0, u "context"), (0, .fieldref 36 67), (0, .nameAndType 68 53), (0, u "CONTEXT"), (0, .string 70), (0, u "subjec"), (0, .string 72), (0, u "actio"), (0, .string 74), (0, u "resourc"), (0, .string 76), (0, u "contex"), (0, .integer 2147483647), (2, u "law"), (0, u "(IIII)Z")] 9

def k1m0 : Method := { name := "<init>", desc := "()V", sig := { parameters := [], returnType := none }, accessFlags := 1, code := none }
def k1c1 : Code := { maxStack := 6, maxLocals := 10, code := code, exceptionTable := #[], attributes := #[] }
def k1m1 : Method := { name := "law", desc := "(IIII)Z", sig := { parameters := [.int, .int, .int, .int], returnType := some .boolean }, accessFlags := 9, code := some k1c1 }
def k1c2 : Code := { maxStack := 2, maxLocals := 1, code := method_3_code, exceptionTable := #[], attributes := #[] }
def k1m2 : Method := { name := "ref", desc := "(Ljava/lang/String;)Lcom/example/reckon/reckon/core/RequestData$Root;", sig := { parameters := [(.object "java/lang/String")], returnType := some (.object "com/example/reckon/reckon/core/RequestData$Root") }, accessFlags := 10, code := some k1c2 }
def k1c3 : Code := { maxStack := 2, maxLocals := 1, code := method_4_code, exceptionTable := #[], attributes := #[] }
def k1m3 : Method := { name := "name", desc := "(I)Ljava/lang/String;", sig := { parameters := [.int], returnType := some (.object "java/lang/String") }, accessFlags := 10, code := some k1c3 }
def k1c4 : Code := { maxStack := 2, maxLocals := 1, code := method_5_code, exceptionTable := #[], attributes := #[] }
def k1m4 : Method := { name := "truncated", desc := "(I)Ljava/lang/String;", sig := { parameters := [.int], returnType := some (.object "java/lang/String") }, accessFlags := 10, code := some k1c4 }
def k1c5 : Code := { maxStack := 4, maxLocals := 4, code := method_6_code, exceptionTable := #[], attributes := #[] }
def k1m5 : Method := { name := "mutated", desc := "(IIC)Ljava/lang/String;", sig := { parameters := [.int, .int, .char], returnType := some (.object "java/lang/String") }, accessFlags := 10, code := some k1c5 }
def k1c6 : Code := { maxStack := 4, maxLocals := 3, code := method_7_code, exceptionTable := #[], attributes := #[] }
def k1m6 : Method := { name := "extended", desc := "(IC)Ljava/lang/String;", sig := { parameters := [.int, .char], returnType := some (.object "java/lang/String") }, accessFlags := 10, code := some k1c6 }
/-- com/example/reckon/reckon/core/RootNamedPinLaw -/
def k1 : Class := { plain "com/example/reckon/reckon/core/RootNamedPinLaw" (some 0) with
  accessFlags := 49
  interfaces := #[]
  cf := some (fileOf pool1 8 #[] #[{ accessFlags := 1, nameIndex := 5, descriptorIndex := 6, attributes := #[] }, { accessFlags := 9, nameIndex := 80, descriptorIndex := 81, attributes := #[] }, { accessFlags := 10, nameIndex := 43, descriptorIndex := 40, attributes := #[] }, { accessFlags := 10, nameIndex := 34, descriptorIndex := 20, attributes := #[] }, { accessFlags := 10, nameIndex := 19, descriptorIndex := 20, attributes := #[] }, { accessFlags := 10, nameIndex := 11, descriptorIndex := 12, attributes := #[] }, { accessFlags := 10, nameIndex := 15, descriptorIndex := 16, attributes := #[] }] 49 2 #[] #[])
  fields := #[]
  methods := #[k1m0, k1m1, k1m2, k1m3, k1m4, k1m5, k1m6]
  instanceTypes := #[]
  staticTypes := #[]
  resolved := Array.replicate 91 none
  statics := none }

def pool2 : Array CpInfo := pool [(1, .class_ 2), (0, u "java/io/Serializable"), (0, .class_ 4), (0, u "java/lang/Object")] 2

/-- java/io/Serializable -/
def k2 : Class := { plain "java/io/Serializable" (some 0) with
  accessFlags := 1537
  interfaces := #[]
  cf := some (fileOf pool2 1 #[] #[] 1537 3 #[] #[])
  fields := #[]
  methods := #[]
  instanceTypes := #[]
  staticTypes := #[]
  resolved := Array.replicate 7 none
  statics := none }

def pool3 : Array CpInfo := pool [(1, .class_ 2), (0, u "java/lang/Comparable"), (0, .class_ 4), (0, u "java/lang/Object")] 7

/-- java/lang/Comparable -/
def k3 : Class := { plain "java/lang/Comparable" (some 0) with
  accessFlags := 1537
  interfaces := #[]
  cf := some (fileOf pool3 1 #[] #[] 1537 3 #[] #[])
  fields := #[]
  methods := #[]
  instanceTypes := #[]
  staticTypes := #[]
  resolved := Array.replicate 12 none
  statics := none }

def pool4 : Array CpInfo := pool [(2, .class_ 4), (1, u "java/lang/CharSequence"), (42, .class_ 48), (0, u "java/lang/CharSequence$1CodePointIterator"), (10, .class_ 60), (0, u "java/lang/CharSequence$1CharIterator"), (5, .class_ 67), (0, u "java/lang/Object")] 63

/-- java/lang/CharSequence -/
def k4 : Class := { plain "java/lang/CharSequence" (some 0) with
  accessFlags := 1537
  interfaces := #[]
  cf := some (fileOf pool4 2 #[.nestMembers #[47, 59]] #[] 1537 66 #[] #[])
  fields := #[]
  methods := #[]
  instanceTypes := #[]
  staticTypes := #[]
  resolved := Array.replicate 131 none
  statics := none }

def pool5 : Array CpInfo := pool [(1, .class_ 2), (0, u "java/lang/constant/Constable"), (0, .class_ 4), (0, u "java/lang/Object")] 6

/-- java/lang/constant/Constable -/
def k5 : Class := { plain "java/lang/constant/Constable" (some 0) with
  accessFlags := 1537
  interfaces := #[]
  cf := some (fileOf pool5 1 #[] #[] 1537 3 #[] #[])
  fields := #[]
  methods := #[]
  instanceTypes := #[]
  staticTypes := #[]
  resolved := Array.replicate 11 none
  statics := none }

def pool6 : Array CpInfo := pool [(1, .class_ 2), (0, u "java/lang/constant/ConstantDesc"), (0, .class_ 4), (0, u "java/lang/Object")] 32

/-- java/lang/constant/ConstantDesc -/
def k6 : Class := { plain "java/lang/constant/ConstantDesc" (some 0) with
  accessFlags := 1537
  interfaces := #[]
  cf := some (fileOf pool6 1 #[] #[] 1537 3 #[] #[])
  fields := #[]
  methods := #[]
  instanceTypes := #[]
  staticTypes := #[]
  resolved := Array.replicate 37 none
  statics := none }

def pool7 : Array CpInfo := pool [(1, .methodref 2 3), (0, .class_ 4), (0, .nameAndType 5 6), (0, u "java/lang/Object"), (0, u "<init>"), (0, u "()V"), (2, .fieldref 10 11), (0, .class_ 12), (0, .nameAndType 13 14), (0, u "java/lang/String"), (0, u "value"), (0, u "[B"), (0, .fieldref 10 16), (0, .nameAndType 17 18), (0, u "coder"), (0, u "B"), (2, u "hash"), (0, u "I"), (2, u "hashIsZero"), (0, u "Z"), (0, .methodref 10 28), (0, .nameAndType 5 29), (0, u "([CIILjava/lang/Void;)V"), (8, .fieldref 10 39), (0, .nameAndType 40 26), (0, u "COMPACT_STRINGS"), (1, .class_ 44), (1, u "java/lang/StringUTF16"), (0, u "compress"), (1, .methodref 42 48), (0, .nameAndType 49 50), (0, u "coderFromArrayLen"), (0, u "([BI)B"), (2, u "toBytes"), (53, .class_ 109), (1, u "java/lang/StringLatin1"), (67, .methodref 42 178), (0, .nameAndType 45 179), (0, u "([CII)[B"), (29, .methodref 10 210), (0, .nameAndType 5 211), (0, u "([BB)V"), (157, u "(C)Z"), (171, .methodref 107 542), (0, .nameAndType 543 544), (0, u "equals"), (0, u "([B[B)Z"), (28, u "(Ljava/lang/Object;)Z"), (1, .class_ 576), (0, u "java/lang/CharSequence"), (22, u "CASE_INSENSITIVE_ORDER"), (0, u "Ljava/util/Comparator;"), (181, u "valueOf"), (0, u "(C)Ljava/lang/String;"), (226, u "([C)V"), (4, .methodref 107 1016), (0, .nameAndType 1017 369), (0, u "canEncode"), (0, .methodref 107 1019), (0, .nameAndType 53 1020), (0, u "(C)[B"), (80, u "serialPersistentFields"), (0, u "[Ljava/io/ObjectStreamField;"), (0, .class_ 1104), (0, u "java/lang/String$CaseInsensitiveComparator"), (1, .class_ 1107), (0, u "java/io/Serializable"), (0, .class_ 1109), (0, u "java/lang/Comparable"), (0, .class_ 1111), (0, u "java/lang/constant/Constable"), (0, .class_ 1113), (0, u "java/lang/constant/ConstantDesc"), (2, u "serialVersionUID"), (0, u "J"), (3, u "REPL"), (0, u "C"), (2, u "LATIN1"), (1, u "UTF16")] 323

def k7m0 : Method := { name := "<init>", desc := "()V", sig := { parameters := [], returnType := none }, accessFlags := 1, code := none }
def k7c1 : Code := { maxStack := 5, maxLocals := 2, code := jdk_42_method_3_code, exceptionTable := #[], attributes := #[] }
def k7m1 : Method := { name := "<init>", desc := "([C)V", sig := { parameters := [(.array .char)], returnType := none }, accessFlags := 1, code := some k7c1 }
def k7c2 : Code := { maxStack := 2, maxLocals := 3, code := jdk_42_method_66_code, exceptionTable := #[], attributes := #[] }
def k7m2 : Method := { name := "equals", desc := "(Ljava/lang/Object;)Z", sig := { parameters := [(.object "java/lang/Object")], returnType := some .boolean }, accessFlags := 1, code := some k7c2 }
def k7c3 : Code := { maxStack := 4, maxLocals := 1, code := jdk_42_method_139_code, exceptionTable := #[], attributes := #[] }
def k7m3 : Method := { name := "valueOf", desc := "(C)Ljava/lang/String;", sig := { parameters := [.char], returnType := some (.object "java/lang/String") }, accessFlags := 9, code := some k7c3 }
def k7c4 : Code := { maxStack := 4, maxLocals := 6, code := jdk_42_method_149_code, exceptionTable := #[], attributes := #[] }
def k7m4 : Method := { name := "<init>", desc := "([CIILjava/lang/Void;)V", sig := { parameters := [(.array .char), .int, .int, (.object "java/lang/Void")], returnType := none }, accessFlags := 2, code := some k7c4 }
def k7c5 : Code := { maxStack := 2, maxLocals := 3, code := jdk_42_method_151_code, exceptionTable := #[], attributes := #[] }
def k7m5 : Method := { name := "<init>", desc := "([BB)V", sig := { parameters := [(.array .byte), .byte], returnType := none }, accessFlags := 0, code := some k7c5 }
/-- java/lang/String -/
def k7 : Class := { plain "java/lang/String" (some 0) with
  accessFlags := 49
  interfaces := #[2, 3, 4, 5, 6]
  cf := some (fileOf pool7 10 #[.nestMembers #[1103]] #[{ accessFlags := 1, nameIndex := 5, descriptorIndex := 6, attributes := #[] }, { accessFlags := 1, nameIndex := 5, descriptorIndex := 1010, attributes := #[] }, { accessFlags := 1, nameIndex := 543, descriptorIndex := 573, attributes := #[] }, { accessFlags := 9, nameIndex := 782, descriptorIndex := 783, attributes := #[] }, { accessFlags := 2, nameIndex := 5, descriptorIndex := 29, attributes := #[] }, { accessFlags := 0, nameIndex := 5, descriptorIndex := 211, attributes := #[] }] 49 2 #[1106, 1108, 575, 1110, 1112] #[{ accessFlags := 18, nameIndex := 13, descriptorIndex := 14, attributes := #[] }, { accessFlags := 18, nameIndex := 17, descriptorIndex := 18, attributes := #[] }, { accessFlags := 2, nameIndex := 21, descriptorIndex := 22, attributes := #[] }, { accessFlags := 2, nameIndex := 25, descriptorIndex := 26, attributes := #[] }, { accessFlags := 26, nameIndex := 1116, descriptorIndex := 1117, attributes := #[] }, { accessFlags := 24, nameIndex := 40, descriptorIndex := 26, attributes := #[] }, { accessFlags := 26, nameIndex := 1101, descriptorIndex := 1102, attributes := #[] }, { accessFlags := 26, nameIndex := 1121, descriptorIndex := 1122, attributes := #[] }, { accessFlags := 25, nameIndex := 599, descriptorIndex := 600, attributes := #[] }, { accessFlags := 24, nameIndex := 1125, descriptorIndex := 18, attributes := #[] }, { accessFlags := 24, nameIndex := 1127, descriptorIndex := 18, attributes := #[] }])
  fields := #[{ name := "value", type := (.array .byte), accessFlags := 18, slot := 0, constantValue := 0 }, { name := "coder", type := .byte, accessFlags := 18, slot := 1, constantValue := 0 }, { name := "hash", type := .int, accessFlags := 2, slot := 2, constantValue := 0 }, { name := "hashIsZero", type := .boolean, accessFlags := 2, slot := 3, constantValue := 0 }, { name := "serialVersionUID", type := .long, accessFlags := 26, slot := 0, constantValue := 0 }, { name := "COMPACT_STRINGS", type := .boolean, accessFlags := 24, slot := 1, constantValue := 0 }, { name := "serialPersistentFields", type := (.array (.object "java/io/ObjectStreamField")), accessFlags := 26, slot := 2, constantValue := 0 }, { name := "REPL", type := .char, accessFlags := 26, slot := 3, constantValue := 0 }, { name := "CASE_INSENSITIVE_ORDER", type := (.object "java/util/Comparator"), accessFlags := 25, slot := 4, constantValue := 0 }, { name := "LATIN1", type := .byte, accessFlags := 24, slot := 5, constantValue := 0 }, { name := "UTF16", type := .byte, accessFlags := 24, slot := 6, constantValue := 0 }]
  methods := #[k7m0, k7m1, k7m2, k7m3, k7m4, k7m5]
  instanceTypes := #[(.array .byte), .byte, .int, .boolean]
  staticTypes := #[.long, .boolean, (.array (.object "java/io/ObjectStreamField")), .char, (.object "java/util/Comparator"), .byte, .byte]
  resolved := Array.replicate 1451 none
  statics := some 0 }

def pool8 : Array CpInfo := pool [(6, .class_ 8), (1, u "java/lang/Object"), (0, u "<init>"), (0, u "()V"), (1, .class_ 14), (1, u "java/lang/StringUTF16"), (31, u "$assertionsDisabled"), (0, u "Z"), (13, u "HI_BYTE_SHIFT"), (0, u "I"), (2, u "LO_BYTE_SHIFT"), (49, .methodref 12 116), (0, .nameAndType 117 118), (0, u "compress"), (0, u "([CI[BII)I"), (3, u "([CII)[B"), (138, u "coderFromArrayLen"), (0, u "([BI)B"), (106, .class_ 371), (1, u "java/lang/StringUTF16$LinesSpliterator"), (58, u "MAX_LENGTH"), (196, .class_ 628), (0, u "java/lang/StringUTF16$CodePointsSpliterator"), (0, .class_ 630), (0, u "java/lang/StringUTF16$CharsSpliterator")] 4

def k8m0 : Method := { name := "<init>", desc := "()V", sig := { parameters := [], returnType := none }, accessFlags := 0, code := none }
def k8c1 : Code := { maxStack := 2, maxLocals := 2, code := jdk_52_method_15_code, exceptionTable := #[], attributes := #[] }
def k8m1 : Method := { name := "coderFromArrayLen", desc := "([BI)B", sig := { parameters := [(.array .byte), .int], returnType := some .byte }, accessFlags := 8, code := some k8c1 }
def k8c2 : Code := { maxStack := 5, maxLocals := 6, code := jdk_52_method_16_code, exceptionTable := #[], attributes := #[] }
def k8m2 : Method := { name := "compress", desc := "([CII)[B", sig := { parameters := [(.array .char), .int, .int], returnType := some (.array .byte) }, accessFlags := 9, code := some k8c2 }
def k8c3 : Code := { maxStack := 3, maxLocals := 7, code := jdk_52_method_21_code, exceptionTable := #[], attributes := #[] }
def k8m3 : Method := { name := "compress", desc := "([CI[BII)I", sig := { parameters := [(.array .char), .int, (.array .byte), .int, .int], returnType := some .int }, accessFlags := 9, code := some k8c3 }
/-- java/lang/StringUTF16 -/
def k8 : Class := { plain "java/lang/StringUTF16" (some 0) with
  accessFlags := 48
  interfaces := #[]
  cf := some (fileOf pool8 12 #[.nestMembers #[627, 629, 369]] #[{ accessFlags := 0, nameIndex := 9, descriptorIndex := 10, attributes := #[] }, { accessFlags := 8, nameIndex := 261, descriptorIndex := 262, attributes := #[] }, { accessFlags := 9, nameIndex := 117, descriptorIndex := 122, attributes := #[] }, { accessFlags := 9, nameIndex := 117, descriptorIndex := 118, attributes := #[] }] 48 6 #[] #[{ accessFlags := 26, nameIndex := 61, descriptorIndex := 62, attributes := #[] }, { accessFlags := 26, nameIndex := 65, descriptorIndex := 62, attributes := #[] }, { accessFlags := 24, nameIndex := 430, descriptorIndex := 62, attributes := #[] }, { accessFlags := 4120, nameIndex := 46, descriptorIndex := 47, attributes := #[] }])
  fields := #[{ name := "HI_BYTE_SHIFT", type := .int, accessFlags := 26, slot := 0, constantValue := 0 }, { name := "LO_BYTE_SHIFT", type := .int, accessFlags := 26, slot := 1, constantValue := 0 }, { name := "MAX_LENGTH", type := .int, accessFlags := 24, slot := 2, constantValue := 0 }, { name := "$assertionsDisabled", type := .boolean, accessFlags := 4120, slot := 3, constantValue := 0 }]
  methods := #[k8m0, k8m1, k8m2, k8m3]
  instanceTypes := #[]
  staticTypes := #[.int, .int, .int, .boolean]
  resolved := Array.replicate 635 none
  statics := none }

def pool9 : Array CpInfo := pool [(2, .class_ 4), (1, u "java/lang/Enum"), (0, u "name"), (0, u "Ljava/lang/String;"), (2, u "ordinal"), (0, u "I"), (1, .class_ 14), (1, u "java/lang/Object"), (4, u "hash"), (86, .class_ 108), (1, u "java/lang/Enum$EnumDesc"), (2, .class_ 112), (0, u "java/lang/constant/Constable"), (0, .class_ 114), (0, u "java/lang/Comparable"), (0, .class_ 116), (0, u "java/io/Serializable")] 87

/-- java/lang/Enum -/
def k9 : Class := { plain "java/lang/Enum" (some 0) with
  accessFlags := 1057
  interfaces := #[5, 3, 2]
  cf := some (fileOf pool9 2 #[.nestMembers #[106]] #[] 1057 12 #[111, 113, 115] #[{ accessFlags := 18, nameIndex := 5, descriptorIndex := 6, attributes := #[] }, { accessFlags := 18, nameIndex := 9, descriptorIndex := 10, attributes := #[] }, { accessFlags := 2, nameIndex := 19, descriptorIndex := 10, attributes := #[] }])
  fields := #[{ name := "name", type := (.object "java/lang/String"), accessFlags := 18, slot := 0, constantValue := 0 }, { name := "ordinal", type := .int, accessFlags := 18, slot := 1, constantValue := 0 }, { name := "hash", type := .int, accessFlags := 2, slot := 2, constantValue := 0 }]
  methods := #[]
  instanceTypes := #[(.object "java/lang/String"), .int, .int]
  staticTypes := #[]
  resolved := Array.replicate 204 none
  statics := none }

def pool10 : Array CpInfo := pool [(1, .class_ 2), (0, u "com/example/reckon/reckon/core/RequestData$Root"), (2, u "SUBJECT"), (0, u "Lcom/example/reckon/reckon/core/RequestData$Root;"), (2, u "ACTION"), (2, u "RESOURCE"), (2, u "CONTEXT"), (0, .fieldref 1 17), (0, .nameAndType 18 19), (0, u "$VALUES"), (0, u "[Lcom/example/reckon/reckon/core/RequestData$Root;"), (0, .methodref 21 22), (0, .class_ 19), (0, .nameAndType 23 24), (0, u "clone"), (0, u "()Ljava/lang/Object;"), (1, .class_ 28), (1, u "java/lang/Enum"), (6, .fieldref 1 36), (0, .nameAndType 37 38), (0, u "name"), (0, u "Ljava/lang/String;"), (0, .methodref 1 40), (0, .nameAndType 41 42), (0, u "values"), (0, u "()[Lcom/example/reckon/reckon/core/RequestData$Root;"), (0, .methodref 44 45), (0, .class_ 46), (0, .nameAndType 47 48), (0, u "java/lang/String"), (0, u "equals"), (0, u "(Ljava/lang/Object;)Z"), (20, u "(Ljava/lang/String;)Lcom/example/reckon/reckon/core/RequestData$Root;"), (3, u "named"), (9, .class_ 84), (0, u "com/example/reckon/reckon/core/RequestData")] 2

def k10c0 : Code := { maxStack := 1, maxLocals := 0, code := prog_52_method_1_code, exceptionTable := #[], attributes := #[] }
def k10m0 : Method := { name := "values", desc := "()[Lcom/example/reckon/reckon/core/RequestData$Root;", sig := { parameters := [], returnType := some (.array (.object "com/example/reckon/reckon/core/RequestData$Root")) }, accessFlags := 9, code := some k10c0 }
def k10c1 : Code := { maxStack := 2, maxLocals := 6, code := prog_52_method_4_code, exceptionTable := #[], attributes := #[] }
def k10m1 : Method := { name := "named", desc := "(Ljava/lang/String;)Lcom/example/reckon/reckon/core/RequestData$Root;", sig := { parameters := [(.object "java/lang/String")], returnType := some (.object "com/example/reckon/reckon/core/RequestData$Root") }, accessFlags := 8, code := some k10c1 }
/-- com/example/reckon/reckon/core/RequestData$Root -/
def k10 : Class := { plain "com/example/reckon/reckon/core/RequestData$Root" (some 9) with
  accessFlags := 16432
  interfaces := #[]
  cf := some (fileOf pool10 1 #[.nestHost 83] #[{ accessFlags := 9, nameIndex := 41, descriptorIndex := 42, attributes := #[] }, { accessFlags := 8, nameIndex := 73, descriptorIndex := 69, attributes := #[] }] 16432 26 #[] #[{ accessFlags := 16409, nameIndex := 5, descriptorIndex := 6, attributes := #[] }, { accessFlags := 16409, nameIndex := 9, descriptorIndex := 6, attributes := #[] }, { accessFlags := 16409, nameIndex := 12, descriptorIndex := 6, attributes := #[] }, { accessFlags := 16409, nameIndex := 15, descriptorIndex := 6, attributes := #[] }, { accessFlags := 18, nameIndex := 37, descriptorIndex := 38, attributes := #[] }, { accessFlags := 4122, nameIndex := 18, descriptorIndex := 19, attributes := #[] }])
  fields := #[{ name := "SUBJECT", type := (.object "com/example/reckon/reckon/core/RequestData$Root"), accessFlags := 16409, slot := 0, constantValue := 0 }, { name := "ACTION", type := (.object "com/example/reckon/reckon/core/RequestData$Root"), accessFlags := 16409, slot := 1, constantValue := 0 }, { name := "RESOURCE", type := (.object "com/example/reckon/reckon/core/RequestData$Root"), accessFlags := 16409, slot := 2, constantValue := 0 }, { name := "CONTEXT", type := (.object "com/example/reckon/reckon/core/RequestData$Root"), accessFlags := 16409, slot := 3, constantValue := 0 }, { name := "name", type := (.object "java/lang/String"), accessFlags := 18, slot := 3, constantValue := 0 }, { name := "$VALUES", type := (.array (.object "com/example/reckon/reckon/core/RequestData$Root")), accessFlags := 4122, slot := 4, constantValue := 0 }]
  methods := #[k10m0, k10m1]
  instanceTypes := #[(.object "java/lang/String"), .int, .int, (.object "java/lang/String")]
  staticTypes := #[(.object "com/example/reckon/reckon/core/RequestData$Root"), (.object "com/example/reckon/reckon/core/RequestData$Root"), (.object "com/example/reckon/reckon/core/RequestData$Root"), (.object "com/example/reckon/reckon/core/RequestData$Root"), (.array (.object "com/example/reckon/reckon/core/RequestData$Root"))]
  resolved := Array.replicate 87 none
  statics := some 1 }

def pool11 : Array CpInfo := pool [(1, .class_ 2), (0, u "java/lang/Cloneable"), (0, .class_ 4), (0, u "java/lang/Object")] 2

/-- java/lang/Cloneable -/
def k11 : Class := { plain "java/lang/Cloneable" (some 0) with
  accessFlags := 1537
  interfaces := #[]
  cf := some (fileOf pool11 1 #[] #[] 1537 3 #[] #[])
  fields := #[]
  methods := #[]
  instanceTypes := #[]
  staticTypes := #[]
  resolved := Array.replicate 7 none
  statics := none }

def pool12 : Array CpInfo := pool [(4, .class_ 6), (1, u "java/lang/Object"), (0, u "<init>"), (0, u "()V"), (5, .class_ 16), (1, u "java/lang/StringLatin1"), (73, u "canEncode"), (14, u "(C)Z"), (15, u "$assertionsDisabled"), (0, u "Z"), (98, .class_ 223), (1, u "java/lang/StringLatin1$LinesSpliterator"), (57, u "equals"), (0, u "([B[B)Z"), (97, u "toBytes"), (1, u "(C)[B"), (7, .class_ 391), (0, u "java/lang/StringLatin1$CharsSpliterator")] 3

def k12m0 : Method := { name := "<init>", desc := "()V", sig := { parameters := [], returnType := none }, accessFlags := 0, code := none }
def k12c1 : Code := { maxStack := 2, maxLocals := 1, code := jdk_43_method_3_code, exceptionTable := #[], attributes := #[] }
def k12m1 : Method := { name := "canEncode", desc := "(C)Z", sig := { parameters := [.char], returnType := some .boolean }, accessFlags := 9, code := some k12c1 }
def k12c2 : Code := { maxStack := 3, maxLocals := 3, code := jdk_43_method_13_code, exceptionTable := #[], attributes := #[] }
def k12m2 : Method := { name := "equals", desc := "([B[B)Z", sig := { parameters := [(.array .byte), (.array .byte)], returnType := some .boolean }, accessFlags := 9, code := some k12c2 }
def k12c3 : Code := { maxStack := 4, maxLocals := 1, code := jdk_43_method_46_code, exceptionTable := #[], attributes := #[] }
def k12m3 : Method := { name := "toBytes", desc := "(C)[B", sig := { parameters := [.char], returnType := some (.array .byte) }, accessFlags := 9, code := some k12c3 }
/-- java/lang/StringLatin1 -/
def k12 : Class := { plain "java/lang/StringLatin1" (some 0) with
  accessFlags := 48
  interfaces := #[]
  cf := some (fileOf pool12 14 #[.nestMembers #[390, 221]] #[{ accessFlags := 0, nameIndex := 7, descriptorIndex := 8, attributes := #[] }, { accessFlags := 9, nameIndex := 90, descriptorIndex := 105, attributes := #[] }, { accessFlags := 9, nameIndex := 281, descriptorIndex := 282, attributes := #[] }, { accessFlags := 9, nameIndex := 380, descriptorIndex := 382, attributes := #[] }] 48 4 #[] #[{ accessFlags := 4120, nameIndex := 121, descriptorIndex := 122, attributes := #[] }])
  fields := #[{ name := "$assertionsDisabled", type := .boolean, accessFlags := 4120, slot := 0, constantValue := 0 }]
  methods := #[k12m0, k12m1, k12m2, k12m3]
  instanceTypes := #[]
  staticTypes := #[.boolean]
  resolved := Array.replicate 395 none
  statics := none }

def pool13 : Array CpInfo := pool [(2, .class_ 4), (1, u "java/lang/Object"), (0, u "<init>"), (0, u "()V"), (17, .class_ 26), (1, u "jdk/internal/util/Preconditions"), (28, .class_ 56), (0, u "jdk/internal/util/Preconditions$4"), (57, .class_ 115), (0, u "jdk/internal/util/Preconditions$1"), (7, u "SIOOBE_FORMATTER"), (0, u "Ljava/util/function/BiFunction;"), (0, .class_ 126), (0, u "jdk/internal/util/Preconditions$2"), (3, u "AIOOBE_FORMATTER"), (0, .class_ 132), (0, u "jdk/internal/util/Preconditions$3"), (3, u "IOOBE_FORMATTER")] 57

def k13m0 : Method := { name := "<init>", desc := "()V", sig := { parameters := [], returnType := none }, accessFlags := 1, code := none }
/-- jdk/internal/util/Preconditions -/
def k13 : Class := { plain "jdk/internal/util/Preconditions" (some 0) with
  accessFlags := 33
  interfaces := #[]
  cf := some (fileOf pool13 24 #[.nestMembers #[55, 131, 125, 114]] #[{ accessFlags := 1, nameIndex := 5, descriptorIndex := 6, attributes := #[] }] 33 2 #[] #[{ accessFlags := 25, nameIndex := 123, descriptorIndex := 124, attributes := #[] }, { accessFlags := 25, nameIndex := 130, descriptorIndex := 124, attributes := #[] }, { accessFlags := 25, nameIndex := 136, descriptorIndex := 124, attributes := #[] }])
  fields := #[{ name := "SIOOBE_FORMATTER", type := (.object "java/util/function/BiFunction"), accessFlags := 25, slot := 0, constantValue := 0 }, { name := "AIOOBE_FORMATTER", type := (.object "java/util/function/BiFunction"), accessFlags := 25, slot := 1, constantValue := 0 }, { name := "IOOBE_FORMATTER", type := (.object "java/util/function/BiFunction"), accessFlags := 25, slot := 2, constantValue := 0 }]
  methods := #[k13m0]
  instanceTypes := #[]
  staticTypes := #[(.object "java/util/function/BiFunction"), (.object "java/util/function/BiFunction"), (.object "java/util/function/BiFunction")]
  resolved := Array.replicate 194 none
  statics := some 2 }

def pool14 : Array CpInfo := pool [(9, u "<init>"), (6, .class_ 18), (1, u "java/lang/Object"), (0, u "()V"), (1, .class_ 23), (1, u "jdk/internal/util/ArraysSupport"), (0, u "LOG2_ARRAY_LONG_INDEX_SCALE"), (0, u "I"), (2, u "U"), (0, u "Ljdk/internal/misc/Unsafe;"), (8, u "BIG_ENDIAN"), (0, u "Z"), (8, u "LOG2_BYTE_BIT_SIZE"), (4, u "LOG2_ARRAY_INT_INDEX_SCALE"), (54, u "JLA"), (0, u "Ljdk/internal/access/JavaLangAccess;"), (11, u "LOG2_ARRAY_BOOLEAN_INDEX_SCALE"), (9, u "LOG2_ARRAY_BYTE_INDEX_SCALE"), (5, u "LOG2_ARRAY_CHAR_INDEX_SCALE"), (5, u "LOG2_ARRAY_SHORT_INDEX_SCALE"), (18, u "LOG2_ARRAY_FLOAT_INDEX_SCALE"), (24, u "LOG2_ARRAY_DOUBLE_INDEX_SCALE"), (89, u "T_BOOLEAN"), (2, u "T_CHAR"), (1, u "T_FLOAT"), (1, u "T_DOUBLE"), (1, u "T_BYTE"), (1, u "T_SHORT"), (1, u "T_INT"), (1, u "T_LONG"), (1, u "SOFT_MAX_ARRAY_LENGTH")] 83

def k14m0 : Method := { name := "<init>", desc := "()V", sig := { parameters := [], returnType := none }, accessFlags := 2, code := none }
/-- jdk/internal/util/ArraysSupport -/
def k14 : Class := { plain "jdk/internal/util/ArraysSupport" (some 0) with
  accessFlags := 33
  interfaces := #[]
  cf := some (fileOf pool14 21 #[] #[{ accessFlags := 2, nameIndex := 9, descriptorIndex := 19, attributes := #[] }] 33 16 #[] #[{ accessFlags := 24, nameIndex := 28, descriptorIndex := 29, attributes := #[] }, { accessFlags := 26, nameIndex := 38, descriptorIndex := 39, attributes := #[] }, { accessFlags := 25, nameIndex := 121, descriptorIndex := 25, attributes := #[] }, { accessFlags := 25, nameIndex := 131, descriptorIndex := 25, attributes := #[] }, { accessFlags := 25, nameIndex := 137, descriptorIndex := 25, attributes := #[] }, { accessFlags := 25, nameIndex := 143, descriptorIndex := 25, attributes := #[] }, { accessFlags := 25, nameIndex := 53, descriptorIndex := 25, attributes := #[] }, { accessFlags := 25, nameIndex := 24, descriptorIndex := 25, attributes := #[] }, { accessFlags := 25, nameIndex := 162, descriptorIndex := 25, attributes := #[] }, { accessFlags := 25, nameIndex := 187, descriptorIndex := 25, attributes := #[] }, { accessFlags := 26, nameIndex := 48, descriptorIndex := 25, attributes := #[] }, { accessFlags := 25, nameIndex := 277, descriptorIndex := 25, attributes := #[] }, { accessFlags := 25, nameIndex := 280, descriptorIndex := 25, attributes := #[] }, { accessFlags := 25, nameIndex := 282, descriptorIndex := 25, attributes := #[] }, { accessFlags := 25, nameIndex := 284, descriptorIndex := 25, attributes := #[] }, { accessFlags := 25, nameIndex := 286, descriptorIndex := 25, attributes := #[] }, { accessFlags := 25, nameIndex := 288, descriptorIndex := 25, attributes := #[] }, { accessFlags := 25, nameIndex := 290, descriptorIndex := 25, attributes := #[] }, { accessFlags := 25, nameIndex := 292, descriptorIndex := 25, attributes := #[] }, { accessFlags := 26, nameIndex := 108, descriptorIndex := 109, attributes := #[] }, { accessFlags := 25, nameIndex := 294, descriptorIndex := 25, attributes := #[] }])
  fields := #[{ name := "U", type := (.object "jdk/internal/misc/Unsafe"), accessFlags := 24, slot := 0, constantValue := 0 }, { name := "BIG_ENDIAN", type := .boolean, accessFlags := 26, slot := 1, constantValue := 0 }, { name := "LOG2_ARRAY_BOOLEAN_INDEX_SCALE", type := .int, accessFlags := 25, slot := 2, constantValue := 0 }, { name := "LOG2_ARRAY_BYTE_INDEX_SCALE", type := .int, accessFlags := 25, slot := 3, constantValue := 0 }, { name := "LOG2_ARRAY_CHAR_INDEX_SCALE", type := .int, accessFlags := 25, slot := 4, constantValue := 0 }, { name := "LOG2_ARRAY_SHORT_INDEX_SCALE", type := .int, accessFlags := 25, slot := 5, constantValue := 0 }, { name := "LOG2_ARRAY_INT_INDEX_SCALE", type := .int, accessFlags := 25, slot := 6, constantValue := 0 }, { name := "LOG2_ARRAY_LONG_INDEX_SCALE", type := .int, accessFlags := 25, slot := 7, constantValue := 0 }, { name := "LOG2_ARRAY_FLOAT_INDEX_SCALE", type := .int, accessFlags := 25, slot := 8, constantValue := 0 }, { name := "LOG2_ARRAY_DOUBLE_INDEX_SCALE", type := .int, accessFlags := 25, slot := 9, constantValue := 0 }, { name := "LOG2_BYTE_BIT_SIZE", type := .int, accessFlags := 26, slot := 10, constantValue := 0 }, { name := "T_BOOLEAN", type := .int, accessFlags := 25, slot := 11, constantValue := 0 }, { name := "T_CHAR", type := .int, accessFlags := 25, slot := 12, constantValue := 0 }, { name := "T_FLOAT", type := .int, accessFlags := 25, slot := 13, constantValue := 0 }, { name := "T_DOUBLE", type := .int, accessFlags := 25, slot := 14, constantValue := 0 }, { name := "T_BYTE", type := .int, accessFlags := 25, slot := 15, constantValue := 0 }, { name := "T_SHORT", type := .int, accessFlags := 25, slot := 16, constantValue := 0 }, { name := "T_INT", type := .int, accessFlags := 25, slot := 17, constantValue := 0 }, { name := "T_LONG", type := .int, accessFlags := 25, slot := 18, constantValue := 0 }, { name := "JLA", type := (.object "jdk/internal/access/JavaLangAccess"), accessFlags := 26, slot := 19, constantValue := 0 }, { name := "SOFT_MAX_ARRAY_LENGTH", type := .int, accessFlags := 25, slot := 20, constantValue := 0 }]
  methods := #[k14m0]
  instanceTypes := #[]
  staticTypes := #[(.object "jdk/internal/misc/Unsafe"), .boolean, .int, .int, .int, .int, .int, .int, .int, .int, .int, .int, .int, .int, .int, .int, .int, .int, .int, (.object "jdk/internal/access/JavaLangAccess"), .int]
  resolved := Array.replicate 378 none
  statics := none }

/-- the primitive byte -/
def k15 : Class := { plain "byte" none with kind := .primitive 'B', accessFlags := 0x411 }
/-- [B -/
def k16 : Class := { plain "[B" (some 0) with kind := .array 15 .byte, interfaces := #[11, 2], accessFlags := 1041 }

/-- the primitive char -/
def k17 : Class := { plain "char" none with kind := .primitive 'C', accessFlags := 0x411 }
/-- [C -/
def k18 : Class := { plain "[C" (some 0) with kind := .array 17 .char, interfaces := #[11, 2], accessFlags := 1041 }

/-- the primitive int -/
def k19 : Class := { plain "int" none with kind := .primitive 'I', accessFlags := 0x411 }
/-- [I -/
def k20 : Class := { plain "[I" (some 0) with kind := .array 19 .int, interfaces := #[11, 2], accessFlags := 1041 }

/-- [Lcom/example/reckon/reckon/core/RequestData$Root; -/
def k21 : Class := { plain "[Lcom/example/reckon/reckon/core/RequestData$Root;" (some 0) with kind := .array 10 (.object "com/example/reckon/reckon/core/RequestData$Root"), interfaces := #[11, 2], accessFlags := 1041 }

def heap : Heap := #[{ cls := 7, slots := #[.long 0, .int 1, .null, .int 0, .null, .int 0, .int 0], vm := .statics 7 },
  { cls := 10, slots := #[.ref 12, .ref 13, .ref 14, .ref 15, .ref 3], vm := .statics 10 },
  { cls := 13, slots := #[.ref 16, .null, .null], vm := .statics 13 },
  { cls := 21, slots := #[.ref 12, .ref 13, .ref 14, .ref 15], vm := .none },
  { cls := 16, slots := #[.int 115, .int 117, .int 98, .int 106, .int 101, .int 99, .int 116], vm := .none },
  { cls := 16, slots := #[.int 97, .int 99, .int 116, .int 105, .int 111, .int 110], vm := .none },
  { cls := 16, slots := #[.int 114, .int 101, .int 115, .int 111, .int 117, .int 114, .int 99, .int 101], vm := .none },
  { cls := 16, slots := #[.int 99, .int 111, .int 110, .int 116, .int 101, .int 120, .int 116], vm := .none },
  { cls := 7, slots := #[.ref 4, .int 0, .int 0, .int 0], vm := .none },
  { cls := 7, slots := #[.ref 5, .int 0, .int 0, .int 0], vm := .none },
  { cls := 7, slots := #[.ref 6, .int 0, .int 0, .int 0], vm := .none },
  { cls := 7, slots := #[.ref 7, .int 0, .int 0, .int 0], vm := .none },
  { cls := 10, slots := #[.null, .int 0, .int 0, .ref 8], vm := .none },
  { cls := 10, slots := #[.null, .int 1, .int 0, .ref 9], vm := .none },
  { cls := 10, slots := #[.null, .int 2, .int 0, .ref 10], vm := .none },
  { cls := 10, slots := #[.null, .int 3, .int 0, .ref 11], vm := .none },
  { cls := 0, slots := #[], vm := .none }]
def classes : Array Class := #[k0, k1, k2, k3, k4, k5, k6, k7, k8, k9, k10, k11, k12, k13, k14, k15, k16, k17, k18, k19, k20, k21]
def interned : List (Array UInt16 × Addr) := []
def slotsUsed : Nat := 79
def theMethod : MethodId := ⟨1, 1⟩
def args0 : Array Value := #[.int 1, .int 2, .int 3, .int 4]
def aboutOver (below : List Frame) : State where
  vm := { classes := classes, interned := interned.toArray }
  heap := heap
  slotsUsed := slotsUsed
  threads := #[{ frames := .invoking theMethod args0 :: below }]
def below0 : List Frame := [.native { method := ⟨0, 0⟩, args := #[] }]
def about1 : State := aboutOver below0
def p0 : Program := .bare "" "" ""
def e0 : Env := launch0.env 0 0 0
theorem w_frames : about1.frames = Frame.invoking theMethod args0 :: below0 := rfl
set_option maxRecDepth 65536 in
theorem w_args : argsFit about1.vm theMethod args0 = true := by decide +kernel
set_option maxRecDepth 65536 in
theorem w_heap : heapFits about1 = true := by decide +kernel
set_option maxRecDepth 65536 in
theorem w_runnable : about1.curStatus? = some .runnable := by decide +kernel
set_option maxRecDepth 65536 in
theorem w_alone : about1.alone = true := by decide +kernel
set_option maxRecDepth 65536 in
theorem w_named : about1.methodNamed? x = some theMethod := by decide +kernel
set_option maxRecDepth 65536 in
theorem w_hears : about1.hears theMethod below0 = true := by decide +kernel
set_option maxRecDepth 65536 in
theorem w_ripe : about1.ripe theMethod args0 below0 = true := by decide +kernel
theorem w_running : about1.status = .running := rfl
set_option maxRecDepth 65536 in
theorem w_room : about1.hasRoom e0.platform room_1 = true :=
  launch0.hasRoom_least _ room_1 (by decide +kernel) (by decide +kernel) (by decide +kernel) (by decide +kernel) (by decide +kernel) (by decide +kernel)
theorem allAtoms_all (ts : List Jvm.Cond) (a : Array Jvm.Value) (st : Jvm.State) : (allAtoms ts).before a st = ts.all (fun c => c.before a st) := by
  induction ts with
  | nil => rfl
  | cons c t ih =>
    show (Jvm.Cond.and c (allAtoms t)).before a st = _
    rw [Jvm.Cond.before_and, ih, List.all_cons]
def words1 : List Jvm.Cond := Jvm.Cond.code x code maxLocals ret :: tables_1
/-- a 'code' word, met by the world's own term for the bytes: nothing is compared byte by byte -/
theorem code_word {y : MethodName} {bytes : ByteArray} {mx : Nat} {rt : Option FieldType} {a : Array Value} {s : State} {m : MethodId} {meth : Method} {c : Code} (h1 : s.methodNamed? y = some m) (h2 : s.vm.method? m = some meth) (h3 : meth.code = some c) (h4 : c.code = bytes)
    (h5 : (c.maxLocals == mx && c.exceptionTable.isEmpty && decide (c.maxStack ≤ mostOperands) && decide (meth.sig.returnType = rt) && !meth.locks && decide (parseMethodDescriptor y.desc = some meth.sig)) = true) : (Jvm.Cond.code y bytes mx rt).before a s = true := by
  simp only [Bool.and_eq_true, beq_iff_eq, Bool.not_eq_true', decide_eq_true_eq] at h5
  obtain ⟨⟨⟨⟨⟨g1, g2⟩, g3⟩, g4⟩, g5⟩, g6⟩ := h5
  simp [Cond.before, Cond.holds, Cond.value, h1, h2, h3, h4, g1, g2, g3, g4, g5, g6]
def isCode : Jvm.Cond → Bool
  | .code _ _ _ _ => true
  | _ => false
theorem all_split {L : List Jvm.Cond} {P : Jvm.Cond → Bool} (h1 : L.all (fun c => isCode c || P c) = true) (h2 : ∀ c ∈ L.filter isCode, P c = true) : L.all P = true := by
  refine List.all_eq_true.mpr fun c hc => ?_
  have h := List.all_eq_true.mp h1 c hc
  rcases Bool.eq_false_or_eq_true (isCode c) with hi | hi
  · exact h2 c (List.mem_filter.mpr ⟨hc, hi⟩)
  · simpa [hi] using h
set_option maxRecDepth 65536 in
theorem w_c0 : (Jvm.Cond.code x code maxLocals ret).before args0 about1 = true := code_word (m := ⟨1, 1⟩) (meth := k1m1) (c := k1c1) (by decide +kernel) rfl rfl rfl (by decide +kernel)
set_option maxRecDepth 65536 in
theorem w_c1 : (Jvm.Cond.code ({ cls := "com/example/reckon/reckon/core/RootNamedPinLaw", name := "mutated", desc := "(IIC)Ljava/lang/String;" } : Jvm.MethodName) method_6_code (4 : Nat) (Option.some (Jvm.ClassFile.FieldType.object "java/lang/String"))).before args0 about1 = true := code_word (m := ⟨1, 5⟩) (meth := k1m5) (c := k1c5) (by decide +kernel) rfl rfl rfl (by decide +kernel)
set_option maxRecDepth 65536 in
theorem w_c2 : (Jvm.Cond.code ({ cls := "java/lang/String", name := "<init>", desc := "([C)V" } : Jvm.MethodName) jdk_42_method_3_code (2 : Nat) (Option.none : Option Jvm.ClassFile.FieldType)).before args0 about1 = true := code_word (m := ⟨7, 1⟩) (meth := k7m1) (c := k7c1) (by decide +kernel) rfl rfl rfl (by decide +kernel)
set_option maxRecDepth 65536 in
theorem w_c3 : (Jvm.Cond.code ({ cls := "java/lang/String", name := "<init>", desc := "([CIILjava/lang/Void;)V" } : Jvm.MethodName) jdk_42_method_149_code (6 : Nat) (Option.none : Option Jvm.ClassFile.FieldType)).before args0 about1 = true := code_word (m := ⟨7, 4⟩) (meth := k7m4) (c := k7c4) (by decide +kernel) rfl rfl rfl (by decide +kernel)
set_option maxRecDepth 65536 in
theorem w_c4 : (Jvm.Cond.code ({ cls := "java/lang/Object", name := "<init>", desc := "()V" } : Jvm.MethodName) object_method_1_code (1 : Nat) (Option.none : Option Jvm.ClassFile.FieldType)).before args0 about1 = true := code_word (m := ⟨0, 0⟩) (meth := k0m0) (c := k0c0) (by decide +kernel) rfl rfl rfl (by decide +kernel)
set_option maxRecDepth 65536 in
theorem w_c5 : (Jvm.Cond.code ({ cls := "java/lang/StringUTF16", name := "compress", desc := "([CII)[B" } : Jvm.MethodName) jdk_52_method_16_code (6 : Nat) (Option.some (Jvm.ClassFile.FieldType.array Jvm.ClassFile.FieldType.byte))).before args0 about1 = true := code_word (m := ⟨8, 2⟩) (meth := k8m2) (c := k8c2) (by decide +kernel) rfl rfl rfl (by decide +kernel)
set_option maxRecDepth 65536 in
theorem w_c6 : (Jvm.Cond.code ({ cls := "java/lang/StringUTF16", name := "compress", desc := "([CI[BII)I" } : Jvm.MethodName) jdk_52_method_21_code (7 : Nat) (Option.some Jvm.ClassFile.FieldType.int)).before args0 about1 = true := code_word (m := ⟨8, 3⟩) (meth := k8m3) (c := k8c3) (by decide +kernel) rfl rfl rfl (by decide +kernel)
set_option maxRecDepth 65536 in
theorem w_c7 : (Jvm.Cond.code ({ cls := "java/lang/StringUTF16", name := "coderFromArrayLen", desc := "([BI)B" } : Jvm.MethodName) jdk_52_method_15_code (2 : Nat) (Option.some Jvm.ClassFile.FieldType.byte)).before args0 about1 = true := code_word (m := ⟨8, 1⟩) (meth := k8m1) (c := k8c1) (by decide +kernel) rfl rfl rfl (by decide +kernel)
set_option maxRecDepth 65536 in
theorem w_c8 : (Jvm.Cond.code ({ cls := "com/example/reckon/reckon/core/RequestData$Root", name := "named", desc := "(Ljava/lang/String;)Lcom/example/reckon/reckon/core/RequestData$Root;" } : Jvm.MethodName) prog_52_method_4_code (6 : Nat) (Option.some (Jvm.ClassFile.FieldType.object "com/example/reckon/reckon/core/RequestData$Root"))).before args0 about1 = true := code_word (m := ⟨10, 1⟩) (meth := k10m1) (c := k10c1) (by decide +kernel) rfl rfl rfl (by decide +kernel)
set_option maxRecDepth 65536 in
theorem w_c9 : (Jvm.Cond.code ({ cls := "com/example/reckon/reckon/core/RequestData$Root", name := "values", desc := "()[Lcom/example/reckon/reckon/core/RequestData$Root;" } : Jvm.MethodName) prog_52_method_1_code (0 : Nat) (Option.some (Jvm.ClassFile.FieldType.array (Jvm.ClassFile.FieldType.object "com/example/reckon/reckon/core/RequestData$Root")))).before args0 about1 = true := code_word (m := ⟨10, 0⟩) (meth := k10m0) (c := k10c0) (by decide +kernel) rfl rfl rfl (by decide +kernel)
set_option maxRecDepth 65536 in
theorem w_c10 : (Jvm.Cond.code ({ cls := "java/lang/String", name := "equals", desc := "(Ljava/lang/Object;)Z" } : Jvm.MethodName) jdk_42_method_66_code (3 : Nat) (Option.some Jvm.ClassFile.FieldType.boolean)).before args0 about1 = true := code_word (m := ⟨7, 2⟩) (meth := k7m2) (c := k7c2) (by decide +kernel) rfl rfl rfl (by decide +kernel)
set_option maxRecDepth 65536 in
theorem w_c11 : (Jvm.Cond.code ({ cls := "java/lang/StringLatin1", name := "equals", desc := "([B[B)Z" } : Jvm.MethodName) jdk_43_method_13_code (3 : Nat) (Option.some Jvm.ClassFile.FieldType.boolean)).before args0 about1 = true := code_word (m := ⟨12, 2⟩) (meth := k12m2) (c := k12c2) (by decide +kernel) rfl rfl rfl (by decide +kernel)
set_option maxRecDepth 65536 in
theorem w_c12 : (Jvm.Cond.code ({ cls := "com/example/reckon/reckon/core/RootNamedPinLaw", name := "ref", desc := "(Ljava/lang/String;)Lcom/example/reckon/reckon/core/RequestData$Root;" } : Jvm.MethodName) method_3_code (1 : Nat) (Option.some (Jvm.ClassFile.FieldType.object "com/example/reckon/reckon/core/RequestData$Root"))).before args0 about1 = true := code_word (m := ⟨1, 2⟩) (meth := k1m2) (c := k1c2) (by decide +kernel) rfl rfl rfl (by decide +kernel)
set_option maxRecDepth 65536 in
theorem w_c13 : (Jvm.Cond.code ({ cls := "com/example/reckon/reckon/core/RootNamedPinLaw", name := "extended", desc := "(IC)Ljava/lang/String;" } : Jvm.MethodName) method_7_code (3 : Nat) (Option.some (Jvm.ClassFile.FieldType.object "java/lang/String"))).before args0 about1 = true := code_word (m := ⟨1, 6⟩) (meth := k1m6) (c := k1c6) (by decide +kernel) rfl rfl rfl (by decide +kernel)
set_option maxRecDepth 65536 in
theorem w_c14 : (Jvm.Cond.code ({ cls := "com/example/reckon/reckon/core/RootNamedPinLaw", name := "name", desc := "(I)Ljava/lang/String;" } : Jvm.MethodName) method_4_code (1 : Nat) (Option.some (Jvm.ClassFile.FieldType.object "java/lang/String"))).before args0 about1 = true := code_word (m := ⟨1, 3⟩) (meth := k1m3) (c := k1c3) (by decide +kernel) rfl rfl rfl (by decide +kernel)
set_option maxRecDepth 65536 in
theorem w_c15 : (Jvm.Cond.code ({ cls := "java/lang/String", name := "valueOf", desc := "(C)Ljava/lang/String;" } : Jvm.MethodName) jdk_42_method_139_code (1 : Nat) (Option.some (Jvm.ClassFile.FieldType.object "java/lang/String"))).before args0 about1 = true := code_word (m := ⟨7, 3⟩) (meth := k7m3) (c := k7c3) (by decide +kernel) rfl rfl rfl (by decide +kernel)
set_option maxRecDepth 65536 in
theorem w_c16 : (Jvm.Cond.code ({ cls := "java/lang/StringLatin1", name := "canEncode", desc := "(C)Z" } : Jvm.MethodName) jdk_43_method_3_code (1 : Nat) (Option.some Jvm.ClassFile.FieldType.boolean)).before args0 about1 = true := code_word (m := ⟨12, 1⟩) (meth := k12m1) (c := k12c1) (by decide +kernel) rfl rfl rfl (by decide +kernel)
set_option maxRecDepth 65536 in
theorem w_c17 : (Jvm.Cond.code ({ cls := "java/lang/StringLatin1", name := "toBytes", desc := "(C)[B" } : Jvm.MethodName) jdk_43_method_46_code (1 : Nat) (Option.some (Jvm.ClassFile.FieldType.array Jvm.ClassFile.FieldType.byte))).before args0 about1 = true := code_word (m := ⟨12, 3⟩) (meth := k12m3) (c := k12c3) (by decide +kernel) rfl rfl rfl (by decide +kernel)
set_option maxRecDepth 65536 in
theorem w_c18 : (Jvm.Cond.code ({ cls := "java/lang/String", name := "<init>", desc := "([BB)V" } : Jvm.MethodName) jdk_42_method_151_code (3 : Nat) (Option.none : Option Jvm.ClassFile.FieldType)).before args0 about1 = true := code_word (m := ⟨7, 5⟩) (meth := k7m5) (c := k7c5) (by decide +kernel) rfl rfl rfl (by decide +kernel)
set_option maxRecDepth 65536 in
theorem w_c19 : (Jvm.Cond.code ({ cls := "com/example/reckon/reckon/core/RootNamedPinLaw", name := "truncated", desc := "(I)Ljava/lang/String;" } : Jvm.MethodName) method_5_code (1 : Nat) (Option.some (Jvm.ClassFile.FieldType.object "java/lang/String"))).before args0 about1 = true := code_word (m := ⟨1, 4⟩) (meth := k1m4) (c := k1c4) (by decide +kernel) rfl rfl rfl (by decide +kernel)
def codes1 : List Jvm.Cond := [Jvm.Cond.code x code maxLocals ret, Jvm.Cond.code ({ cls := "com/example/reckon/reckon/core/RootNamedPinLaw", name := "mutated", desc := "(IIC)Ljava/lang/String;" } : Jvm.MethodName) method_6_code (4 : Nat) (Option.some (Jvm.ClassFile.FieldType.object "java/lang/String")), Jvm.Cond.code ({ cls := "java/lang/String", name := "<init>", desc := "([C)V" } : Jvm.MethodName) jdk_42_method_3_code (2 : Nat) (Option.none : Option Jvm.ClassFile.FieldType), Jvm.Cond.code ({ cls := "java/lang/String", name := "<init>", desc := "([CIILjava/lang/Void;)V" } : Jvm.MethodName) jdk_42_method_149_code (6 : Nat) (Option.none : Option Jvm.ClassFile.FieldType), Jvm.Cond.code ({ cls := "java/lang/Object", name := "<init>", desc := "()V" } : Jvm.MethodName) object_method_1_code (1 : Nat) (Option.none : Option Jvm.ClassFile.FieldType), Jvm.Cond.code ({ cls := "java/lang/StringUTF16", name := "compress", desc := "([CII)[B" } : Jvm.MethodName) jdk_52_method_16_code (6 : Nat) (Option.some (Jvm.ClassFile.FieldType.array Jvm.ClassFile.FieldType.byte)), Jvm.Cond.code ({ cls := "java/lang/StringUTF16", name := "compress", desc := "([CI[BII)I" } : Jvm.MethodName) jdk_52_method_21_code (7 : Nat) (Option.some Jvm.ClassFile.FieldType.int), Jvm.Cond.code ({ cls := "java/lang/StringUTF16", name := "coderFromArrayLen", desc := "([BI)B" } : Jvm.MethodName) jdk_52_method_15_code (2 : Nat) (Option.some Jvm.ClassFile.FieldType.byte), Jvm.Cond.code ({ cls := "com/example/reckon/reckon/core/RequestData$Root", name := "named", desc := "(Ljava/lang/String;)Lcom/example/reckon/reckon/core/RequestData$Root;" } : Jvm.MethodName) prog_52_method_4_code (6 : Nat) (Option.some (Jvm.ClassFile.FieldType.object "com/example/reckon/reckon/core/RequestData$Root")), Jvm.Cond.code ({ cls := "com/example/reckon/reckon/core/RequestData$Root", name := "values", desc := "()[Lcom/example/reckon/reckon/core/RequestData$Root;" } : Jvm.MethodName) prog_52_method_1_code (0 : Nat) (Option.some (Jvm.ClassFile.FieldType.array (Jvm.ClassFile.FieldType.object "com/example/reckon/reckon/core/RequestData$Root"))), Jvm.Cond.code ({ cls := "java/lang/String", name := "equals", desc := "(Ljava/lang/Object;)Z" } : Jvm.MethodName) jdk_42_method_66_code (3 : Nat) (Option.some Jvm.ClassFile.FieldType.boolean), Jvm.Cond.code ({ cls := "java/lang/StringLatin1", name := "equals", desc := "([B[B)Z" } : Jvm.MethodName) jdk_43_method_13_code (3 : Nat) (Option.some Jvm.ClassFile.FieldType.boolean), Jvm.Cond.code ({ cls := "com/example/reckon/reckon/core/RootNamedPinLaw", name := "ref", desc := "(Ljava/lang/String;)Lcom/example/reckon/reckon/core/RequestData$Root;" } : Jvm.MethodName) method_3_code (1 : Nat) (Option.some (Jvm.ClassFile.FieldType.object "com/example/reckon/reckon/core/RequestData$Root")), Jvm.Cond.code ({ cls := "com/example/reckon/reckon/core/RootNamedPinLaw", name := "extended", desc := "(IC)Ljava/lang/String;" } : Jvm.MethodName) method_7_code (3 : Nat) (Option.some (Jvm.ClassFile.FieldType.object "java/lang/String")), Jvm.Cond.code ({ cls := "com/example/reckon/reckon/core/RootNamedPinLaw", name := "name", desc := "(I)Ljava/lang/String;" } : Jvm.MethodName) method_4_code (1 : Nat) (Option.some (Jvm.ClassFile.FieldType.object "java/lang/String")), Jvm.Cond.code ({ cls := "java/lang/String", name := "valueOf", desc := "(C)Ljava/lang/String;" } : Jvm.MethodName) jdk_42_method_139_code (1 : Nat) (Option.some (Jvm.ClassFile.FieldType.object "java/lang/String")), Jvm.Cond.code ({ cls := "java/lang/StringLatin1", name := "canEncode", desc := "(C)Z" } : Jvm.MethodName) jdk_43_method_3_code (1 : Nat) (Option.some Jvm.ClassFile.FieldType.boolean), Jvm.Cond.code ({ cls := "java/lang/StringLatin1", name := "toBytes", desc := "(C)[B" } : Jvm.MethodName) jdk_43_method_46_code (1 : Nat) (Option.some (Jvm.ClassFile.FieldType.array Jvm.ClassFile.FieldType.byte)), Jvm.Cond.code ({ cls := "java/lang/String", name := "<init>", desc := "([BB)V" } : Jvm.MethodName) jdk_42_method_151_code (3 : Nat) (Option.none : Option Jvm.ClassFile.FieldType), Jvm.Cond.code ({ cls := "com/example/reckon/reckon/core/RootNamedPinLaw", name := "truncated", desc := "(I)Ljava/lang/String;" } : Jvm.MethodName) method_5_code (1 : Nat) (Option.some (Jvm.ClassFile.FieldType.object "java/lang/String"))]
set_option maxRecDepth 65536 in
theorem codes_eq : words1.filter isCode = codes1 := rfl
theorem w_codes : ∀ c ∈ words1.filter isCode, c.before args0 about1 = true := by
  rw [codes_eq]
  intro c hc
  simp only [codes1, List.mem_cons, List.not_mem_nil, or_false] at hc
  rcases hc with rfl | rfl | rfl | rfl | rfl | rfl | rfl | rfl | rfl | rfl | rfl | rfl | rfl | rfl | rfl | rfl | rfl | rfl | rfl | rfl
  · exact w_c0
  · exact w_c1
  · exact w_c2
  · exact w_c3
  · exact w_c4
  · exact w_c5
  · exact w_c6
  · exact w_c7
  · exact w_c8
  · exact w_c9
  · exact w_c10
  · exact w_c11
  · exact w_c12
  · exact w_c13
  · exact w_c14
  · exact w_c15
  · exact w_c16
  · exact w_c17
  · exact w_c18
  · exact w_c19
set_option maxRecDepth 65536 in
theorem w_t1 : (words1.take 24).all (fun c => isCode c || c.before args0 about1) = true := by decide +kernel
set_option maxRecDepth 65536 in
theorem w_t2 : ((words1.drop 24).take 24).all (fun c => isCode c || c.before args0 about1) = true := by decide +kernel
set_option maxRecDepth 65536 in
theorem w_t3 : (((words1.drop 24).drop 24).take 24).all (fun c => isCode c || c.before args0 about1) = true := by decide +kernel
set_option maxRecDepth 65536 in
theorem w_t4 : ((((words1.drop 24).drop 24).drop 24).take 24).all (fun c => isCode c || c.before args0 about1) = true := by decide +kernel
set_option maxRecDepth 65536 in
theorem w_t5 : ((((words1.drop 24).drop 24).drop 24).drop 24).all (fun c => isCode c || c.before args0 about1) = true := by decide +kernel
theorem w_tables : (allAtoms (Jvm.Cond.code x code maxLocals ret :: tables_1)).before args0 about1 = true := by
  rw [allAtoms_all]
  show words1.all (fun c => c.before args0 about1) = true
  refine all_split ?_ w_codes
  rw [← List.take_append_drop 24 words1, List.all_append, w_t1, ← List.take_append_drop 24 (words1.drop 24), List.all_append, w_t2, ← List.take_append_drop 24 ((words1.drop 24).drop 24), List.all_append, w_t3, ← List.take_append_drop 24 (((words1.drop 24).drop 24).drop 24), List.all_append, w_t4, w_t5]
  rfl
set_option maxRecDepth 65536 in
theorem w_rest : rest_1_c.before args0 about1 = true := by decide +kernel
set_option maxRecDepth 65536 in
theorem w_case : (Jvm.Cond.and given_1 narrow_1).before args0 about1 = true := by decide +kernel
set_option maxRecDepth 65536 in
theorem w_consts : constsHeld consts_1 about1 := Jvm.Lit.constsHeldB_iff.mp (by decide +kernel)
theorem w_applies : (headSpec (Jvm.Cond.code x code maxLocals ret :: tables_1) room_1).applies x e0.platform about1 = true :=
  (Spec.applies_iff w_frames).mpr ⟨w_running, w_runnable, w_alone, w_named, w_hears, w_ripe, w_room, w_tables⟩
theorem atStart : AtStart classFile x code maxLocals ret World_1 tables_1 room_1 Calls_1 rest_1 Pre_1 launch0 p0 e0 about1 theMethod args0 below0 :=
  ⟨lists_1, trivial, launch0.admits_env _ _ _, launch0.least_env, fairChoices_fair.cas, fairChoices_fair.clock, w_frames, w_args, w_heap, w_applies, ⟨w_consts, trivial⟩, w_rest, w_case⟩
end start1
theorem witness_1 : WitnessClaimed_1 := ⟨start1.p0, start1.e0, start1.about1, start1.theMethod, start1.args0, start1.below0, start1.atStart⟩
end Jvm.Pilot.@@N@@
