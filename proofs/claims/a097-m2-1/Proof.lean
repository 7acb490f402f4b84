import JvmDerived
import JvmDerived.Pilot.@@N@@Statement
import JvmDerived.Pilot.@@N@@Code
set_option linter.unusedVariables false
set_option linter.unusedSimpArgs false
namespace Jvm.Wk
open Sem ClassFile Op Lib Jvm.Stand Jvm.Free Jvm.LawKit Jvm.RoadKit
/-! A small logic of walks: the heap above the law's start is a list of records, a walk is a predicate over (records, pc, locals, stack). -/
abbrev Key := String × String × String
abbrev Rec := (String × List Key × List Value) ⊕ (FieldType × List Value)
abbrev obj (C : String) (ks : List Key) (vs : List Value) : Rec := Sum.inl (C, ks, vs)
abbrev arr (t : FieldType) (vs : List Value) : Rec := Sum.inr (t, vs)
abbrev ints (xs : List Int32) : Rec := arr .int (xs.map Value.int)
abbrev longs (xs : List Int64) : Rec := arr .long (xs.map Value.long)
abbrev rf (hB : Heap) (i : Nat) : Value := .ref (hB.size + i)
def kslot (Z : State) (k : Key) : Nat := Jvm.RoadKit.slotOf Z k.1 k.2.1 k.2.2
def OvrT (Z : State) (cA : ClassId) (t : FieldType) : Prop := (∀ C, t = .object C → Ovr Z cA C) ∧ (∀ ty, t = .array ty → OvrA Z cA ty (FieldType.array ty).toString)
def RecAt (Z : State) (h : Heap) (a : Addr) : Rec → Prop
  | .inl (C, ks, vs) => Exa Z h a C ∧ Unt h a ∧ (∀ (i : Nat) (k : Key) (v : Value), ks[i]? = some k → vs[i]? = some v → Fld Z h a k.1 k.2.1 k.2.2 v) ∧ (∀ (i j : Nat) (k k' : Key), ks[i]? = some k → ks[j]? = some k' → i ≠ j → kslot Z k ≠ kslot Z k')
  | .inr (t, vs) => ∃ c : Cell, Arr Z h a c t ∧ c.slots = vs.toArray ∧ c.vm = .none ∧ Exa Z h a ("[" ++ t.toString) ∧ OvrT Z c.cls t ∧ ∀ v ∈ vs, fits t v = true
def Hp (Z : State) (hB h : Heap) (H : List Rec) : Prop := h.size = hB.size + H.length ∧ (∀ (a : Addr) (c : Cell), hB[a]? = some c → h[a]? = some c) ∧ ∀ (i : Nat) (r : Rec), H[i]? = some r → RecAt Z h (hB.size + i) r
section Heaps
variable {Z : State} {hB h h' : Heap} {H : List Rec} {a b : Addr} {r : Rec} {sl : Nat} {v : Value}
theorem RecAt.ext (E : Ext h h') : ∀ {r : Rec}, RecAt Z h a r → RecAt Z h' a r
  | .inl _, F => ⟨F.1.ext E, F.2.1.ext E, fun i k v h1 h2 => (F.2.2.1 i k v h1 h2).ext E, F.2.2.2⟩
  | .inr _, F => by
    obtain ⟨c, h1, h2, h3, h5, h6⟩ := F
    exact ⟨c, h1.ext E, h2, h3, h5.ext E, h6⟩
theorem RecAt.other (W : Wr h h' b sl v) (hne : a ≠ b) : ∀ {r : Rec}, RecAt Z h a r → RecAt Z h' a r
  | .inl _, F => ⟨F.1.wr W, F.2.1.wr W, fun i k v h1 h2 => (F.2.2.1 i k v h1 h2).other W (Or.inl hne), F.2.2.2⟩
  | .inr _, F => by
    obtain ⟨c, h1, h2, h3, h5, h6⟩ := F
    exact ⟨c, h1.other W hne, h2, h3, h5.wr W, h6⟩
theorem RecAt.lt : ∀ {r : Rec}, RecAt Z h a r → a < h.size
  | .inl _, F => F.1.lt
  | .inr _, F => by obtain ⟨c, h1, -⟩ := F; exact h1.lt
theorem Hp.toExt (P : Hp Z hB h H) : Ext hB h := ⟨by rw [P.1]; exact Nat.le_add_right _ _, P.2.1⟩
theorem Hp.start (Z : State) (hB : Heap) : Hp Z hB hB [] := ⟨rfl, fun _ _ q => q, fun i r q => by cases q⟩
theorem Hp.at (P : Hp Z hB h H) {i : Nat} (q : H[i]? = some r) : RecAt Z h (hB.size + i) r := P.2.2 i r q
theorem Hp.setR (P : Hp Z hB h H) {i : Nat} {r r' : Rec} (q : H[i]? = some r) (W : Wr h h' (hB.size + i) sl v) (F : RecAt Z h' (hB.size + i) r') : Hp Z hB h' (H.set i r') := by
  refine ⟨by rw [W.size, P.1, List.length_set], fun a c ha => ?_, fun j r2 hj => ?_⟩
  · obtain ⟨c', e1, -, -, -, e5, -⟩ := wr_at W (P.2.1 a c ha)
    have : a < hB.size := (Array.getElem?_eq_some_iff.mp ha).1
    rw [e1, e5 fun q => absurd this (by rw [q]; exact Nat.not_lt.mpr (Nat.le_add_right _ _))]
  · rw [List.getElem?_set] at hj
    split at hj
    · rename_i e
      subst e
      split at hj
      · cases hj; exact F
      · cases hj
    · rename_i e
      exact (P.2.2 j r2 hj).other W fun q => e (Nat.add_left_cancel q).symm
theorem Hp.wrO (P : Hp Z hB h H) {i j : Nat} {C : String} {ks : List Key} {vs : List Value} {k : Key} (q : H[i]? = some (obj C ks vs)) (hk : ks[j]? = some k) (hj : j < vs.length) (W : Wr h h' (hB.size + i) (kslot Z k) v) : Hp Z hB h' (H.set i (obj C ks (vs.set j v))) := by
  obtain ⟨f1, f2, f3, f4⟩ := P.at q
  refine P.setR q W ⟨f1.wr W, f2.wr W, fun i' k' v' h1 h2 => ?_, f4⟩
  by_cases e : j = i'
  · subst e
    rw [List.getElem?_set_self hj] at h2
    cases h2
    cases hk.symm.trans h1
    exact (f3 j k vs[j] hk (List.getElem?_eq_getElem hj)).same W
  · rw [List.getElem?_set_ne e] at h2
    exact (f3 i' k' v' h1 h2).other W (Or.inr (f4 i' j k' k h1 hk (Ne.symm e)))
theorem Hp.wrA (P : Hp Z hB h H) {i j : Nat} {t : FieldType} {vs : List Value} (q : H[i]? = some (arr t vs)) (hf : fits t v = true) (W : Wr h h' (hB.size + i) j v) : Hp Z hB h' (H.set i (arr t (vs.set j v))) := by
  obtain ⟨c, h1, h2, h3, h5, h6, h7⟩ := P.at q
  refine P.setR q W ⟨c.setSlot j v, h1.same W, ?_, h3, h5.wr W, h6, fun w hw => ?_⟩
  · show c.slots.setIfInBounds j v = _
    rw [h2]; simp
  · rcases List.mem_or_eq_of_mem_set hw with z | z
    · exact h7 w z
    · rw [z]; exact hf
theorem Hp.push (P : Hp Z hB h H) (E : Ext h h') (hs : h'.size ≤ h.size + 1) (F : RecAt Z h' h.size r) : Hp Z hB h' (H ++ [r]) := by
  have hlt : Array.size h < Array.size h' := F.lt
  refine ⟨by rw [List.length_append, List.length_singleton]; have := P.1; omega, fun a c ha => E.2 _ _ (P.2.1 a c ha), fun i r2 hi => ?_⟩
  rw [List.getElem?_append] at hi
  split at hi
  · exact (P.2.2 i r2 hi).ext E
  · rename_i e
    have hl := P.1
    obtain ⟨h1, h2⟩ := List.getElem?_eq_some_iff.mp hi
    simp only [List.length_singleton] at h1
    have e2 : i = H.length := by omega
    subst e2
    simp only [Nat.sub_self, List.getElem_cons_zero] at h2
    subst h2
    rw [← hl]; exact F
theorem Hp.fld (P : Hp Z hB h H) {i j : Nat} {C O n d : String} {ks : List Key} {vs : List Value} (q : H[i]? = some (obj C ks vs)) (hk : ks[j]? = some (O, n, d)) (hv : vs[j]? = some v) : Fld Z h (hB.size + i) O n d v := (P.at q).2.2.1 j _ v hk hv
theorem Hp.exa (P : Hp Z hB h H) {i : Nat} {C : String} {ks : List Key} {vs : List Value} (q : H[i]? = some (obj C ks vs)) : Exa Z h (hB.size + i) C := (P.at q).1
theorem Hp.exaA (P : Hp Z hB h H) {i : Nat} {t : FieldType} {vs : List Value} {C : String} (q : H[i]? = some (arr t vs)) (hC : "[" ++ t.toString = C) : Exa Z h (hB.size + i) C := by
  obtain ⟨c, -, -, -, h5, -⟩ := P.at q
  exact hC ▸ h5
theorem RecAt.congr (e : h'[a]? = h[a]?) : ∀ {r : Rec}, RecAt Z h a r → RecAt Z h' a r
  | .inl _, F => by
    obtain ⟨⟨c1, k1, f1, f2⟩, ⟨c2, g1, g2⟩, F3, F4⟩ := F
    refine ⟨⟨c1, k1, e.trans f1, f2⟩, ⟨c2, e.trans g1, g2⟩, fun i k v h1 h2 => ?_, F4⟩
    obtain ⟨c, cf, kk, i', f, q, r⟩ := F3 i k v h1 h2
    exact ⟨c, cf, kk, i', f, e.trans q, r⟩
  | .inr _, F => by
    obtain ⟨c, ⟨h1, h1'⟩, h2, h3, ⟨c5, k5, h5, h5'⟩, h6⟩ := F
    exact ⟨c, ⟨e.trans h1, h1'⟩, h2, h3, ⟨c5, k5, e.trans h5, h5'⟩, h6⟩
theorem toNat_len {n : Nat} (h : n < 2 ^ 31) : n.toInt32.toNatClampNeg = n ∧ ¬ n.toInt32 < 0 := by
  refine ⟨by simp only [Int32.toNatClampNeg, len_toInt h]; omega, ?_⟩
  rw [Int32.lt_iff_toInt_lt, len_toInt h]; have : (0 : Int32).toInt = 0 := rfl; omega
theorem Hp.arv (P : Hp Z hB h H) {i : Nat} {t : FieldType} {vs : List Value} (q : H[i]? = some (arr t vs)) (hl : vs.length < 2 ^ 31) (d : Value) : ∃ k, Arv Z h (hB.size + i) k t vs.length.toInt32 vs d := by
  obtain ⟨c, h1, h2, h3, h5, h6, h7⟩ := P.at q
  have hs : c.slots.size = vs.length := by rw [h2, List.size_toArray]
  refine ⟨c.cls, c, h1, rfl, by rw [hs, (toNat_len hl).1], (toNat_len hl).2, fun k hk => ?_, fun k hk => ?_⟩
  · rw [hs] at hk
    rw [h2, List.getElem?_toArray, List.getElem?_eq_getElem hk, List.getD_eq_getElem?_getD, List.getElem?_eq_getElem hk]; rfl
  · rw [hs] at hk
    rw [List.getD_eq_getElem?_getD, List.getElem?_eq_getElem hk]; exact h7 _ (List.getElem_mem hk)
theorem Hp.copied (P : Hp Z hB h H) {i : Nat} {t : FieldType} {vs vs' : List Value} {k : ClassId} {d : Value} (q : H[i]? = some (arr t vs)) (hz : h'.size ≤ h.size) (K : Keep h h' [hB.size + i]) (hl : vs.length < 2 ^ 31) (hlen : vs'.length = vs.length) (A : Arv Z h' (hB.size + i) k t vs.length.toInt32 vs' d) : Hp Z hB h' (H.set i (arr t vs')) := by
  refine ⟨by rw [List.length_set, ← P.1]; exact Nat.le_antisymm hz K.1, fun a c ha => ?_, fun j r2 hj => ?_⟩
  · have : a < hB.size := (Array.getElem?_eq_some_iff.mp ha).1
    exact K.2.1 a c (P.2.1 a c ha) (by simp only [List.mem_singleton]; intro e; rw [e] at this; exact absurd this (Nat.not_lt.mpr (Nat.le_add_right _ _)))
  · by_cases e : i = j
    · subst e
      have hi := (List.getElem?_eq_some_iff.mp q).1
      rw [List.getElem?_set_self hi] at hj
      cases hj
      obtain ⟨c, h1, h2, h3, h5, h6, h7⟩ := P.at q
      obtain ⟨c', a1, a2, a3, a4, a5, a6⟩ := A
      obtain ⟨c2, b1, b2, b3, b4⟩ := K.2.2 _ c h1.1
      cases a1.1.symm.trans b1
      have hs : c'.slots.size = vs'.length := by rw [a3, (toNat_len hl).1, hlen]
      refine ⟨c', a1, ?_, b3.trans h3, h5.keep K, b2 ▸ h6, fun v hv => ?_⟩
      · apply Array.ext_getElem?
        intro n
        by_cases hn : n < c'.slots.size
        · rw [a5 n hn, List.getElem?_toArray, List.getD_eq_getElem?_getD, List.getElem?_eq_getElem (hs ▸ hn)]; rfl
        · rw [Array.getElem?_eq_none (Nat.le_of_not_lt hn), List.getElem?_toArray, List.getElem?_eq_none (by omega)]
      · obtain ⟨n, hn, rfl⟩ := List.getElem_of_mem hv
        have := a6 n (by omega)
        rw [List.getD_eq_getElem?_getD, List.getElem?_eq_getElem hn] at this; exact this
    · rw [List.getElem?_set_ne e] at hj
      have R := P.2.2 j r2 hj
      refine R.congr ?_
      obtain ⟨cj, hcj⟩ : ∃ c, h[hB.size + j]? = some c := ⟨_, Array.getElem?_eq_getElem R.lt⟩
      rw [hcj]; exact K.2.1 _ _ hcj (by simp only [List.mem_singleton]; intro q; exact e (Nat.add_left_cancel q).symm)
end Heaps
/-- what an array's place holds; an array with one place set -/
def gI (l : List Int32) (i : Int32) : Option Int32 := if i < 0 then none else l[i.toNatClampNeg]?
def sI (l : List Int32) (i x : Int32) : Option (List Int32) := if i < 0 then none else if i.toNatClampNeg < l.length then some (l.set i.toNatClampNeg x) else none
theorem gI_at {l : List Int32} {i x : Int32} (h : gI l i = some x) : ¬ i < 0 ∧ l[i.toNatClampNeg]? = some x := by
  unfold gI at h; split at h
  · cases h
  · rename_i q; exact ⟨q, h⟩
theorem sI_at {l l' : List Int32} {i x : Int32} (h : sI l i x = some l') : ¬ i < 0 ∧ i.toNatClampNeg < l.length ∧ l' = l.set i.toNatClampNeg x := by
  unfold sI at h; split at h
  · cases h
  · rename_i q; split at h
    · rename_i r; cases h; exact ⟨q, r, rfl⟩
    · cases h
def sJ (l : List Int64) (i : Int32) (x : Int64) : Option (List Int64) := if i < 0 then none else if i.toNatClampNeg < l.length then some (l.set i.toNatClampNeg x) else none
theorem sJ_at {l l' : List Int64} {i : Int32} {x : Int64} (h : sJ l i x = some l') : ¬ i < 0 ∧ i.toNatClampNeg < l.length ∧ l' = l.set i.toNatClampNeg x := by
  unfold sJ at h; split at h
  · cases h
  · rename_i q; split at h
    · rename_i r; cases h; exact ⟨q, r, rfl⟩
    · cases h
/-- one of several rows -/
def gR (l : List (List Int32)) (i : Int32) : Option (List Int32) := if i < 0 then none else l[i.toNatClampNeg]?
theorem gR_at {l : List (List Int32)} {i : Int32} {x : List Int32} (h : gR l i = some x) : ¬ i < 0 ∧ l[i.toNatClampNeg]? = some x := by
  unfold gR at h; split at h
  · cases h
  · rename_i q; exact ⟨q, h⟩
/-! lists of records in parts: F, G, then M -/
theorem getT {F G M : List Rec} {k : Nat} {r : Rec} (h : M[k]? = some r) : (F ++ (G ++ M))[F.length + G.length + k]? = some r := by
  rw [List.getElem?_append_right (by omega), List.getElem?_append_right (by omega)]
  rw [show F.length + G.length + k - F.length - G.length = k from by omega]; exact h
theorem setT {F G M : List Rec} {k : Nat} {r : Rec} : (F ++ (G ++ M)).set (F.length + G.length + k) r = F ++ (G ++ M.set k r) := by
  rw [List.set_append_right _ _ (by omega), List.set_append_right _ _ (by omega)]
  rw [show F.length + G.length + k - F.length - G.length = k from by omega]
theorem pushT {F G M : List Rec} {r : Rec} : F ++ (G ++ M) ++ [r] = F ++ (G ++ (M ++ [r])) := by simp [List.append_assoc]
theorem lenT {F G M : List Rec} : (F ++ (G ++ M)).length = F.length + G.length + M.length := by simp [Nat.add_assoc]
theorem getE {M K : List Rec} {e : Rec} {n : Nat} (h : M.length = n) : (M ++ (K ++ [e]))[K.length + n]? = some e := by
  subst h; rw [List.getElem?_append_right (by omega), show K.length + M.length - M.length = K.length from by omega]; simp
theorem setTE {F G M K : List Rec} {e r : Rec} {n : Nat} (h : M.length = n) : (F ++ (G ++ (M ++ (K ++ [e])))).set (F.length + G.length + (K.length + n)) r = F ++ (G ++ (M ++ (K ++ [r]))) := by
  subst h
  rw [setT, List.set_append_right _ _ (by omega), show K.length + M.length - M.length = K.length from by omega]; simp
theorem pushTK {F G M K : List Rec} {r : Rec} : F ++ (G ++ (M ++ K)) ++ [r] = F ++ (G ++ (M ++ (K ++ [r]))) := by simp [List.append_assoc]
theorem setSelf {H : List Rec} {i : Nat} {r : Rec} (h : H[i]? = some r) : H.set i r = H := by
  obtain ⟨h1, h2⟩ := List.getElem?_eq_some_iff.mp h
  rw [← h2]; exact List.set_getElem_self h1
section Walk
/-- the walk comes to its return -/
def Done (Z : State) (hB : Heap) (R : Room) (Q : Option Value → List Rec → Prop) (p : Program) (e : Env) (s : State) (below : List Frame) (S0 : State) : Prop :=
  ∃ U o, Steps p.tables e below S0 U ∧ U.status = .running ∧ Ended U below o ∧ ∃ v L H', o = .returned v ∧ Q v H' ∧ Hp Z hB U.heap H' ∧ Fr hB.size L ∧ FrameEnd s o U L R.cells R.slots
def Cx (Z : State) (hB : Heap) (y : MethodName) (bytes : ByteArray) (ml : Nat) (ret : Option FieldType) (n1 : Nat) (p : Program) (s : State) (m : MethodId) (meth : Method) (c : Code) : Prop :=
  p.tables.exec = Jvm.exec ∧ Z.Warmed39 s.vm ∧ c.code = bytes ∧ c.maxLocals = ml ∧ s.vm.findClass y.cls = some m.cls ∧ meth.name = y.name ∧ meth.sig.returnType = ret ∧ meth.locks = false ∧ s.heap.size = hB.size + n1
def WP (l : Launch) (Z : State) (hB : Heap) (y : MethodName) (bytes : ByteArray) (ml : Nat) (ret : Option FieldType) (R : Room) (n1 : Nat) (Q : Option Value → List Rec → Prop) (sl : Nat) (H : List Rec) (pc : Nat) (Ls : Array Slot) (st : List Value) : Prop :=
  ∀ p e s m args below meth c, Cx Z hB y bytes ml ret n1 p s m meth c → ∀ T locs cells slots, Stand p l e R s m args below meth c T locs cells slots → Fr hB.size locs → Hp Z hB T.heap H → slots ≤ sl →
    Done Z hB R Q p e s below (T.setTop (mkF m pc Ls st))
/-- a method's contract at given arguments and records -/
def Ctr (l : Launch) (Z : State) (hB : Heap) (y : MethodName) (bytes : ByteArray) (ml : Nat) (ret : Option FieldType) (ws : List Jvm.Cond) (rm : Room) (as' : Array Value) (H : List Rec) (Q : Option Value → List Rec → Prop) : Prop :=
  MetFree l y (head1 (Jvm.Cond.code y bytes ml ret :: ws) rm) (fun a U => a = as' ∧ Z.Warmed39 U.vm ∧ Hp Z hB U.heap H) (fun _ _ _ _ _ => True)
    (fun _ U o U' => ∃ v L H', o = .returned v ∧ Q v H' ∧ Hp Z hB U'.heap H' ∧ Fr hB.size L ∧ FrameEnd U o U' L rm.cells rm.slots)
variable {l : Launch} {Z : State} {hB : Heap} {y : MethodName} {bytes : ByteArray} {ml : Nat} {ret : Option FieldType} {R : Room} {n1 : Nat} {Q : Option Value → List Rec → Prop} {sl : Nat} {H H' : List Rec} {pc pc' : Nat} {Ls Ls' : Array Slot} {st st' rest : List Value} {a0 : Array Value}
theorem exact' {p : Program} {l : Launch} {e : Env} {R : Room} {s : State} {m : MethodId} {args : Array Value} {below : List Frame} {meth : Method} {c : Code} {T : State} {locs : List Loc} {cells slots : Nat} (X : Stand p l e R s m args below meth c T locs cells slots) {k : Nat} (hk : T.heap.size ≤ s.heap.size + k) : Stand p l e R s m args below meth c T locs k slots :=
  { X with same := ⟨X.same.1, X.same.2.1, hk, X.same.2.2.2⟩ }
theorem ctr {ws : List Jvm.Cond} {as' : Array Value} (hpn : plainFor y = true) (ef : ∀ m, entryFrame m as' ml = mkF m 0 Ls []) (h : WP l Z hB y bytes ml ret R H.length Q 0 H 0 Ls []) : Ctr l Z hB y bytes ml ret ws R as' H Q := by
  refine MetFree.of_bodySF hpn hisR ?_
  intro p e s m args below meth c s₁ Bd hml0 hP hK
  obtain ⟨rfl, hZ, hh⟩ := hP
  have X0 := Stand.of_body Bd
  have e0 : s₁.heap = s.heap := by rw [Bd.state]; rfl
  obtain ⟨U, o, st, h1, h2, v, L, H', ho, hq, hp, hf, hfe⟩ := h p e s m _ below meth c ⟨Bd.exec, hZ, Bd.bytes, hml0, findClass_of_methodNamed Bd.named, (name_of_methodNamed Bd.named Bd.method).1, Bd.returns, Bd.notSynchronized, hh.1⟩ s₁ [] 0 0 X0 (Fr.nil _) (by rw [e0]; exact hh) (Nat.zero_le _)
  exact ⟨U, o, castTop (ef m) st, h1, h2, v, L, H', ho, hq, hp, hf, hfe⟩
/-- a step that leaves the state as it is, but for the frame -/
theorem WP.step (k : ∀ (p : Program) (e : Env) (s : State) (m : MethodId) (args : Array Value) (below : List Frame) (meth : Method) (c : Code) (T : State) (locs : List Loc) (cells slots : Nat), Cx Z hB y bytes ml ret n1 p s m meth c → Stand p l e R s m args below meth c T locs cells slots → Hp Z hB T.heap H → ∀ target, Steps p.tables e below (T.setTop (mkF m pc' Ls' st')) target → Steps p.tables e below (T.setTop (mkF m pc Ls st)) target)
    (hr : WP l Z hB y bytes ml ret R n1 Q sl H pc' Ls' st') : WP l Z hB y bytes ml ret R n1 Q sl H pc Ls st := by
  intro p e s m args below meth c C T locs cells slots X N P hs
  obtain ⟨U, o, h1, h2⟩ := hr p e s m args below meth c C T locs cells slots X N P hs
  exact ⟨U, o, k p e s m args below meth c T locs cells slots C X P U h1, h2⟩
/-- a step that warms the tables -/
theorem WP.stepT (k : ∀ (p : Program) (e : Env) (s : State) (m : MethodId) (args : Array Value) (below : List Frame) (meth : Method) (c : Code) (T : State) (locs : List Loc) (cells slots : Nat), Cx Z hB y bytes ml ret n1 p s m meth c → Stand p l e R s m args below meth c T locs cells slots → Hp Z hB T.heap H → ∃ T', Stand p l e R s m args below meth c T' locs cells slots ∧ T'.heap = T.heap ∧ ∀ target, Steps p.tables e below (T'.setTop (mkF m pc' Ls' st')) target → Steps p.tables e below (T.setTop (mkF m pc Ls st)) target)
    (hr : WP l Z hB y bytes ml ret R n1 Q sl H pc' Ls' st') : WP l Z hB y bytes ml ret R n1 Q sl H pc Ls st := by
  intro p e s m args below meth c C T locs cells slots X N P hs
  obtain ⟨T', X', e', k'⟩ := k p e s m args below meth c T locs cells slots C X P
  obtain ⟨U, o, h1, h2⟩ := hr p e s m args below meth c C T' locs cells slots X' N (by rw [e']; exact P) hs
  exact ⟨U, o, k' U h1, h2⟩
/-- a step that moves the heap -/
theorem WP.stepH {sl' : Nat} (k : ∀ (p : Program) (e : Env) (s : State) (m : MethodId) (args : Array Value) (below : List Frame) (meth : Method) (c : Code) (T : State) (locs : List Loc) (cells slots : Nat), Cx Z hB y bytes ml ret n1 p s m meth c → Stand p l e R s m args below meth c T locs cells slots → T.heap.size = s.heap.size + cells → Fr hB.size locs → Hp Z hB T.heap H → slots ≤ sl →
      ∃ T' locs' cells' slots', Stand p l e R s m args below meth c T' locs' cells' slots' ∧ Fr hB.size locs' ∧ Hp Z hB T'.heap H' ∧ slots' ≤ sl' ∧ ∀ target, Steps p.tables e below (T'.setTop (mkF m pc' Ls' st')) target → Steps p.tables e below (T.setTop (mkF m pc Ls st)) target)
    (hr : WP l Z hB y bytes ml ret R n1 Q sl' H' pc' Ls' st') : WP l Z hB y bytes ml ret R n1 Q sl H pc Ls st := by
  intro p e s m args below meth c C T locs cells slots X N P hs
  have hz : T.heap.size = s.heap.size + (T.heap.size - s.heap.size) := by have := X.same.2.1; have : s.heap.size ≤ T.heap.size := this; omega
  obtain ⟨T', locs', cells', slots', X', N', P', hs', k'⟩ := k p e s m args below meth c T locs _ slots C (exact' X (Nat.le_of_eq hz)) hz N P hs
  obtain ⟨U, o, h1, h2⟩ := hr p e s m args below meth c C T' locs' cells' slots' X' N' P' hs'
  exact ⟨U, o, k' U h1, h2⟩
theorem WP.heap (e : H = H') (h : WP l Z hB y bytes ml ret R n1 Q sl H' pc Ls st) : WP l Z hB y bytes ml ret R n1 Q sl H pc Ls st := e ▸ h
theorem WP.monoQ {Q' : Option Value → List Rec → Prop} (hq : ∀ v H, Q v H → Q' v H) (h : WP l Z hB y bytes ml ret R n1 Q sl H pc Ls st) : WP l Z hB y bytes ml ret R n1 Q' sl H pc Ls st := by
  intro p e s m args below meth c C T locs cells slots X N P hs
  obtain ⟨U, o, h1, h2, h3, v, L, H', h4, h5, h6⟩ := h p e s m args below meth c C T locs cells slots X N P hs
  exact ⟨U, o, h1, h2, h3, v, L, H', h4, hq _ _ h5, h6⟩
theorem WP.mono {sl' : Nat} (hs : sl ≤ sl') (h : WP l Z hB y bytes ml ret R n1 Q sl' H pc Ls st) : WP l Z hB y bytes ml ret R n1 Q sl H pc Ls st := by
  intro p e s m args below meth c C T locs cells slots X N P hs'
  exact h p e s m args below meth c C T locs cells slots X N P (Nat.le_trans hs' hs)
theorem aloadN {k : Fin 4} {v : Value} (hd : decode bytes pc = .ok (.aload_n k, 1)) (hl : Ls[k.val]? = some (.val v)) (hv : v.isRef = true) (hp : pc + 1 = pc') (hr : WP l Z hB y bytes ml ret R n1 Q sl H pc' Ls (v :: st)) : WP l Z hB y bytes ml ret R n1 Q sl H pc Ls (st) := by
  subst hp
  exact WP.step (fun p e s m args below meth c T locs cells slots C X _ tgt h => XS.aloadN X.here C.1 rfl (hb C.2.2.1 hd) hl hv h) hr
theorem aload {k : Nat} {v : Value} (hd : decode bytes pc = .ok (.aload k, 2)) (hl : Ls[k]? = some (.val v)) (hv : v.isRef = true) (hp : pc + 2 = pc') (hr : WP l Z hB y bytes ml ret R n1 Q sl H pc' Ls (v :: st)) : WP l Z hB y bytes ml ret R n1 Q sl H pc Ls (st) := by
  subst hp
  exact WP.step (fun p e s m args below meth c T locs cells slots C X _ tgt h => XS.aload X.here C.1 rfl (hb C.2.2.1 hd) hl hv h) hr
theorem iloadN {k : Fin 4} {x : Int32} (hd : decode bytes pc = .ok (.iload_n k, 1)) (hl : Ls[k.val]? = some (.val (.int x))) (hp : pc + 1 = pc') (hr : WP l Z hB y bytes ml ret R n1 Q sl H pc' Ls (.int x :: st)) : WP l Z hB y bytes ml ret R n1 Q sl H pc Ls (st) := by
  subst hp
  exact WP.step (fun p e s m args below meth c T locs cells slots C X _ tgt h => XS.iloadN X.here C.1 rfl (hb C.2.2.1 hd) hl h) hr
theorem iload {k : Nat} {x : Int32} (hd : decode bytes pc = .ok (.iload k, 2)) (hl : Ls[k]? = some (.val (.int x))) (hp : pc + 2 = pc') (hr : WP l Z hB y bytes ml ret R n1 Q sl H pc' Ls (.int x :: st)) : WP l Z hB y bytes ml ret R n1 Q sl H pc Ls (st) := by
  subst hp
  exact WP.step (fun p e s m args below meth c T locs cells slots C X _ tgt h => XS.iload X.here C.1 rfl (hb C.2.2.1 hd) hl h) hr
theorem lloadN {k : Fin 4} {x : Int64} (hd : decode bytes pc = .ok (.lload_n k, 1)) (hl : Ls[k.val]? = some (.val (.long x))) (hp : pc + 1 = pc') (hr : WP l Z hB y bytes ml ret R n1 Q sl H pc' Ls (.long x :: st)) : WP l Z hB y bytes ml ret R n1 Q sl H pc Ls (st) := by
  subst hp
  exact WP.step (fun p e s m args below meth c T locs cells slots C X _ tgt h => XT.lloadN X.here C.1 rfl (hb C.2.2.1 hd) hl h) hr
theorem lload {k : Nat} {x : Int64} (hd : decode bytes pc = .ok (.lload k, 2)) (hl : Ls[k]? = some (.val (.long x))) (hp : pc + 2 = pc') (hr : WP l Z hB y bytes ml ret R n1 Q sl H pc' Ls (.long x :: st)) : WP l Z hB y bytes ml ret R n1 Q sl H pc Ls (st) := by
  subst hp
  exact WP.step (fun p e s m args below meth c T locs cells slots C X _ tgt h => XT.lload X.here C.1 rfl (hb C.2.2.1 hd) hl h) hr
theorem iconst {i : Int} (x : Int32) (hd : decode bytes pc = .ok (.iconst i, 1)) (hv : Int32.ofInt i = x) (hp : pc + 1 = pc') (hr : WP l Z hB y bytes ml ret R n1 Q sl H pc' Ls (.int x :: st)) : WP l Z hB y bytes ml ret R n1 Q sl H pc Ls (st) := by
  subst hp
  exact WP.step (fun p e s m args below meth c T locs cells slots C X _ tgt h => XS.iconst X.here C.1 rfl (hb C.2.2.1 hd) (hv ▸ h)) hr
theorem bipush {i : Int} (x : Int32) (hd : decode bytes pc = .ok (.bipush i, 2)) (hv : (Int8.ofInt i).toInt32 = x) (hp : pc + 2 = pc') (hr : WP l Z hB y bytes ml ret R n1 Q sl H pc' Ls (.int x :: st)) : WP l Z hB y bytes ml ret R n1 Q sl H pc Ls (st) := by
  subst hp
  exact WP.step (fun p e s m args below meth c T locs cells slots C X _ tgt h => XS.bipush X.here C.1 rfl (hb C.2.2.1 hd) (hv ▸ h)) hr
theorem sipush {i : Int} (x : Int32) (hd : decode bytes pc = .ok (.sipush i, 3)) (hv : (Int16.ofInt i).toInt32 = x) (hp : pc + 3 = pc') (hr : WP l Z hB y bytes ml ret R n1 Q sl H pc' Ls (.int x :: st)) : WP l Z hB y bytes ml ret R n1 Q sl H pc Ls (st) := by
  subst hp
  exact WP.step (fun p e s m args below meth c T locs cells slots C X _ tgt h => XT.sipushV X.here C.1 rfl x (hb C.2.2.1 hd) hv h) hr
theorem lconst {k : Fin 2} (x : Int64) (hd : decode bytes pc = .ok (.lconst k, 1)) (hv : Int64.ofNat k = x) (hp : pc + 1 = pc') (hr : WP l Z hB y bytes ml ret R n1 Q sl H pc' Ls (.long x :: st)) : WP l Z hB y bytes ml ret R n1 Q sl H pc Ls (st) := by
  subst hp
  exact WP.step (fun p e s m args below meth c T locs cells slots C X _ tgt h => XT.lconst X.here C.1 rfl (hb C.2.2.1 hd) (hv ▸ h)) hr
theorem aconstNull  (hd : decode bytes pc = .ok (.aconst_null, 1)) (hp : pc + 1 = pc') (hr : WP l Z hB y bytes ml ret R n1 Q sl H pc' Ls (.null :: st)) : WP l Z hB y bytes ml ret R n1 Q sl H pc Ls (st) := by
  subst hp
  exact WP.step (fun p e s m args below meth c T locs cells slots C X _ tgt h => XS.aconstNull X.here C.1 rfl (hb C.2.2.1 hd) h) hr
theorem iadd {x z : Int32} (hd : decode bytes pc = .ok (.iadd, 1)) (hp : pc + 1 = pc') (hr : WP l Z hB y bytes ml ret R n1 Q sl H pc' Ls (.int (x + z) :: st)) : WP l Z hB y bytes ml ret R n1 Q sl H pc Ls (.int z :: .int x :: st) := by
  subst hp
  exact WP.step (fun p e s m args below meth c T locs cells slots C X _ tgt h => XS.iadd X.here C.1 rfl (hb C.2.2.1 hd) rfl h) hr
theorem isub {x z : Int32} (hd : decode bytes pc = .ok (.isub, 1)) (hp : pc + 1 = pc') (hr : WP l Z hB y bytes ml ret R n1 Q sl H pc' Ls (.int (x - z) :: st)) : WP l Z hB y bytes ml ret R n1 Q sl H pc Ls (.int z :: .int x :: st) := by
  subst hp
  exact WP.step (fun p e s m args below meth c T locs cells slots C X _ tgt h => XS.isub X.here C.1 rfl (hb C.2.2.1 hd) rfl h) hr
theorem iand {x z : Int32} (hd : decode bytes pc = .ok (.iand, 1)) (hp : pc + 1 = pc') (hr : WP l Z hB y bytes ml ret R n1 Q sl H pc' Ls (.int (x &&& z) :: st)) : WP l Z hB y bytes ml ret R n1 Q sl H pc Ls (.int z :: .int x :: st) := by
  subst hp
  exact WP.step (fun p e s m args below meth c T locs cells slots C X _ tgt h => XS.iand X.here C.1 rfl (hb C.2.2.1 hd) rfl h) hr
theorem imul {x z : Int32} (hd : decode bytes pc = .ok (.imul, 1)) (hp : pc + 1 = pc') (hr : WP l Z hB y bytes ml ret R n1 Q sl H pc' Ls (.int (x * z) :: st)) : WP l Z hB y bytes ml ret R n1 Q sl H pc Ls (.int z :: .int x :: st) := by
  subst hp
  exact WP.step (fun p e s m args below meth c T locs cells slots C X _ tgt h => XS.imul X.here C.1 rfl (hb C.2.2.1 hd) rfl h) hr
theorem ixor {x z : Int32} (hd : decode bytes pc = .ok (.ixor, 1)) (hp : pc + 1 = pc') (hr : WP l Z hB y bytes ml ret R n1 Q sl H pc' Ls (.int (x ^^^ z) :: st)) : WP l Z hB y bytes ml ret R n1 Q sl H pc Ls (.int z :: .int x :: st) := by
  subst hp
  exact WP.step (fun p e s m args below meth c T locs cells slots C X _ tgt h => XT.ixor X.here C.1 rfl (hb C.2.2.1 hd) rfl h) hr
theorem ior {x z : Int32} (hd : decode bytes pc = .ok (.ior, 1)) (hp : pc + 1 = pc') (hr : WP l Z hB y bytes ml ret R n1 Q sl H pc' Ls (.int (x ||| z) :: st)) : WP l Z hB y bytes ml ret R n1 Q sl H pc Ls (.int z :: .int x :: st) := by
  subst hp
  exact WP.step (fun p e s m args below meth c T locs cells slots C X _ tgt h => XT.ior X.here C.1 rfl (hb C.2.2.1 hd) rfl h) hr
theorem ishl {x z : Int32} (hd : decode bytes pc = .ok (.ishl, 1)) (hp : pc + 1 = pc') (hr : WP l Z hB y bytes ml ret R n1 Q sl H pc' Ls (.int (x <<< (z &&& 31)) :: st)) : WP l Z hB y bytes ml ret R n1 Q sl H pc Ls (.int z :: .int x :: st) := by
  subst hp
  exact WP.step (fun p e s m args below meth c T locs cells slots C X _ tgt h => XT.ishl X.here C.1 rfl (hb C.2.2.1 hd) rfl h) hr
theorem ishr {x z : Int32} (hd : decode bytes pc = .ok (.ishr, 1)) (hp : pc + 1 = pc') (hr : WP l Z hB y bytes ml ret R n1 Q sl H pc' Ls (.int (x >>> (z &&& 31)) :: st)) : WP l Z hB y bytes ml ret R n1 Q sl H pc Ls (.int z :: .int x :: st) := by
  subst hp
  exact WP.step (fun p e s m args below meth c T locs cells slots C X _ tgt h => XT.ishr X.here C.1 rfl (hb C.2.2.1 hd) rfl h) hr
theorem iushr {x z : Int32} (hd : decode bytes pc = .ok (.iushr, 1)) (hp : pc + 1 = pc') (hr : WP l Z hB y bytes ml ret R n1 Q sl H pc' Ls (.int (XT.ushr x z) :: st)) : WP l Z hB y bytes ml ret R n1 Q sl H pc Ls (.int z :: .int x :: st) := by
  subst hp
  exact WP.step (fun p e s m args below meth c T locs cells slots C X _ tgt h => XT.iushr X.here C.1 rfl (hb C.2.2.1 hd) rfl h) hr
theorem ladd {x z : Int64} (hd : decode bytes pc = .ok (.ladd, 1)) (hp : pc + 1 = pc') (hr : WP l Z hB y bytes ml ret R n1 Q sl H pc' Ls (.long (x + z) :: st)) : WP l Z hB y bytes ml ret R n1 Q sl H pc Ls (.long z :: .long x :: st) := by
  subst hp
  exact WP.step (fun p e s m args below meth c T locs cells slots C X _ tgt h => XT.ladd X.here C.1 rfl (hb C.2.2.1 hd) rfl h) hr
theorem lsub {x z : Int64} (hd : decode bytes pc = .ok (.lsub, 1)) (hp : pc + 1 = pc') (hr : WP l Z hB y bytes ml ret R n1 Q sl H pc' Ls (.long (x - z) :: st)) : WP l Z hB y bytes ml ret R n1 Q sl H pc Ls (.long z :: .long x :: st) := by
  subst hp
  exact WP.step (fun p e s m args below meth c T locs cells slots C X _ tgt h => XT.lsub X.here C.1 rfl (hb C.2.2.1 hd) rfl h) hr
theorem land {x z : Int64} (hd : decode bytes pc = .ok (.land, 1)) (hp : pc + 1 = pc') (hr : WP l Z hB y bytes ml ret R n1 Q sl H pc' Ls (.long (x &&& z) :: st)) : WP l Z hB y bytes ml ret R n1 Q sl H pc Ls (.long z :: .long x :: st) := by
  subst hp
  exact WP.step (fun p e s m args below meth c T locs cells slots C X _ tgt h => XT.land X.here C.1 rfl (hb C.2.2.1 hd) rfl h) hr
theorem lmul {x z : Int64} (hd : decode bytes pc = .ok (.lmul, 1)) (hp : pc + 1 = pc') (hr : WP l Z hB y bytes ml ret R n1 Q sl H pc' Ls (.long (x * z) :: st)) : WP l Z hB y bytes ml ret R n1 Q sl H pc Ls (.long z :: .long x :: st) := by
  subst hp
  exact WP.step (fun p e s m args below meth c T locs cells slots C X _ tgt h => XT.lmul X.here C.1 rfl (hb C.2.2.1 hd) rfl h) hr
theorem lushr {x : Int64} {z : Int32} (hd : decode bytes pc = .ok (.lushr, 1)) (hp : pc + 1 = pc') (hr : WP l Z hB y bytes ml ret R n1 Q sl H pc' Ls (.long (XT.ushrL x z) :: st)) : WP l Z hB y bytes ml ret R n1 Q sl H pc Ls (.int z :: .long x :: st) := by
  subst hp
  exact WP.step (fun p e s m args below meth c T locs cells slots C X _ tgt h => XT.lushr X.here C.1 rfl (hb C.2.2.1 hd) rfl h) hr
theorem lcmp {x z : Int64} (hd : decode bytes pc = .ok (.lcmp, 1)) (hp : pc + 1 = pc') (hr : WP l Z hB y bytes ml ret R n1 Q sl H pc' Ls (.int (XT.cmpL x z) :: st)) : WP l Z hB y bytes ml ret R n1 Q sl H pc Ls (.long z :: .long x :: st) := by
  subst hp
  exact WP.step (fun p e s m args below meth c T locs cells slots C X _ tgt h => XT.lcmp X.here C.1 rfl (hb C.2.2.1 hd) rfl h) hr
theorem idiv {x z : Int32} (hd : decode bytes pc = .ok (.idiv, 1)) (hz : z ≠ 0) (hp : pc + 1 = pc') (hr : WP l Z hB y bytes ml ret R n1 Q sl H pc' Ls (.int (x / z) :: st)) : WP l Z hB y bytes ml ret R n1 Q sl H pc Ls (.int z :: .int x :: st) := by
  subst hp
  exact WP.step (fun p e s m args below meth c T locs cells slots C X _ tgt h => XS.idiv X.here C.1 rfl (hb C.2.2.1 hd) rfl hz h) hr
theorem irem {x z : Int32} (hd : decode bytes pc = .ok (.irem, 1)) (hz : z ≠ 0) (hp : pc + 1 = pc') (hr : WP l Z hB y bytes ml ret R n1 Q sl H pc' Ls (.int (x % z) :: st)) : WP l Z hB y bytes ml ret R n1 Q sl H pc Ls (.int z :: .int x :: st) := by
  subst hp
  exact WP.step (fun p e s m args below meth c T locs cells slots C X _ tgt h => iremM X C.1 rfl (hb C.2.2.1 hd) rfl hz h) hr
theorem ineg {x : Int32} (hd : decode bytes pc = .ok (.ineg, 1)) (hp : pc + 1 = pc') (hr : WP l Z hB y bytes ml ret R n1 Q sl H pc' Ls (.int (-x) :: st)) : WP l Z hB y bytes ml ret R n1 Q sl H pc Ls (.int x :: st) := by
  subst hp
  exact WP.step (fun p e s m args below meth c T locs cells slots C X _ tgt h => XS.ineg X.here C.1 rfl (hb C.2.2.1 hd) rfl h) hr
theorem lneg {x : Int64} (hd : decode bytes pc = .ok (.lneg, 1)) (hp : pc + 1 = pc') (hr : WP l Z hB y bytes ml ret R n1 Q sl H pc' Ls (.long (-x) :: st)) : WP l Z hB y bytes ml ret R n1 Q sl H pc Ls (.long x :: st) := by
  subst hp
  exact WP.step (fun p e s m args below meth c T locs cells slots C X _ tgt h => XT.lneg X.here C.1 rfl (hb C.2.2.1 hd) rfl h) hr
theorem i2l {x : Int32} (hd : decode bytes pc = .ok (.i2l, 1)) (hp : pc + 1 = pc') (hr : WP l Z hB y bytes ml ret R n1 Q sl H pc' Ls (.long x.toInt64 :: st)) : WP l Z hB y bytes ml ret R n1 Q sl H pc Ls (.int x :: st) := by
  subst hp
  exact WP.step (fun p e s m args below meth c T locs cells slots C X _ tgt h => XT.i2l X.here C.1 rfl (hb C.2.2.1 hd) rfl h) hr
theorem l2i {x : Int64} (hd : decode bytes pc = .ok (.l2i, 1)) (hp : pc + 1 = pc') (hr : WP l Z hB y bytes ml ret R n1 Q sl H pc' Ls (.int x.toInt32 :: st)) : WP l Z hB y bytes ml ret R n1 Q sl H pc Ls (.long x :: st) := by
  subst hp
  exact WP.step (fun p e s m args below meth c T locs cells slots C X _ tgt h => XT.l2i X.here C.1 rfl (hb C.2.2.1 hd) rfl h) hr
theorem i2c {x : Int32} (hd : decode bytes pc = .ok (.i2c, 1)) (hp : pc + 1 = pc') (hr : WP l Z hB y bytes ml ret R n1 Q sl H pc' Ls (.int x.toUInt32.toUInt16.toUInt32.toInt32 :: st)) : WP l Z hB y bytes ml ret R n1 Q sl H pc Ls (.int x :: st) := by
  subst hp
  exact WP.step (fun p e s m args below meth c T locs cells slots C X _ tgt h => XT.i2c X.here C.1 rfl (hb C.2.2.1 hd) rfl h) hr
theorem i2b {x : Int32} (hd : decode bytes pc = .ok (.i2b, 1)) (hp : pc + 1 = pc') (hr : WP l Z hB y bytes ml ret R n1 Q sl H pc' Ls (.int x.toInt8.toInt32 :: st)) : WP l Z hB y bytes ml ret R n1 Q sl H pc Ls (.int x :: st) := by
  subst hp
  exact WP.step (fun p e s m args below meth c T locs cells slots C X _ tgt h => XT.i2b X.here C.1 rfl (hb C.2.2.1 hd) rfl h) hr
theorem dup {v : Value} (hd : decode bytes pc = .ok (.dup, 1)) (hc : v.category = 1) (hp : pc + 1 = pc') (hr : WP l Z hB y bytes ml ret R n1 Q sl H pc' Ls (v :: v :: st)) : WP l Z hB y bytes ml ret R n1 Q sl H pc Ls (v :: st) := by
  subst hp
  exact WP.step (fun p e s m args below meth c T locs cells slots C X _ tgt h => XS.dup X.here C.1 rfl (hb C.2.2.1 hd) rfl hc h) hr
theorem dupX1 {v w : Value} (hd : decode bytes pc = .ok (.dup_x1, 1)) (hc : v.category = 1) (hc2 : w.category = 1) (hp : pc + 1 = pc') (hr : WP l Z hB y bytes ml ret R n1 Q sl H pc' Ls (v :: w :: v :: st)) : WP l Z hB y bytes ml ret R n1 Q sl H pc Ls (v :: w :: st) := by
  subst hp
  exact WP.step (fun p e s m args below meth c T locs cells slots C X _ tgt h => XT.dupX1 X.here C.1 rfl (hb C.2.2.1 hd) rfl hc hc2 h) hr
theorem dup2 {v w : Value} (hd : decode bytes pc = .ok (.dup2, 1)) (hc : v.category = 1) (hc2 : w.category = 1) (hp : pc + 1 = pc') (hr : WP l Z hB y bytes ml ret R n1 Q sl H pc' Ls (v :: w :: v :: w :: st)) : WP l Z hB y bytes ml ret R n1 Q sl H pc Ls (v :: w :: st) := by
  subst hp
  exact WP.step (fun p e s m args below meth c T locs cells slots C X _ tgt h => XT.dup2 X.here C.1 rfl (hb C.2.2.1 hd) rfl hc hc2 h) hr
theorem popV {v : Value} (hd : decode bytes pc = .ok (.pop, 1)) (hc : v.category = 1) (hp : pc + 1 = pc') (hr : WP l Z hB y bytes ml ret R n1 Q sl H pc' Ls (st)) : WP l Z hB y bytes ml ret R n1 Q sl H pc Ls (v :: st) := by
  subst hp
  exact WP.step (fun p e s m args below meth c T locs cells slots C X _ tgt h => XT.pop X.here C.1 rfl (hb C.2.2.1 hd) rfl hc h) hr
theorem istoreN {k : Fin 4} {x : Int32} (hd : decode bytes pc = .ok (.istore_n k, 1)) (hl : storeLocals Ls k.val (.int x) = some Ls') (hp : pc + 1 = pc') (hr : WP l Z hB y bytes ml ret R n1 Q sl H pc' Ls' (st)) : WP l Z hB y bytes ml ret R n1 Q sl H pc Ls (.int x :: st) := by
  subst hp
  exact WP.step (fun p e s m args below meth c T locs cells slots C X _ tgt h => XS.istoreN X.here C.1 rfl (hb C.2.2.1 hd) rfl hl h) hr
theorem istore {k : Nat} {x : Int32} (hd : decode bytes pc = .ok (.istore k, 2)) (hl : storeLocals Ls k (.int x) = some Ls') (hp : pc + 2 = pc') (hr : WP l Z hB y bytes ml ret R n1 Q sl H pc' Ls' (st)) : WP l Z hB y bytes ml ret R n1 Q sl H pc Ls (.int x :: st) := by
  subst hp
  exact WP.step (fun p e s m args below meth c T locs cells slots C X _ tgt h => XS.istore X.here C.1 rfl (hb C.2.2.1 hd) rfl hl h) hr
theorem lstoreN {k : Fin 4} {x : Int64} (hd : decode bytes pc = .ok (.lstore_n k, 1)) (hl : storeLocals Ls k.val (.long x) = some Ls') (hp : pc + 1 = pc') (hr : WP l Z hB y bytes ml ret R n1 Q sl H pc' Ls' (st)) : WP l Z hB y bytes ml ret R n1 Q sl H pc Ls (.long x :: st) := by
  subst hp
  exact WP.step (fun p e s m args below meth c T locs cells slots C X _ tgt h => XT.lstoreN X.here C.1 rfl (hb C.2.2.1 hd) rfl hl h) hr
theorem lstore {k : Nat} {x : Int64} (hd : decode bytes pc = .ok (.lstore k, 2)) (hl : storeLocals Ls k (.long x) = some Ls') (hp : pc + 2 = pc') (hr : WP l Z hB y bytes ml ret R n1 Q sl H pc' Ls' (st)) : WP l Z hB y bytes ml ret R n1 Q sl H pc Ls (.long x :: st) := by
  subst hp
  exact WP.step (fun p e s m args below meth c T locs cells slots C X _ tgt h => XT.lstore X.here C.1 rfl (hb C.2.2.1 hd) rfl hl h) hr
theorem astoreN {k : Fin 4} {v : Value} (hd : decode bytes pc = .ok (.astore_n k, 1)) (hv : v.isRef = true) (hl : storeLocals Ls k.val v = some Ls') (hp : pc + 1 = pc') (hr : WP l Z hB y bytes ml ret R n1 Q sl H pc' Ls' (st)) : WP l Z hB y bytes ml ret R n1 Q sl H pc Ls (v :: st) := by
  subst hp
  exact WP.step (fun p e s m args below meth c T locs cells slots C X _ tgt h => XS.astoreN X.here C.1 rfl (hb C.2.2.1 hd) rfl hv hl h) hr
theorem astore {k : Nat} {v : Value} (hd : decode bytes pc = .ok (.astore k, 2)) (hv : v.isRef = true) (hl : storeLocals Ls k v = some Ls') (hp : pc + 2 = pc') (hr : WP l Z hB y bytes ml ret R n1 Q sl H pc' Ls' (st)) : WP l Z hB y bytes ml ret R n1 Q sl H pc Ls (v :: st) := by
  subst hp
  exact WP.step (fun p e s m args below meth c T locs cells slots C X _ tgt h => XS.astore X.here C.1 rfl (hb C.2.2.1 hd) rfl hv hl h) hr
theorem iinc {k : Nat} {cst : Int} {x : Int32} (z : Int32) (hd : decode bytes pc = .ok (.iinc k cst, 3)) (hl : Ls[k]? = some (.val (.int x))) (hz : x + Int32.ofInt cst = z) (hl' : storeLocals Ls k (.int z) = some Ls') (hp : pc + 3 = pc') (hr : WP l Z hB y bytes ml ret R n1 Q sl H pc' Ls' (st)) : WP l Z hB y bytes ml ret R n1 Q sl H pc Ls (st) := by
  subst hp
  exact WP.step (fun p e s m args below meth c T locs cells slots C X _ tgt h => XS.iinc X.here C.1 rfl (hb C.2.2.1 hd) hl (hz ▸ hl') h) hr
theorem goTo  {o : Int} (hd : decode bytes pc = .ok (.goto o, 3)) (ho : 0 ≤ (pc : Int) + o) (hp : ((pc : Int) + o).toNat = pc') (hr : WP l Z hB y bytes ml ret R n1 Q sl H pc' Ls st) : WP l Z hB y bytes ml ret R n1 Q sl H pc Ls (st) :=
  WP.step (fun p e s m args below meth c T locs cells slots C X _ tgt h => XS.goto X.here C.1 rfl rfl (hb C.2.2.1 hd) ho hp h) hr
theorem ifY {cd : ClassFile.Cond} {x : Int32} {o : Int} (hd : decode bytes pc = .ok (.ifCond cd o, 3)) (hc : ifCond.holds cd x = true) (ho : 0 ≤ (pc : Int) + o) (hp : ((pc : Int) + o).toNat = pc') (hr : WP l Z hB y bytes ml ret R n1 Q sl H pc' Ls st) : WP l Z hB y bytes ml ret R n1 Q sl H pc Ls (.int x :: st) :=
  WP.step (fun p e s m args below meth c T locs cells slots C X _ tgt h => XS.ifYes X.here C.1 rfl rfl (hb C.2.2.1 hd) rfl hc ho hp h) hr
theorem ifN {cd : ClassFile.Cond} {x : Int32} {o : Int} (hd : decode bytes pc = .ok (.ifCond cd o, 3)) (hc : ifCond.holds cd x = false) (hp : pc + 3 = pc') (hr : WP l Z hB y bytes ml ret R n1 Q sl H pc' Ls st) : WP l Z hB y bytes ml ret R n1 Q sl H pc Ls (.int x :: st) := by
  subst hp
  exact WP.step (fun p e s m args below meth c T locs cells slots C X _ tgt h => XS.ifNo X.here C.1 rfl (hb C.2.2.1 hd) rfl hc h) hr
theorem icY {cd : ClassFile.Cond} {x z : Int32} {o : Int} (hd : decode bytes pc = .ok (.if_icmp cd o, 3)) (hc : if_icmp.holds cd x z = true) (ho : 0 ≤ (pc : Int) + o) (hp : ((pc : Int) + o).toNat = pc') (hr : WP l Z hB y bytes ml ret R n1 Q sl H pc' Ls st) : WP l Z hB y bytes ml ret R n1 Q sl H pc Ls (.int z :: .int x :: st) :=
  WP.step (fun p e s m args below meth c T locs cells slots C X _ tgt h => XS.icmpYes X.here C.1 rfl rfl (hb C.2.2.1 hd) rfl hc ho hp h) hr
theorem icN {cd : ClassFile.Cond} {x z : Int32} {o : Int} (hd : decode bytes pc = .ok (.if_icmp cd o, 3)) (hc : if_icmp.holds cd x z = false) (hp : pc + 3 = pc') (hr : WP l Z hB y bytes ml ret R n1 Q sl H pc' Ls st) : WP l Z hB y bytes ml ret R n1 Q sl H pc Ls (.int z :: .int x :: st) := by
  subst hp
  exact WP.step (fun p e s m args below meth c T locs cells slots C X _ tgt h => XS.icmpNo X.here C.1 rfl (hb C.2.2.1 hd) rfl hc h) hr
theorem nullY  {o : Int} (hd : decode bytes pc = .ok (.ifnull o, 3)) (ho : 0 ≤ (pc : Int) + o) (hp : ((pc : Int) + o).toNat = pc') (hr : WP l Z hB y bytes ml ret R n1 Q sl H pc' Ls st) : WP l Z hB y bytes ml ret R n1 Q sl H pc Ls (.null :: st) :=
  WP.step (fun p e s m args below meth c T locs cells slots C X _ tgt h => XS.ifnullYes X.here C.1 rfl rfl (hb C.2.2.1 hd) rfl ho hp h) hr
theorem nullN {b : Addr} {o : Int} (hd : decode bytes pc = .ok (.ifnull o, 3)) (hp : pc + 3 = pc') (hr : WP l Z hB y bytes ml ret R n1 Q sl H pc' Ls st) : WP l Z hB y bytes ml ret R n1 Q sl H pc Ls (.ref b :: st) := by
  subst hp
  exact WP.step (fun p e s m args below meth c T locs cells slots C X _ tgt h => XS.ifnullNo X.here C.1 rfl (hb C.2.2.1 hd) rfl h) hr
theorem nonnullY {b : Addr} {o : Int} (hd : decode bytes pc = .ok (.ifnonnull o, 3)) (ho : 0 ≤ (pc : Int) + o) (hp : ((pc : Int) + o).toNat = pc') (hr : WP l Z hB y bytes ml ret R n1 Q sl H pc' Ls st) : WP l Z hB y bytes ml ret R n1 Q sl H pc Ls (.ref b :: st) :=
  WP.step (fun p e s m args below meth c T locs cells slots C X _ tgt h => XT.ifnonnullYes X.here C.1 rfl rfl (hb C.2.2.1 hd) rfl ho hp h) hr
theorem nonnullN  {o : Int} (hd : decode bytes pc = .ok (.ifnonnull o, 3)) (hp : pc + 3 = pc') (hr : WP l Z hB y bytes ml ret R n1 Q sl H pc' Ls st) : WP l Z hB y bytes ml ret R n1 Q sl H pc Ls (.null :: st) := by
  subst hp
  exact WP.step (fun p e s m args below meth c T locs cells slots C X _ tgt h => XT.ifnonnullNo X.here C.1 rfl (hb C.2.2.1 hd) rfl h) hr
theorem acY {cd : ClassFile.ACond} {v w : Value} {o : Int} (hd : decode bytes pc = .ok (.if_acmp cd o, 3)) (hv : v.isRef = true) (hw : w.isRef = true) (hc : XT.acmp cd v w = true) (ho : 0 ≤ (pc : Int) + o) (hp : ((pc : Int) + o).toNat = pc') (hr : WP l Z hB y bytes ml ret R n1 Q sl H pc' Ls st) : WP l Z hB y bytes ml ret R n1 Q sl H pc Ls (w :: v :: st) :=
  WP.step (fun p e s m args below meth c T locs cells slots C X _ tgt h => XT.acmpYes X.here C.1 rfl rfl (hb C.2.2.1 hd) rfl hv hw hc ho hp h) hr
theorem acN {cd : ClassFile.ACond} {v w : Value} {o : Int} (hd : decode bytes pc = .ok (.if_acmp cd o, 3)) (hv : v.isRef = true) (hw : w.isRef = true) (hc : XT.acmp cd v w = false) (hp : pc + 3 = pc') (hr : WP l Z hB y bytes ml ret R n1 Q sl H pc' Ls st) : WP l Z hB y bytes ml ret R n1 Q sl H pc Ls (w :: v :: st) := by
  subst hp
  exact WP.step (fun p e s m args below meth c T locs cells slots C X _ tgt h => XT.acmpNo X.here C.1 rfl (hb C.2.2.1 hd) rfl hv hw hc h) hr
theorem tswIn {dflt low high : Int} {offs : Array Int} {len : Nat} {o : Int} {i : Int32} (hd : decode bytes pc = .ok (.tableswitch dflt low high offs, len)) (hin : ¬ (i.toInt < low ∨ i.toInt > high)) (hoff : offs[(i.toInt - low).toNat]? = some o) (ho : 0 ≤ (pc : Int) + o) (hp : ((pc : Int) + o).toNat = pc') (hr : WP l Z hB y bytes ml ret R n1 Q sl H pc' Ls st) : WP l Z hB y bytes ml ret R n1 Q sl H pc Ls (.int i :: st) :=
  WP.step (fun p e s m args below meth c T locs cells slots C X _ tgt h => XS.tswIn X.here C.1 rfl rfl (hb C.2.2.1 hd) rfl hin hoff ho hp h) hr
theorem dupX2 {u v w : Value} (hd : decode bytes pc = .ok (.dup_x2, 1)) (h1 : u.category = 1) (h2 : v.category = 1) (h3 : w.category = 1) (hp : pc + 1 = pc') (hr : WP l Z hB y bytes ml ret R n1 Q sl H pc' Ls (u :: v :: w :: u :: st)) : WP l Z hB y bytes ml ret R n1 Q sl H pc Ls (u :: v :: w :: st) := by
  subst hp
  refine WP.step (fun p e s m args below meth c T locs cells slots C X _ tgt h => ?_) hr
  have hx := C.1
  have hd' := (hb C.2.2.1 hd)
  jvm_step X.here [X.here.top, hx, hd', h1, h2, h3]
  exact h
theorem pop2L {x : Int64} (hd : decode bytes pc = .ok (.pop2, 1)) (hp : pc + 1 = pc') (hr : WP l Z hB y bytes ml ret R n1 Q sl H pc' Ls st) : WP l Z hB y bytes ml ret R n1 Q sl H pc Ls (.long x :: st) := by
  subst hp
  refine WP.step (fun p e s m args below meth c T locs cells slots C X _ tgt h => ?_) hr
  have hx := C.1
  have hd' := (hb C.2.2.1 hd)
  jvm_step X.here [X.here.top, hx, hd', Value.category]
  exact h
theorem getFl {a : Addr} {R0 O n d host : String} {v : Value} {index : Nat} (hd : decode bytes pc = .ok (.getfield index, 3)) (w : (Jvm.Cond.fieldLink y.cls index R0 n d).before a0 Z = true ∨ (Jvm.Cond.fieldLinkNest y.cls index R0 n d host).before a0 Z = true) (via : Via Z R0 O n d) (F : ∀ h, Hp Z hB h H → Fld Z h a O n d v) (hp : pc + 3 = pc') (hr : WP l Z hB y bytes ml ret R n1 Q sl H pc' Ls (v :: st)) : WP l Z hB y bytes ml ret R n1 Q sl H pc Ls (.ref a :: st) := by
  subst hp
  exact WP.stepT (fun p e s m args below meth c T locs cells slots C X P => getF X C.1 C.2.1 C.2.2.2.2.1 w via rfl (F _ P) (g := mkF m pc Ls (.ref a :: st)) rfl rfl (hb C.2.2.1 hd)) hr
theorem getF0 {O n d : String} {v : Value} {index i j : Nat} {C : String} {ks : List Key} {vs : List Value} (hd : decode bytes pc = .ok (.getfield index, 3)) (w : (Jvm.Cond.fieldLink y.cls index O n d).before a0 Z = true) (hi : H[i]? = some (obj C ks vs)) (hk : ks[j]? = some (O, n, d)) (hv : vs[j]? = some v) (hp : pc + 3 = pc') (hr : WP l Z hB y bytes ml ret R n1 Q sl H pc' Ls (v :: st)) : WP l Z hB y bytes ml ret R n1 Q sl H pc Ls (rf hB i :: st) :=
  getFl (host := "") hd (Or.inl w) Via.refl (fun _ P => P.fld hi hk hv) hp hr
theorem getFold {a : Addr} {O n d : String} {v : Value} {index : Nat} (hd : decode bytes pc = .ok (.getfield index, 3)) (w : (Jvm.Cond.fieldLink y.cls index O n d).before a0 Z = true) (F : Fld Z hB a O n d v) (hp : pc + 3 = pc') (hr : WP l Z hB y bytes ml ret R n1 Q sl H pc' Ls (v :: st)) : WP l Z hB y bytes ml ret R n1 Q sl H pc Ls (.ref a :: st) :=
  getFl (host := "") hd (Or.inl w) Via.refl (fun _ P => F.ext P.toExt) hp hr
theorem getSt {O n d : String} {v : Value} {index : Nat} (hd : decode bytes pc = .ok (.getstatic index, 3)) (w : (Jvm.Cond.fieldLink y.cls index O n d).before a0 Z = true) (F : Sta Z hB O n d v) (hp : pc + 3 = pc') (hr : WP l Z hB y bytes ml ret R n1 Q sl H pc' Ls (v :: st)) : WP l Z hB y bytes ml ret R n1 Q sl H pc Ls st := by
  subst hp
  exact WP.stepT (fun p e s m args below meth c T locs cells slots C X P => getS2 X C.1 C.2.1 C.2.2.2.2.1 (host := "") (Or.inl w) Via.refl rfl (F.ext P.toExt) (g := mkF m pc Ls st) rfl (hb C.2.2.1 hd)) hr
theorem putF0 {O n d : String} {v : Value} {ty : FieldType} {index i j kk : Nat} {C : String} {ks : List Key} {vs : List Value} (hd : decode bytes pc = .ok (.putfield index, 3)) (w : (Jvm.Cond.fieldLink y.cls index O n d).before a0 Z = true) (hi : H[i]? = some (obj C ks vs)) (hk : ks[j]? = some (O, n, d)) (hj : j < vs.length)
    (L : (Jvm.Cond.lays C O n d).before a0 Z = true ∨ ((Jvm.Cond.laysFinal C O n d).before a0 Z = true ∧ y.cls = O ∧ y.name = "<init>")) (wi : (Jvm.Cond.instantiable C kk).before a0 Z = true) (hty : parseFieldDescriptor d = some ty) (hn : narrow ty v = v) (hf : fits ty v = true) (hH : H.set i (obj C ks (vs.set j v)) = H') (hp : pc + 3 = pc') (hr : WP l Z hB y bytes ml ret R n1 Q sl H' pc' Ls st) : WP l Z hB y bytes ml ret R n1 Q sl H pc Ls (v :: rf hB i :: st) := by
  subst hp; subst hH
  refine WP.stepH (fun p e s m args below meth c T locs cells slots C X hz N P hs => ?_) hr
  obtain ⟨T', h', X', e', W, k⟩ := putF X C.1 C.2.1 C.2.2.2.2.1 (host := "") (Or.inl w) Via.refl rfl (P.fld hi hk (List.getElem?_eq_getElem hj)) (P.exa hi) (L.imp id fun q => ⟨q.1, q.2.1, C.2.2.2.2.2.1.trans q.2.2⟩) wi hty hn hf (g := mkF m pc Ls (v :: rf hB i :: st)) rfl rfl (hb C.2.2.1 hd)
  exact ⟨T', _, _, _, X', Fr.snoc X' N (Nat.le_add_right _ _), by rw [e']; exact P.wrO hi hk hj W, hs, k⟩
theorem getF1 {R0 O n d : String} {v : Value} {index i j : Nat} {C : String} {ks : List Key} {vs : List Value} (hd : decode bytes pc = .ok (.getfield index, 3)) (w : (Jvm.Cond.fieldLink y.cls index R0 n d).before a0 Z = true) (ws : (Jvm.Cond.sameField R0 O n d).before a0 Z = true) (hi : H[i]? = some (obj C ks vs)) (hk : ks[j]? = some (O, n, d)) (hv : vs[j]? = some v) (hp : pc + 3 = pc') (hr : WP l Z hB y bytes ml ret R n1 Q sl H pc' Ls (v :: st)) : WP l Z hB y bytes ml ret R n1 Q sl H pc Ls (rf hB i :: st) :=
  getFl (host := "") hd (Or.inl w) (Via.of ws) (fun _ P => P.fld hi hk hv) hp hr
theorem putF1 {R0 O n d : String} {v : Value} {ty : FieldType} {index i j kk : Nat} {C : String} {ks : List Key} {vs : List Value} (hd : decode bytes pc = .ok (.putfield index, 3)) (w : (Jvm.Cond.fieldLink y.cls index R0 n d).before a0 Z = true) (ws : (Jvm.Cond.sameField R0 O n d).before a0 Z = true) (hi : H[i]? = some (obj C ks vs)) (hk : ks[j]? = some (O, n, d)) (hj : j < vs.length)
    (L : (Jvm.Cond.lays C O n d).before a0 Z = true ∨ ((Jvm.Cond.laysFinal C O n d).before a0 Z = true ∧ y.cls = O ∧ y.name = "<init>")) (wi : (Jvm.Cond.instantiable C kk).before a0 Z = true) (hty : parseFieldDescriptor d = some ty) (hn : narrow ty v = v) (hf : fits ty v = true) (hH : H.set i (obj C ks (vs.set j v)) = H') (hp : pc + 3 = pc') (hr : WP l Z hB y bytes ml ret R n1 Q sl H' pc' Ls st) : WP l Z hB y bytes ml ret R n1 Q sl H pc Ls (v :: rf hB i :: st) := by
  subst hp; subst hH
  refine WP.stepH (fun p e s m args below meth c T locs cells slots C X hz N P hs => ?_) hr
  obtain ⟨T', h', X', e', W, k⟩ := putF X C.1 C.2.1 C.2.2.2.2.1 (host := "") (Or.inl w) (Via.of ws) rfl (P.fld hi hk (List.getElem?_eq_getElem hj)) (P.exa hi) (L.imp id fun q => ⟨q.1, q.2.1, C.2.2.2.2.2.1.trans q.2.2⟩) wi hty hn hf (g := mkF m pc Ls (v :: rf hB i :: st)) rfl rfl (hb C.2.2.1 hd)
  exact ⟨T', _, _, _, X', Fr.snoc X' N (Nat.le_add_right _ _), by rw [e']; exact P.wrO hi hk hj W, hs, k⟩
theorem initObj {i' : Addr} {index : Nat} (hd : decode bytes pc = .ok (.invokespecial index, 3)) (w1 : (Jvm.Cond.methodLink y.cls index Lib.objectInit).before a0 Z = true) (w2 : (Jvm.Cond.instanceMethod Lib.objectInit).before a0 Z = true) (w3 : (Jvm.Cond.code Lib.objectInit ⟨#[0xb1]⟩ 1 none).before a0 Z = true) (hml : Ls.size = ml) (hf : 1 ≤ R.frames) (hl : (st.map fun v => v.category).sum + 12 ≤ R.locals) (hp : pc + 3 = pc') (hr : WP l Z hB y bytes ml ret R n1 Q sl H pc' Ls st) : WP l Z hB y bytes ml ret R n1 Q sl H pc Ls (.ref i' :: st) := by
  subst hp
  exact WP.stepT (fun p e s m args below meth c T locs cells slots C X P => initO X C.1 C.2.1 C.2.2.2.2.1 w1 w2 w3 rfl (g := mkF m pc Ls (.ref i' :: st)) rfl (hml.trans C.2.2.2.1.symm) rfl (hb C.2.2.1 hd) hf (W := (st.map fun v => v.category).sum) (by show 2 * 0 + _ ≤ _; omega) hl) hr
theorem newObj {C : String} {index n : Nat} {ks : List Key} {vs : List Value} (hd : decode bytes pc = .ok (.new index, 3)) (w : (Jvm.Cond.classLink y.cls index C).before a0 Z = true) (wi : (Jvm.Cond.instantiable C n).before a0 Z = true) (wz : (Jvm.Cond.initialized C).before a0 Z = true)
    (hlaid : ∀ (i : Nat) (k : Key) (v : Value), ks[i]? = some k → vs[i]? = some v → Laid Z a0 C k.1 k.2.1 k.2.2 ∧ ∃ ty, parseFieldDescriptor k.2.2 = some ty ∧ v = defaultValue ty) (hdist : ∀ (i j : Nat) (k k' : Key), ks[i]? = some k → ks[j]? = some k' → i ≠ j → kslot Z k ≠ kslot Z k')
    (hc : H.length + 1 ≤ n1 + R.cells) (hsl : sl + n ≤ R.slots) (hH : H ++ [obj C ks vs] = H') (hlen : H.length = i) (hp : pc + 3 = pc') (hr : WP l Z hB y bytes ml ret R n1 Q (sl + n) H' pc' Ls (rf hB i :: st)) : WP l Z hB y bytes ml ret R n1 Q sl H pc Ls st := by
  subst hp; subst hH; subst hlen
  refine WP.stepH (fun p e s m args below meth c T locs cells slots Cx X hz N P hs => ?_) hr
  have hsz := Cx.2.2.2.2.2.2.2.2
  have hp1 := P.1
  obtain ⟨T', h', X', e', E, A, D, U, k⟩ := newO X Cx.1 Cx.2.1 Cx.2.2.2.2.1 w wi wz rfl (g := mkF m pc Ls st) rfl (hb Cx.2.2.1 hd) (by omega) (by omega)
  subst e'
  have hle := X'.heapSize
  refine ⟨T', _, _, _, X', N, P.push E (by omega) ⟨A, U, fun i k v h1 h2 => ?_, hdist⟩, by omega, by rw [show rf hB H.length = .ref T.heap.size from by show Value.ref _ = _; rw [hp1]]; exact k⟩
  obtain ⟨q1, ty, q2, rfl⟩ := hlaid i k v h1 h2
  exact D q1 q2
theorem newArr {aty : ArrayType} {i : Nat} {n : Int32} {nn : Nat} (hd : decode bytes pc = .ok (.newarray aty, 2)) (w : (Jvm.Cond.arrayClass (newarray.typeOf aty)).before a0 Z = true) (hn : ¬ n < 0) (hnn : n.toNatClampNeg = nn) (hb8 : nn * 8 ≤ 536870912) (hdf : fits (newarray.typeOf aty) (defaultValue (newarray.typeOf aty)) = true) (hnr : (∀ C, newarray.typeOf aty ≠ .object C) ∧ ∀ t, newarray.typeOf aty ≠ .array t)
    (hc : H.length + 1 ≤ n1 + R.cells) (hsl : sl + nn ≤ R.slots) (hH : H ++ [arr (newarray.typeOf aty) (List.replicate nn (defaultValue (newarray.typeOf aty)))] = H') (hlen : H.length = i) (hp : pc + 2 = pc') (hr : WP l Z hB y bytes ml ret R n1 Q (sl + nn) H' pc' Ls (rf hB i :: st)) : WP l Z hB y bytes ml ret R n1 Q sl H pc Ls (.int n :: st) := by
  subst hp; subst hH; subst hlen; subst hnn
  refine WP.stepH (fun p e s m args below meth c T locs cells slots Cx X hz N P hs => ?_) hr
  have hsz := Cx.2.2.2.2.2.2.2.2
  have hp1 := P.1
  obtain ⟨T', h', cA, X', e', E, A, Ex, k⟩ := newPE X Cx.1 Cx.2.1 w rfl (g := mkF m pc Ls (.int n :: st)) rfl (hb Cx.2.2.1 hd) rfl hn (cap := n.toNatClampNeg) (Nat.le_refl _) hb8 (by omega) (by omega) rfl
  subst e'
  have hle := X'.heapSize
  refine ⟨T', _, _, _, X', N, P.push E (by omega) ⟨_, A, by simp [newA], rfl, Ex, ⟨fun C q => absurd q (hnr.1 C), fun t q => absurd q (hnr.2 t)⟩, fun v hv => by rw [List.eq_of_mem_replicate hv]; exact hdf⟩, by omega, by rw [show rf hB H.length = .ref T.heap.size from by show Value.ref _ = _; rw [hp1]]; exact k⟩
theorem newRef {C : String} {index i : Nat} {n : Int32} {nn : Nat} (hd : decode bytes pc = .ok (.anewarray index, 3)) (w1 : (Jvm.Cond.classLink y.cls index C).before a0 Z = true) (w2 : (Jvm.Cond.arrayOver (.object C)).before a0 Z = true) (hn : ¬ n < 0) (hnn : n.toNatClampNeg = nn) (hb8 : nn * 8 ≤ 536870912)
    (hc : H.length + 1 ≤ n1 + R.cells) (hsl : sl + nn ≤ R.slots) (hH : H ++ [arr (.object C) (List.replicate nn .null)] = H') (hlen : H.length = i) (hp : pc + 3 = pc') (hr : WP l Z hB y bytes ml ret R n1 Q (sl + nn) H' pc' Ls (rf hB i :: st)) : WP l Z hB y bytes ml ret R n1 Q sl H pc Ls (.int n :: st) := by
  subst hp; subst hH; subst hlen; subst hnn
  refine WP.stepH (fun p e s m args below meth c T locs cells slots Cx X hz N P hs => ?_) hr
  have hsz := Cx.2.2.2.2.2.2.2.2
  have hp1 := P.1
  obtain ⟨T', h', cA, X', e', E, A, Ex, O, k⟩ := newRE X Cx.1 Cx.2.1 Cx.2.2.2.2.1 w1 w2 rfl (g := mkF m pc Ls (.int n :: st)) rfl (hb Cx.2.2.1 hd) rfl hn (cap := n.toNatClampNeg) (Nat.le_refl _) hb8 (by omega) (by omega) rfl
  subst e'
  have hle := X'.heapSize
  refine ⟨T', _, _, _, X', N, P.push E (by omega) ⟨_, A, by simp [newA, defaultValue], rfl, Ex, ⟨fun C' q => (by cases q; exact O), fun t q => (by cases q)⟩, fun v hv => by rw [List.eq_of_mem_replicate hv]; rfl⟩, by omega, by rw [show rf hB H.length = .ref T.heap.size from by show Value.ref _ = _; rw [hp1]]; exact k⟩
theorem newRefA {ty : FieldType} {C : String} {index i : Nat} {n : Int32} {nn : Nat} (hd : decode bytes pc = .ok (.anewarray index, 3)) (hC : (FieldType.array ty).toString = C) (w1 : (Jvm.Cond.classLink y.cls index C).before a0 Z = true) (w2 : (Jvm.Cond.arrayOver (.array ty)).before a0 Z = true) (hn : ¬ n < 0) (hnn : n.toNatClampNeg = nn) (hb8 : nn * 8 ≤ 536870912)
    (hc : H.length + 1 ≤ n1 + R.cells) (hsl : sl + nn ≤ R.slots) (hH : H ++ [arr (.array ty) (List.replicate nn .null)] = H') (hlen : H.length = i) (hp : pc + 3 = pc') (hr : WP l Z hB y bytes ml ret R n1 Q (sl + nn) H' pc' Ls (rf hB i :: st)) : WP l Z hB y bytes ml ret R n1 Q sl H pc Ls (.int n :: st) := by
  subst hp; subst hH; subst hlen; subst hnn; subst hC
  refine WP.stepH (fun p e s m args below meth c T locs cells slots Cx X hz N P hs => ?_) hr
  have hsz := Cx.2.2.2.2.2.2.2.2
  have hp1 := P.1
  obtain ⟨T', h', cA, X', e', E, A, Ex, O, k⟩ := newRA X Cx.1 Cx.2.1 Cx.2.2.2.2.1 rfl w1 w2 rfl (g := mkF m pc Ls (.int n :: st)) rfl (hb Cx.2.2.1 hd) rfl hn (cap := n.toNatClampNeg) (Nat.le_refl _) hb8 (by omega) (by omega) rfl
  subst e'
  have hle := X'.heapSize
  refine ⟨T', _, _, _, X', N, P.push E (by omega) ⟨_, A, by simp [newA, defaultValue], rfl, Ex, ⟨fun C' q => (by cases q), fun t q => (by cases q; exact O)⟩, fun v hv => by rw [List.eq_of_mem_replicate hv]; rfl⟩, by omega, by rw [show rf hB H.length = .ref T.heap.size from by show Value.ref _ = _; rw [hp1]]; exact k⟩
theorem inb {c : Cell} {vs : List Value} {j : Int32} {v : Value} (hc : c.slots = vs.toArray) (h0 : ¬ j < 0) (hv : vs[j.toNatClampNeg]? = some v) : ¬ (j < 0 ∨ c.slots.size ≤ j.toNatClampNeg) ∧ c.slots[j.toNatClampNeg]? = some v := by
  have := (List.getElem?_eq_some_iff.mp hv).1
  refine ⟨fun q => q.elim h0 fun z => ?_, by rw [hc]; simpa using hv⟩
  rw [hc, List.size_toArray] at z; omega
theorem arrLen {i : Nat} {t : FieldType} {vs : List Value} {z : Int32} (hd : decode bytes pc = .ok (.arraylength, 1)) (hi : H[i]? = some (arr t vs)) (hz : vs.length.toInt32 = z) (hp : pc + 1 = pc') (hr : WP l Z hB y bytes ml ret R n1 Q sl H pc' Ls (.int z :: st)) : WP l Z hB y bytes ml ret R n1 Q sl H pc Ls (rf hB i :: st) := by
  subst hp
  refine WP.step (fun p e s m args below meth c T locs cells slots C X P tgt h => ?_) hr
  obtain ⟨cl, h1, h2, -⟩ := P.at hi
  exact X.arraylength C.1 h1.1 (State.isArrayOf_alike C.2.1.alike h1.2.1) (g := mkF m pc Ls (rf hB i :: st)) rfl rfl (hb C.2.2.1 hd) _ (by rw [h2, List.size_toArray, hz]; exact h)
theorem arrLenOld {a : Addr} {t : FieldType} {cl : Cell} {z : Int32} (hd : decode bytes pc = .ok (.arraylength, 1)) (A : Arr Z hB a cl t) (hz : cl.slots.size.toInt32 = z) (hp : pc + 1 = pc') (hr : WP l Z hB y bytes ml ret R n1 Q sl H pc' Ls (.int z :: st)) : WP l Z hB y bytes ml ret R n1 Q sl H pc Ls (.ref a :: st) := by
  subst hp
  refine WP.step (fun p e s m args below meth c T locs cells slots C X P tgt h => ?_) hr
  have h1 := A.ext P.toExt
  exact X.arraylength C.1 h1.1 (State.isArrayOf_alike C.2.1.alike h1.2.1) (g := mkF m pc Ls (.ref a :: st)) rfl rfl (hb C.2.2.1 hd) _ (by rw [hz]; exact h)
theorem iaload {i : Nat} {vs : List Value} {j : Int32} {v : Value} {jn : Nat} (hd : decode bytes pc = .ok (.iaload, 1)) (hi : H[i]? = some (arr .int vs)) (h0 : ¬ j < 0) (hjn : j.toNatClampNeg = jn) (hv : vs[jn]? = some v) (hp : pc + 1 = pc') (hr : WP l Z hB y bytes ml ret R n1 Q sl H pc' Ls (v :: st)) : WP l Z hB y bytes ml ret R n1 Q sl H pc Ls (.int j :: rf hB i :: st) := by
  subst hp; subst hjn
  refine WP.step (fun p e s m args below meth c T locs cells slots C X P tgt h => ?_) hr
  obtain ⟨cl, h1, h2, -⟩ := P.at hi
  exact X.iaload C.1 h1.1 (State.isArrayOf_alike C.2.1.alike h1.2.1) h1.2.2 (inb h2 h0 hv).1 (inb h2 h0 hv).2 (g := mkF m pc Ls (.int j :: rf hB i :: st)) rfl rfl (hb C.2.2.1 hd) _ h
theorem laload {i : Nat} {vs : List Value} {j : Int32} {v : Value} {jn : Nat} (hd : decode bytes pc = .ok (.laload, 1)) (hi : H[i]? = some (arr .long vs)) (h0 : ¬ j < 0) (hjn : j.toNatClampNeg = jn) (hv : vs[jn]? = some v) (hp : pc + 1 = pc') (hr : WP l Z hB y bytes ml ret R n1 Q sl H pc' Ls (v :: st)) : WP l Z hB y bytes ml ret R n1 Q sl H pc Ls (.int j :: rf hB i :: st) := by
  subst hp; subst hjn
  refine WP.step (fun p e s m args below meth c T locs cells slots C X P tgt h => ?_) hr
  obtain ⟨cl, h1, h2, -⟩ := P.at hi
  exact X.laload C.1 h1.1 (State.isArrayOf_alike C.2.1.alike h1.2.1) h1.2.2 (inb h2 h0 hv).1 (inb h2 h0 hv).2 (g := mkF m pc Ls (.int j :: rf hB i :: st)) rfl rfl (hb C.2.2.1 hd) _ h
theorem caload {i : Nat} {vs : List Value} {j : Int32} {v : Value} {jn : Nat} (hd : decode bytes pc = .ok (.caload, 1)) (hi : H[i]? = some (arr .char vs)) (h0 : ¬ j < 0) (hjn : j.toNatClampNeg = jn) (hv : vs[jn]? = some v) (hp : pc + 1 = pc') (hr : WP l Z hB y bytes ml ret R n1 Q sl H pc' Ls (v :: st)) : WP l Z hB y bytes ml ret R n1 Q sl H pc Ls (.int j :: rf hB i :: st) := by
  subst hp; subst hjn
  refine WP.step (fun p e s m args below meth c T locs cells slots C X P tgt h => ?_) hr
  obtain ⟨cl, h1, h2, -⟩ := P.at hi
  exact X.caload C.1 h1.1 (State.isArrayOf_alike C.2.1.alike h1.2.1) h1.2.2 (inb h2 h0 hv).1 (inb h2 h0 hv).2 (g := mkF m pc Ls (.int j :: rf hB i :: st)) rfl rfl (hb C.2.2.1 hd) _ h
theorem baload {i : Nat} {vs : List Value} {j : Int32} {v : Value} {jn : Nat} (hd : decode bytes pc = .ok (.baload, 1)) (hi : H[i]? = some (arr .byte vs)) (h0 : ¬ j < 0) (hjn : j.toNatClampNeg = jn) (hv : vs[jn]? = some v) (hp : pc + 1 = pc') (hr : WP l Z hB y bytes ml ret R n1 Q sl H pc' Ls (v :: st)) : WP l Z hB y bytes ml ret R n1 Q sl H pc Ls (.int j :: rf hB i :: st) := by
  subst hp; subst hjn
  refine WP.step (fun p e s m args below meth c T locs cells slots C X P tgt h => ?_) hr
  obtain ⟨cl, h1, h2, -⟩ := P.at hi
  exact X.baloadBytes C.1 h1.1 (State.isArrayOf_alike C.2.1.alike h1.2.1) h1.2.2 (inb h2 h0 hv).1 (inb h2 h0 hv).2 (g := mkF m pc Ls (.int j :: rf hB i :: st)) rfl rfl (hb C.2.2.1 hd) _ h
theorem zaload {i : Nat} {vs : List Value} {j : Int32} {v : Value} {jn : Nat} (hd : decode bytes pc = .ok (.baload, 1)) (hi : H[i]? = some (arr .boolean vs)) (h0 : ¬ j < 0) (hjn : j.toNatClampNeg = jn) (hv : vs[jn]? = some v) (hp : pc + 1 = pc') (hr : WP l Z hB y bytes ml ret R n1 Q sl H pc' Ls (v :: st)) : WP l Z hB y bytes ml ret R n1 Q sl H pc Ls (.int j :: rf hB i :: st) := by
  subst hp; subst hjn
  refine WP.step (fun p e s m args below meth c T locs cells slots C X P tgt h => ?_) hr
  obtain ⟨cl, h1, h2, -⟩ := P.at hi
  exact X.baloadBooleans C.1 h1.1 (State.isArrayOf_alike C.2.1.alike h1.2.1) h1.2.2 (inb h2 h0 hv).1 (inb h2 h0 hv).2 (g := mkF m pc Ls (.int j :: rf hB i :: st)) rfl rfl (hb C.2.2.1 hd) _ h
theorem aaload {i : Nat} {t : FieldType} {vs : List Value} {j : Int32} {v : Value} {jn : Nat} (hd : decode bytes pc = .ok (.aaload, 1)) (hi : H[i]? = some (arr t vs)) (ht : t.isReference = true) (h0 : ¬ j < 0) (hjn : j.toNatClampNeg = jn) (hv : vs[jn]? = some v) (hp : pc + 1 = pc') (hr : WP l Z hB y bytes ml ret R n1 Q sl H pc' Ls (v :: st)) : WP l Z hB y bytes ml ret R n1 Q sl H pc Ls (.int j :: rf hB i :: st) := by
  subst hp; subst hjn
  refine WP.step (fun p e s m args below meth c T locs cells slots C X P tgt h => ?_) hr
  obtain ⟨cl, h1, h2, -⟩ := P.at hi
  exact X.aaload C.1 h1.1 (State.isArrayOf_alike C.2.1.alike h1.2.1) ht h1.2.2 (inb h2 h0 hv).1 (inb h2 h0 hv).2 (g := mkF m pc Ls (.int j :: rf hB i :: st)) rfl rfl (hb C.2.2.1 hd) _ h
theorem baloadOld {a : Addr} {cl : Cell} {j : Int32} {v : Value} (hd : decode bytes pc = .ok (.baload, 1)) (A : Arr Z hB a cl .byte) (h0 : ¬ (j < 0 ∨ cl.slots.size ≤ j.toNatClampNeg)) (hv : cl.slots[j.toNatClampNeg]? = some v) (hp : pc + 1 = pc') (hr : WP l Z hB y bytes ml ret R n1 Q sl H pc' Ls (v :: st)) : WP l Z hB y bytes ml ret R n1 Q sl H pc Ls (.int j :: .ref a :: st) := by
  subst hp
  refine WP.step (fun p e s m args below meth c T locs cells slots C X P tgt h => ?_) hr
  have h1 := A.ext P.toExt
  exact X.baloadBytes C.1 h1.1 (State.isArrayOf_alike C.2.1.alike h1.2.1) h1.2.2 h0 hv (g := mkF m pc Ls (.int j :: .ref a :: st)) rfl rfl (hb C.2.2.1 hd) _ h
theorem ialoadOld {a : Addr} {cl : Cell} {j : Int32} {v : Value} (hd : decode bytes pc = .ok (.iaload, 1)) (A : Arr Z hB a cl .int) (h0 : ¬ (j < 0 ∨ cl.slots.size ≤ j.toNatClampNeg)) (hv : cl.slots[j.toNatClampNeg]? = some v) (hp : pc + 1 = pc') (hr : WP l Z hB y bytes ml ret R n1 Q sl H pc' Ls (v :: st)) : WP l Z hB y bytes ml ret R n1 Q sl H pc Ls (.int j :: .ref a :: st) := by
  subst hp
  refine WP.step (fun p e s m args below meth c T locs cells slots C X P tgt h => ?_) hr
  have h1 := A.ext P.toExt
  exact X.iaload C.1 h1.1 (State.isArrayOf_alike C.2.1.alike h1.2.1) h1.2.2 h0 hv (g := mkF m pc Ls (.int j :: .ref a :: st)) rfl rfl (hb C.2.2.1 hd) _ h
theorem aaloadOld {a : Addr} {t : FieldType} {cl : Cell} {j : Int32} {v : Value} (hd : decode bytes pc = .ok (.aaload, 1)) (A : Arr Z hB a cl t) (ht : t.isReference = true) (h0 : ¬ (j < 0 ∨ cl.slots.size ≤ j.toNatClampNeg)) (hv : cl.slots[j.toNatClampNeg]? = some v) (hp : pc + 1 = pc') (hr : WP l Z hB y bytes ml ret R n1 Q sl H pc' Ls (v :: st)) : WP l Z hB y bytes ml ret R n1 Q sl H pc Ls (.int j :: .ref a :: st) := by
  subst hp
  refine WP.step (fun p e s m args below meth c T locs cells slots C X P tgt h => ?_) hr
  have h1 := A.ext P.toExt
  exact X.aaload C.1 h1.1 (State.isArrayOf_alike C.2.1.alike h1.2.1) ht h1.2.2 h0 hv (g := mkF m pc Ls (.int j :: .ref a :: st)) rfl rfl (hb C.2.2.1 hd) _ h
theorem iastore {i : Nat} {vs : List Value} {j : Int32} {x : Int32} {jn : Nat} (hd : decode bytes pc = .ok (.iastore, 1)) (hi : H[i]? = some (arr .int vs)) (h0 : ¬ j < 0) (hjn : j.toNatClampNeg = jn) (hlt : jn < vs.length) (hH : H.set i (arr .int (vs.set jn (.int x))) = H') (hp : pc + 1 = pc') (hr : WP l Z hB y bytes ml ret R n1 Q sl H' pc' Ls st) : WP l Z hB y bytes ml ret R n1 Q sl H pc Ls (.int x :: .int j :: rf hB i :: st) := by
  subst hp; subst hH; subst hjn
  refine WP.stepH (fun p e s m args below meth c T locs cells slots C X hz N P hs => ?_) hr
  obtain ⟨cl, h1, h2, -⟩ := P.at hi
  obtain ⟨T', h', X', e', W, k⟩ := stI X C.1 C.2.1 rfl h1 (inb h2 h0 (List.getElem?_eq_getElem hlt)).1 (g := mkF m pc Ls (.int x :: .int j :: rf hB i :: st)) rfl rfl (hb C.2.2.1 hd)
  exact ⟨T', _, _, _, X', Fr.snoc X' N (Nat.le_add_right _ _), by rw [e']; exact P.wrA hi (rfl) W, hs, k⟩
theorem lastore {i : Nat} {vs : List Value} {j : Int32} {x : Int64} {jn : Nat} (hd : decode bytes pc = .ok (.lastore, 1)) (hi : H[i]? = some (arr .long vs)) (h0 : ¬ j < 0) (hjn : j.toNatClampNeg = jn) (hlt : jn < vs.length) (hH : H.set i (arr .long (vs.set jn (.long x))) = H') (hp : pc + 1 = pc') (hr : WP l Z hB y bytes ml ret R n1 Q sl H' pc' Ls st) : WP l Z hB y bytes ml ret R n1 Q sl H pc Ls (.long x :: .int j :: rf hB i :: st) := by
  subst hp; subst hH; subst hjn
  refine WP.stepH (fun p e s m args below meth c T locs cells slots C X hz N P hs => ?_) hr
  obtain ⟨cl, h1, h2, -⟩ := P.at hi
  obtain ⟨T', h', X', e', W, k⟩ := stJ X C.1 C.2.1 rfl h1 (inb h2 h0 (List.getElem?_eq_getElem hlt)).1 (g := mkF m pc Ls (.long x :: .int j :: rf hB i :: st)) rfl rfl (hb C.2.2.1 hd)
  exact ⟨T', _, _, _, X', Fr.snoc X' N (Nat.le_add_right _ _), by rw [e']; exact P.wrA hi (rfl) W, hs, k⟩
theorem castore {i : Nat} {vs : List Value} {j : Int32} {x : Int32} {jn : Nat} (hd : decode bytes pc = .ok (.castore, 1)) (hi : H[i]? = some (arr .char vs)) (h0 : ¬ j < 0) (hjn : j.toNatClampNeg = jn) (hlt : jn < vs.length) (hH : H.set i (arr .char (vs.set jn (.int (nar .char x)))) = H') (hp : pc + 1 = pc') (hr : WP l Z hB y bytes ml ret R n1 Q sl H' pc' Ls st) : WP l Z hB y bytes ml ret R n1 Q sl H pc Ls (.int x :: .int j :: rf hB i :: st) := by
  subst hp; subst hH; subst hjn
  refine WP.stepH (fun p e s m args below meth c T locs cells slots C X hz N P hs => ?_) hr
  obtain ⟨cl, h1, h2, -⟩ := P.at hi
  obtain ⟨T', h', X', e', W, k⟩ := stC X C.1 C.2.1 rfl h1 (inb h2 h0 (List.getElem?_eq_getElem hlt)).1 (g := mkF m pc Ls (.int x :: .int j :: rf hB i :: st)) rfl rfl (hb C.2.2.1 hd)
  exact ⟨T', _, _, _, X', Fr.snoc X' N (Nat.le_add_right _ _), by rw [e']; exact P.wrA hi (fits_nar_char x) W, hs, k⟩
theorem bastore {i : Nat} {vs : List Value} {j : Int32} {x : Int32} {jn : Nat} (hd : decode bytes pc = .ok (.bastore, 1)) (hi : H[i]? = some (arr .byte vs)) (h0 : ¬ j < 0) (hjn : j.toNatClampNeg = jn) (hlt : jn < vs.length) (hH : H.set i (arr .byte (vs.set jn (.int (nar .byte x)))) = H') (hp : pc + 1 = pc') (hr : WP l Z hB y bytes ml ret R n1 Q sl H' pc' Ls st) : WP l Z hB y bytes ml ret R n1 Q sl H pc Ls (.int x :: .int j :: rf hB i :: st) := by
  subst hp; subst hH; subst hjn
  refine WP.stepH (fun p e s m args below meth c T locs cells slots C X hz N P hs => ?_) hr
  obtain ⟨cl, h1, h2, -⟩ := P.at hi
  obtain ⟨T', h', X', e', W, k⟩ := stB X C.1 C.2.1 rfl h1 (inb h2 h0 (List.getElem?_eq_getElem hlt)).1 (g := mkF m pc Ls (.int x :: .int j :: rf hB i :: st)) rfl rfl (hb C.2.2.1 hd)
  exact ⟨T', _, _, _, X', Fr.snoc X' N (Nat.le_add_right _ _), by rw [e']; exact P.wrA hi (fits_nar_byte x) W, hs, k⟩
theorem zastore {i : Nat} {vs : List Value} {j : Int32} {x : Int32} {jn : Nat} (hd : decode bytes pc = .ok (.bastore, 1)) (hi : H[i]? = some (arr .boolean vs)) (h0 : ¬ j < 0) (hjn : j.toNatClampNeg = jn) (hlt : jn < vs.length) (hH : H.set i (arr .boolean (vs.set jn (.int (nar .boolean x)))) = H') (hp : pc + 1 = pc') (hr : WP l Z hB y bytes ml ret R n1 Q sl H' pc' Ls st) : WP l Z hB y bytes ml ret R n1 Q sl H pc Ls (.int x :: .int j :: rf hB i :: st) := by
  subst hp; subst hH; subst hjn
  refine WP.stepH (fun p e s m args below meth c T locs cells slots C X hz N P hs => ?_) hr
  obtain ⟨cl, h1, h2, -⟩ := P.at hi
  obtain ⟨T', h', X', e', W, k⟩ := stZ X C.1 C.2.1 rfl h1 (inb h2 h0 (List.getElem?_eq_getElem hlt)).1 (g := mkF m pc Ls (.int x :: .int j :: rf hB i :: st)) rfl rfl (hb C.2.2.1 hd)
  exact ⟨T', _, _, _, X', Fr.snoc X' N (Nat.le_add_right _ _), by rw [e']; exact P.wrA hi (fits_nar_bool x) W, hs, k⟩
theorem aastore {i : Nat} {t : FieldType} {vs : List Value} {j : Int32} {v : Value} {jn : Nat} (hd : decode bytes pc = .ok (.aastore, 1)) (hi : H[i]? = some (arr t vs)) (ht : t.isReference = true) (F : ∀ h, Hp Z hB h H → Sto Z h (hB.size + i) v) (hf : fits t v = true) (h0 : ¬ j < 0) (hjn : j.toNatClampNeg = jn) (hlt : jn < vs.length) (hH : H.set i (arr t (vs.set jn v)) = H') (hp : pc + 1 = pc') (hr : WP l Z hB y bytes ml ret R n1 Q sl H' pc' Ls st) : WP l Z hB y bytes ml ret R n1 Q sl H pc Ls (v :: .int j :: rf hB i :: st) := by
  subst hp; subst hH; subst hjn
  refine WP.stepH (fun p e s m args below meth c T locs cells slots C X hz N P hs => ?_) hr
  obtain ⟨cl, h1, h2, -⟩ := P.at hi
  obtain ⟨T', h', X', e', W, k⟩ := stR X C.1 C.2.1 rfl h1 (inb h2 h0 (List.getElem?_eq_getElem hlt)).1 ht (F _ P) (g := mkF m pc Ls (v :: .int j :: rf hB i :: st)) rfl rfl (hb C.2.2.1 hd)
  exact ⟨T', _, _, _, X', Fr.snoc X' N (Nat.le_add_right _ _), by rw [e']; exact P.wrA hi hf W, hs, k⟩
theorem ialoadI {i : Nat} {xs : List Int32} {j x : Int32} {jn : Nat} (hd : decode bytes pc = .ok (.iaload, 1)) (hi : H[i]? = some (ints xs)) (h0 : ¬ j < 0) (hjn : j.toNatClampNeg = jn) (hv : xs[jn]? = some x) (hp : pc + 1 = pc') (hr : WP l Z hB y bytes ml ret R n1 Q sl H pc' Ls (.int x :: st)) : WP l Z hB y bytes ml ret R n1 Q sl H pc Ls (.int j :: rf hB i :: st) :=
  iaload hd hi h0 hjn (by rw [List.getElem?_map, hv]; rfl) hp hr
theorem iastoreI {i : Nat} {xs : List Int32} {j x : Int32} {jn : Nat} (hd : decode bytes pc = .ok (.iastore, 1)) (hi : H[i]? = some (ints xs)) (h0 : ¬ j < 0) (hjn : j.toNatClampNeg = jn) (hlt : jn < xs.length) (hH : H.set i (ints (xs.set jn x)) = H') (hp : pc + 1 = pc') (hr : WP l Z hB y bytes ml ret R n1 Q sl H' pc' Ls st) : WP l Z hB y bytes ml ret R n1 Q sl H pc Ls (.int x :: .int j :: rf hB i :: st) :=
  iastore hd hi h0 hjn (by rw [List.length_map]; exact hlt) (by rw [← hH]; show H.set i (arr .int ((xs.map Value.int).set jn (Value.int x))) = H.set i (arr .int ((xs.set jn x).map Value.int)); rw [List.map_set]) hp hr
theorem ialoadG {i : Nat} {xs : List Int32} {j x : Int32} (hd : decode bytes pc = .ok (.iaload, 1)) (hi : H[i]? = some (ints xs)) (hg : gI xs j = some x) (hp : pc + 1 = pc') (hr : WP l Z hB y bytes ml ret R n1 Q sl H pc' Ls (.int x :: st)) : WP l Z hB y bytes ml ret R n1 Q sl H pc Ls (.int j :: rf hB i :: st) :=
  ialoadI hd hi (gI_at hg).1 rfl (gI_at hg).2 hp hr
theorem iastoreG {i : Nat} {xs xs' : List Int32} {j x : Int32} (hd : decode bytes pc = .ok (.iastore, 1)) (hi : H[i]? = some (ints xs)) (hg : sI xs j x = some xs') (hH : H.set i (ints xs') = H') (hp : pc + 1 = pc') (hr : WP l Z hB y bytes ml ret R n1 Q sl H' pc' Ls st) : WP l Z hB y bytes ml ret R n1 Q sl H pc Ls (.int x :: .int j :: rf hB i :: st) :=
  iastoreI hd hi (sI_at hg).1 rfl (sI_at hg).2.1 (by rw [← hH, (sI_at hg).2.2]) hp hr
theorem lastoreG {i : Nat} {xs xs' : List Int64} {j : Int32} {x : Int64} (hd : decode bytes pc = .ok (.lastore, 1)) (hi : H[i]? = some (longs xs)) (hg : sJ xs j x = some xs') (hH : H.set i (longs xs') = H') (hp : pc + 1 = pc') (hr : WP l Z hB y bytes ml ret R n1 Q sl H' pc' Ls st) : WP l Z hB y bytes ml ret R n1 Q sl H pc Ls (.long x :: .int j :: rf hB i :: st) :=
  lastore hd hi (sJ_at hg).1 rfl (by rw [List.length_map]; exact (sJ_at hg).2.1) (by rw [← hH, (sJ_at hg).2.2]; show H.set i (arr .long ((xs.map Value.long).set j.toNatClampNeg (Value.long x))) = H.set i (arr .long ((xs.set j.toNatClampNeg x).map Value.long)); rw [List.map_set]) hp hr
theorem stoO {h : Heap} (P : Hp Z hB h H) {i : Nat} {C : String} {vs : List Value} {b : Addr} (hi : H[i]? = some (arr (.object C) vs)) (I : Ins Z h b C true) : Sto Z h (hB.size + i) (.ref b) := by
  obtain ⟨cl, h1, -, -, -, h6, -⟩ := P.at hi
  exact Sto.of h1 (h6.1 _ rfl) I
theorem stoA {h : Heap} (P : Hp Z hB h H) {i : Nat} {ty : FieldType} {C : String} {vs : List Value} {b : Addr} (hi : H[i]? = some (arr (.array ty) vs)) (hC : (FieldType.array ty).toString = C) (I : Ins Z h b C true) : Sto Z h (hB.size + i) (.ref b) := by
  subst hC
  obtain ⟨cl, h1, -, -, -, h6, -⟩ := P.at hi
  obtain ⟨k, comp, o1, o2, o3⟩ := h6.2 _ rfl
  obtain ⟨cv, cT, i1, i2, i3⟩ := I
  cases o3.symm.trans i2
  simp only [Bool.and_eq_true, Bool.not_eq_true'] at i3
  obtain ⟨kc, q⟩ := Vm.classAt_of_findClass o3
  obtain ⟨kv, q2⟩ := Vm.classAt_of_assignable i3.2 ⟨kc, q⟩
  exact Or.inr ⟨cl, cv, k, kv, kc, _, _, b, h1.1, o1, o2, q, rfl, i1, i3.1, q2, i3.2⟩
/-- System.arraycopy into an array made since -/
theorem arraycopy {a : Addr} {i index : Nat} {t t' : FieldType} {vs vd us : List Value} {z sp dp nn : Int32} {spn dpn n : Nat} {dv : Value} (hd : decode bytes pc = .ok (.invokestatic index, 3)) (w1 : (Jvm.Cond.methodLink y.cls index Jvm.Stand.acN).before a0 Z = true) (w2 : (Jvm.Cond.native Jvm.Stand.acN).before a0 Z = true) (w3 : (Jvm.Cond.static Jvm.Stand.acN).before a0 Z = true) (w4 : (Jvm.Cond.initialized "java/lang/System").before a0 Z = true)
    (A : ∀ h, Hp Z hB h H → ∃ k, Arv Z h a k t z vs dv) (hi : H[i]? = some (arr t' vd)) (hty : (t = t' ∧ refKind t = false) ∨ (refKind t = true ∧ refKind t' = true ∧ ∀ h, Hp Z hB h H → StoL Z h (hB.size + i) us)) (h1 : ¬ sp < 0) (h2 : ¬ dp < 0) (h3 : ¬ nn < 0) (e1 : sp.toNatClampNeg = spn) (e2 : dp.toNatClampNeg = dpn) (e3 : nn.toNatClampNeg = n) (h4 : spn + n ≤ z.toNatClampNeg) (h5 : dpn + n ≤ vd.length) (hl : vd.length < 2 ^ 31)
    (hus : us = (List.range n).map fun j => vs.getD (spn + j) dv) (hml : Ls.size = ml) (hf : 1 ≤ R.frames) (hlo : (st.map fun v => v.category).sum + (nativeFrameWords "java/lang/System" "arraycopy" 5 + 11) ≤ R.locals) (hH : H.set i (arr t' (vd.take dpn ++ us ++ vd.drop (dpn + n))) = H') (hp : pc + 3 = pc') (hr : WP l Z hB y bytes ml ret R n1 Q sl H' pc' Ls st) : WP l Z hB y bytes ml ret R n1 Q sl H pc Ls (.int nn :: .int dp :: rf hB i :: .int sp :: .ref a :: st) := by
  subst hp; subst hH; subst e1; subst e2; subst e3
  refine WP.stepH (fun p e s m args below meth c T locs cells slots C X hz N P hs => ?_) hr
  obtain ⟨k, A⟩ := A _ P
  obtain ⟨k', B⟩ := P.arv hi hl .null
  obtain ⟨T', h', L, X', e', N', K, B', stp⟩ := cpA X C.1 C.2.1 C.2.2.2.2.1 w1 w2 w3 w4 rfl A B (hty.imp id fun q => ⟨q.1, q.2.1, q.2.2 _ P⟩) h1 h2 h3 h4 (by rw [(toNat_len hl).1]; exact h5) hus h5 N (Nat.le_add_right _ _) (g := mkF m pc Ls (.int nn :: .int dp :: rf hB i :: .int sp :: .ref a :: st)) rfl (hml.trans C.2.2.2.1.symm) rfl (hb C.2.2.1 hd) hf (W := (st.map fun v => v.category).sum) (by show 2 * 0 + _ ≤ _; omega) hlo
  subst e'
  have hle := X'.heapSize
  have ul : us.length = nn.toNatClampNeg := by rw [hus]; simp
  exact ⟨T', L, cells, slots, X', N', P.copied hi (by omega) K hl (by simp only [List.length_append, List.length_take, List.length_drop, ul]; omega) B', hs, stp⟩
theorem ldcInt {index : Nat} {x : Int32} (hd : decode bytes pc = .ok (.ldc index, 2)) (w : (Jvm.Cond.constant y.cls index x).before a0 Z = true) (hp : pc + 2 = pc') (hr : WP l Z hB y bytes ml ret R n1 Q sl H pc' Ls (.int x :: st)) : WP l Z hB y bytes ml ret R n1 Q sl H pc Ls st := by
  subst hp
  exact WP.step (fun p e s m args below meth c T locs cells slots C X P tgt h => X.ldcInt C.1 C.2.2.2.2.1 (mvT C.2.1 w) (g := mkF m pc Ls st) rfl (hb C.2.2.1 hd) _ h) hr
theorem ldc2Long {index : Nat} {x : Int64} (hd : decode bytes pc = .ok (.ldc2_w index, 3)) (w : (Jvm.Cond.constantLong y.cls index x).before a0 Z = true) (hp : pc + 3 = pc') (hr : WP l Z hB y bytes ml ret R n1 Q sl H pc' Ls (.long x :: st)) : WP l Z hB y bytes ml ret R n1 Q sl H pc Ls st := by
  subst hp
  exact WP.step (fun p e s m args below meth c T locs cells slots C X P tgt h => X.ldc2Long C.1 C.2.2.2.2.1 (mvT C.2.1 w) (g := mkF m pc Ls st) rfl (hb C.2.2.1 hd) _ h) hr
theorem getCls {a mr : Addr} {C : String} {index : Nat} (hd : decode bytes pc = .ok (.invokevirtual index, 3)) (w1 : (Jvm.Cond.methodLink y.cls index Jvm.Stand.gcN).before a0 Z = true) (w2 : (Jvm.Cond.declares Jvm.Stand.gcN).before a0 Z = true) (hnf : ∀ s : State, Z.Warmed39 s.vm → NotFace s Jvm.Stand.gcN) (w4 : (Jvm.Cond.selects C Jvm.Stand.gcN Jvm.Stand.gcN).before a0 Z = true) (w5 : (Jvm.Cond.instanceMethod Jvm.Stand.gcN).before a0 Z = true) (w6 : (Jvm.Cond.native Jvm.Stand.gcN).before a0 Z = true) (E : ∀ h, Hp Z hB h H → Exa Z h a C) (M : Mir Z C mr) (hml : Ls.size = ml) (hf : 1 ≤ R.frames) (hlo : (st.map fun v => v.category).sum + (nativeFrameWords "java/lang/Object" "getClass" 1 + 11) ≤ R.locals) (hp : pc + 3 = pc') (hr : WP l Z hB y bytes ml ret R n1 Q sl H pc' Ls (.ref mr :: st)) : WP l Z hB y bytes ml ret R n1 Q sl H pc Ls (.ref a :: st) := by
  subst hp
  refine WP.stepT (fun p e s m args below meth c T locs cells slots C' X P => ?_) hr
  obtain ⟨cB, kB, i1, i2, i3⟩ := isOf (s := s) (T := T) C'.2.1 rfl (E _ P)
  obtain ⟨cc, kc, m1, m2, m3, -⟩ := M
  rw [C'.2.1.alike.findClass] at i1
  cases i1.symm.trans m1
  obtain ⟨k', q, ek⟩ := C'.2.1.alike.2.2 _ _ m2
  obtain ⟨vm', X', st⟩ := X.getClassOf C'.1 C'.2.2.2.2.1 (mvT C'.2.1 w1) (mvT C'.2.1 w2) (hnf s C'.2.1) (mvT C'.2.1 w4) (mvT C'.2.1 w5) (mvT C'.2.1 w6) (by rw [C'.2.1.alike.findClass]; exact m1) i3 q (by rw [ek]; exact m3) (g := mkF m pc Ls (.ref a :: st)) rfl (hml.trans C'.2.2.2.1.symm) rfl (hb C'.2.2.1 hd) hf (by show 2 * 0 + _ + _ ≤ _; omega)
  exact ⟨_, X', rfl, st⟩
theorem ldcMir {mr : Addr} {C : String} {index : Nat} (hd : decode bytes pc = .ok (.ldc index, 2)) (w : (Jvm.Cond.classLink y.cls index C).before a0 Z = true) (M : Mir Z C mr) (hp : pc + 2 = pc') (hr : WP l Z hB y bytes ml ret R n1 Q sl H pc' Ls (.ref mr :: st)) : WP l Z hB y bytes ml ret R n1 Q sl H pc Ls st := by
  subst hp
  refine WP.stepT (fun p e s m args below meth c T locs cells slots C' X P => ?_) hr
  obtain ⟨cc, kc, m1, m2, m3, -⟩ := M
  obtain ⟨k', q, ek⟩ := C'.2.1.alike.2.2 _ _ m2
  have f1 : s.vm.findClass C = some cc := by rw [C'.2.1.alike.findClass]; exact m1
  have hm : k'.mirror = some mr := by rw [ek]; exact m3
  have hev : (Term.mirror C).eval args s none [] s = some (.ref mr) := by simp [Term.eval, f1, q, hm]
  obtain ⟨vm', X', st⟩ := X.ldcMirror C'.1 C'.2.2.2.2.1 (mvT C'.2.1 w) hev (g := mkF m pc Ls st) rfl (hb C'.2.2.1 hd)
  exact ⟨_, X', rfl, st⟩
theorem castTo {K : String} {index : Nat} {a : Addr} (hd : decode bytes pc = .ok (.checkcast index, 3)) (w : (Jvm.Cond.classLink y.cls index K).before a0 Z = true) (F : ∀ h, Hp Z hB h H → Ins Z h a K true) (hp : pc + 3 = pc') (hr : WP l Z hB y bytes ml ret R n1 Q sl H pc' Ls (.ref a :: st)) : WP l Z hB y bytes ml ret R n1 Q sl H pc Ls (.ref a :: st) := by
  subst hp
  exact WP.stepT (fun p e s m args below meth c T locs cells slots C X P => castY X C.1 C.2.1 C.2.2.2.2.1 w rfl (F _ P) (g := mkF m pc Ls (.ref a :: st)) rfl rfl (hb C.2.2.1 hd)) hr
theorem instYes {K : String} {index : Nat} {a : Addr} (hd : decode bytes pc = .ok (.instanceof index, 3)) (w : (Jvm.Cond.classLink y.cls index K).before a0 Z = true) (F : ∀ h, Hp Z hB h H → Ins Z h a K true) (hp : pc + 3 = pc') (hr : WP l Z hB y bytes ml ret R n1 Q sl H pc' Ls (.int 1 :: st)) : WP l Z hB y bytes ml ret R n1 Q sl H pc Ls (.ref a :: st) := by
  subst hp
  exact WP.stepT (fun p e s m args below meth c T locs cells slots C X P => instY X C.1 C.2.1 C.2.2.2.2.1 w rfl (F _ P) (g := mkF m pc Ls (.ref a :: st)) rfl rfl (hb C.2.2.1 hd)) hr
theorem instNot {K C : String} {index : Nat} {a : Addr} (hd : decode bytes pc = .ok (.instanceof index, 3)) (w : (Jvm.Cond.classLink y.cls index K).before a0 Z = true) (E : ∀ h, Hp Z hB h H → Exa Z h a C) (F : ∃ c t, Z.vm.findClass C = some c ∧ Z.vm.findClass K = some t ∧ Z.vm.assignable c t = false) (hp : pc + 3 = pc') (hr : WP l Z hB y bytes ml ret R n1 Q sl H pc' Ls (.int 0 :: st)) : WP l Z hB y bytes ml ret R n1 Q sl H pc Ls (.ref a :: st) := by
  subst hp
  exact WP.stepT (fun p e s m args below meth c T locs cells slots C X P => instNo X C.1 C.2.1 C.2.2.2.2.1 w rfl (E _ P) F (g := mkF m pc Ls (.ref a :: st)) rfl rfl (hb C.2.2.1 hd)) hr
theorem instNull {index : Nat} (hd : decode bytes pc = .ok (.instanceof index, 3)) (hp : pc + 3 = pc') (hr : WP l Z hB y bytes ml ret R n1 Q sl H pc' Ls (.int 0 :: st)) : WP l Z hB y bytes ml ret R n1 Q sl H pc Ls (.null :: st) := by
  subst hp
  exact WP.step (fun p e s m args below meth c T locs cells slots C X P tgt h => X.instanceofNull C.1 (g := mkF m pc Ls (.null :: st)) rfl rfl (hb C.2.2.1 hd) _ h) hr
theorem castNull {index : Nat} (hd : decode bytes pc = .ok (.checkcast index, 3)) (hp : pc + 3 = pc') (hr : WP l Z hB y bytes ml ret R n1 Q sl H pc' Ls (.null :: st)) : WP l Z hB y bytes ml ret R n1 Q sl H pc Ls (.null :: st) := by
  subst hp
  exact WP.step (fun p e s m args below meth c T locs cells slots C X P tgt h => X.checkcastNull C.1 (g := mkF m pc Ls (.null :: st)) rfl rfl (hb C.2.2.1 hd) _ h) hr
/-! returns -/
theorem retV {w : Value} {t : FieldType} {i : Instr} (hd : decode bytes pc = .ok (i, 1)) (hret : ret = some t) (hn : narrow t w = w)
    (hi : (i = .ireturn ∧ (t = .int ∨ t = .boolean ∨ t = .byte ∨ t = .char ∨ t = .short) ∧ ∃ z, w = .int z) ∨ (i = .lreturn ∧ t = .long ∧ ∃ z, w = .long z) ∨ (i = .dreturn ∧ t = .double ∧ ∃ z, w = .double z) ∨ (i = .freturn ∧ t = .float ∧ ∃ z, w = .float z) ∨ (i = .areturn ∧ t.isReference = true ∧ w.isRef = true))
    (hc : H.length ≤ n1 + R.cells) (hs : sl ≤ R.slots) (hQ : Q (some w) H) : WP l Z hB y bytes ml ret R n1 Q sl H pc Ls (w :: st) := by
  intro p e s m args below meth c C T locs cells slots X N P hs'
  have hr := C.2.2.2.2.2.2.1.trans hret
  have hsz := C.2.2.2.2.2.2.2.2
  have hp1 := P.1
  obtain ⟨fs, hl, hrun, hended, hW, hsame⟩ := (exact' X (k := R.cells) (by omega)).leave (v := some w) (fun h => by rw [hr] at h; cases h) C.2.2.2.2.2.2.2.1
  exact ⟨_, _, retOut X C.1 hr hn hi (hb C.2.2.1 hd) hl, hrun, hended, some w, locs, H, rfl, hQ, P, N, ⟨_, rfl⟩, hW, hsame.mono (Nat.le_refl _) (Nat.le_trans hs' hs)⟩
theorem iret {x : Int32} {t : FieldType} (hd : decode bytes pc = .ok (.ireturn, 1)) (hret : ret = some t) (ht : t = .int ∨ t = .boolean ∨ t = .byte ∨ t = .char ∨ t = .short) (hn : narrow t (.int x) = .int x) (hc : H.length ≤ n1 + R.cells) (hs : sl ≤ R.slots) (hQ : Q (some (.int x)) H) : WP l Z hB y bytes ml ret R n1 Q sl H pc Ls (.int x :: st) :=
  retV hd hret hn (Or.inl ⟨rfl, ht, _, rfl⟩) hc hs hQ
theorem iretN {x : Int32} {t : FieldType} (hd : decode bytes pc = .ok (.ireturn, 1)) (hret : ret = some t) (ht : t = .boolean ∨ t = .byte ∨ t = .char ∨ t = .short) (hc : H.length ≤ n1 + R.cells) (hs : sl ≤ R.slots) (hQ : Q (some (.int (nar t x))) H) : WP l Z hB y bytes ml ret R n1 Q sl H pc Ls (.int x :: st) := by
  intro p e s m args below meth c C T locs cells slots X N P hs'
  have hr := C.2.2.2.2.2.2.1.trans hret
  have hsz := C.2.2.2.2.2.2.2.2
  have hp1 := P.1
  obtain ⟨fs, hl, hrun, hended, hW, hsame⟩ := (exact' X (k := R.cells) (by omega)).leave (v := some (.int (nar t x))) (fun h => by rw [hr] at h; cases h) C.2.2.2.2.2.2.2.1
  exact ⟨_, _, retN X C.1 hr ht (hb C.2.2.1 hd) hl, hrun, hended, _, locs, H, rfl, hQ, P, N, ⟨_, rfl⟩, hW, hsame.mono (Nat.le_refl _) (Nat.le_trans hs' hs)⟩
theorem lret {x : Int64} (hd : decode bytes pc = .ok (.lreturn, 1)) (hret : ret = some .long) (hc : H.length ≤ n1 + R.cells) (hs : sl ≤ R.slots) (hQ : Q (some (.long x)) H) : WP l Z hB y bytes ml ret R n1 Q sl H pc Ls (.long x :: st) :=
  retV hd hret rfl (Or.inr (Or.inl ⟨rfl, rfl, _, rfl⟩)) hc hs hQ
theorem aret {w : Value} {t : FieldType} (hd : decode bytes pc = .ok (.areturn, 1)) (hret : ret = some t) (ht : t.isReference = true) (hw : w.isRef = true) (hc : H.length ≤ n1 + R.cells) (hs : sl ≤ R.slots) (hQ : Q (some w) H) : WP l Z hB y bytes ml ret R n1 Q sl H pc Ls (w :: st) :=
  retV hd hret (by rcases ref_cases hw with rfl | ⟨a, rfl⟩ <;> cases t <;> first | rfl | cases ht) (Or.inr (Or.inr (Or.inr (Or.inr ⟨rfl, ht, hw⟩)))) hc hs hQ
theorem vret (hd : decode bytes pc = .ok (.return_, 1)) (hret : ret = none) (hc : H.length ≤ n1 + R.cells) (hs : sl ≤ R.slots) (hQ : Q none H) : WP l Z hB y bytes ml ret R n1 Q sl H pc Ls [] := by
  intro p e s m args below meth c C T locs cells slots X N P hs'
  have hr := C.2.2.2.2.2.2.1.trans hret
  have hsz := C.2.2.2.2.2.2.2.2
  have hp1 := P.1
  obtain ⟨fs, hl, hrun, hended, hW, hsame⟩ := (exact' X (k := R.cells) (by omega)).leave (v := none) (fun _ => rfl) C.2.2.2.2.2.2.2.1
  exact ⟨_, _, X.returnOut C.1 hr (hb C.2.2.1 hd) hl, hrun, hended, none, locs, H, rfl, hQ, P, N, ⟨_, rfl⟩, hW, hsame.mono (Nat.le_refl _) (Nat.le_trans hs' hs)⟩
/-! calls -/
section Calls
variable {y' z' : MethodName} {bytes' : ByteArray} {ml' : Nat} {ret' : Option FieldType} {rm : Room} {Q' : Option Value → List Rec → Prop} {index : Nat} {argsL st0 : List Value}
theorem mkBack {p : Program} {e : Env} {s : State} {args : Array Value} {below : List Frame} {h : Heap} {len W : Nat} {as' : Array Value} (hC : Ctr l Z hB y' bytes' ml' ret' [] rm as' H Q') (P : Hp Z hB h H) (hZ : Z.Warmed39 s.vm) (w4 : (Jvm.Cond.code y' bytes' ml' ret').before a0 Z = true) (w3 : (Jvm.Cond.initialized y'.cls).before a0 Z = true) (hfr : rm.frames + 1 ≤ R.frames) (hlo : W + (ml' + 11) + rm.locals ≤ R.locals) :
    Back l R p e below s args y' len W (fun A a => a = as' ∧ A.U.heap = h ∧ A.cells + rm.cells ≤ R.cells ∧ A.slots + rm.slots ≤ R.slots)
      (fun A _ v B => ∃ L, (∃ H', Q' v H' ∧ Hp Z hB B.U.heap H' ∧ Fr hB.size L) ∧ B.locs = A.locs ++ L ∧ B.cells = A.cells + rm.cells ∧ B.slots = A.slots + rm.slots) :=
  backOf (Q := fun v h L => ∃ H', Q' v H' ∧ Hp Z hB h H' ∧ Fr hB.size L) (MetFree.mono hC (fun a s h => ⟨h.1, h.2.1, by rw [h.2.2]; exact P⟩) (fun _ _ _ _ _ h => h) (fun a s o s' _ ⟨v, L, H', h1, h2, h3, h4, h5⟩ => ⟨v, L, h1, ⟨H', h2, h3, h4⟩, h5⟩)) hZ w4 w3 hfr hlo
theorem callS (hd : decode bytes pc = .ok (.invokestatic index, 3)) (w1 : (Jvm.Cond.methodLink y.cls index y').before a0 Z = true) (w2 : (Jvm.Cond.static y').before a0 Z = true) (w3 : (Jvm.Cond.initialized y'.cls).before a0 Z = true) (w4 : (Jvm.Cond.code y' bytes' ml' ret').before a0 Z = true) (hy : y'.cls ≠ "java/lang/invoke/MethodHandle" ∧ y'.cls ≠ "java/lang/invoke/VarHandle") (hlen : ∀ sig, parseMethodDescriptor y'.desc = some sig → argsL.length = sig.parameters.length)
    (hC : Ctr l Z hB y' bytes' ml' ret' [] rm argsL.toArray H Q') (hml : Ls.size = ml) (hfr : rm.frames + 1 ≤ R.frames) (hlo : (st.map fun v => v.category).sum + (ml' + 11) + rm.locals ≤ R.locals) (hcl : H.length + rm.cells ≤ n1 + R.cells) (hsl : sl + rm.slots ≤ R.slots) (hst : argsL.reverse ++ st = st0) (hp : pc + 3 = pc')
    (hr : ∀ v H', Q' v H' → WP l Z hB y bytes ml ret R n1 Q (sl + rm.slots) H' pc' Ls (v.toList ++ st)) : WP l Z hB y bytes ml ret R n1 Q sl H pc Ls st0 := by
  subst hp; subst hst
  intro p e s m args below meth c C T locs cells slots X N P hs
  have hsz := C.2.2.2.2.2.2.2.2
  have hp1 := P.1
  have hz : T.heap.size = s.heap.size + (T.heap.size - s.heap.size) := by have := X.same.2.1; have : s.heap.size ≤ T.heap.size := this; omega
  obtain ⟨v, vm1, ⟨U', ls, cc, ss⟩, -, X', ⟨L, hq, e1, e2, e3⟩, stp⟩ := Jvm.LawKit.callS (exact' X (Nat.le_of_eq hz)) C.1 (y := y') C.2.2.2.2.1 (mvT C.2.1 w1) (mvT C.2.1 w2) (mvT C.2.1 w3) (mvT C.2.1 w4) hy (mkBack (W := (st.map fun v => v.category).sum) hC P C.2.1 w4 w3 hfr hlo) (g := mkF m pc Ls (argsL.reverse ++ st)) rfl (hml.trans C.2.2.2.1.symm) (argsL := argsL) (rest := st) hlen rfl (by show 2 * 0 + _ ≤ _; omega) (hb C.2.2.1 hd) (fun _ _ => ⟨rfl, rfl, by show T.heap.size - s.heap.size + _ ≤ _; omega, by show slots + _ ≤ _; omega⟩)
  dsimp only [Pt.U, Pt.locs, Pt.cells, Pt.slots] at X' e1 e2 e3 stp hq
  subst e1 e2 e3
  obtain ⟨H', q1, q2, q3⟩ := hq
  obtain ⟨U, o, h1, h2⟩ := hr v H' q1 p e s m args below meth c C U' _ _ _ X' (Fr.app N q3) q2 (by omega)
  exact ⟨U, o, stp U h1, h2⟩
theorem callI {a : Addr} (hd : decode bytes pc = .ok (.invokespecial index, 3)) (hy1 : y'.name = "<init>") (w1 : (Jvm.Cond.methodLink y.cls index y').before a0 Z = true) (w2 : (Jvm.Cond.instanceMethod y').before a0 Z = true) (w3 : (Jvm.Cond.initialized y'.cls).before a0 Z = true) (w4 : (Jvm.Cond.code y' bytes' ml' none).before a0 Z = true) (hy : y'.cls ≠ "java/lang/invoke/MethodHandle" ∧ y'.cls ≠ "java/lang/invoke/VarHandle") (hlen : ∀ sig, parseMethodDescriptor y'.desc = some sig → argsL.length = sig.parameters.length)
    (hC : Ctr l Z hB y' bytes' ml' none [] rm (.ref a :: argsL).toArray H Q') (hml : Ls.size = ml) (hfr : rm.frames + 1 ≤ R.frames) (hlo : (st.map fun v => v.category).sum + (ml' + 11) + rm.locals ≤ R.locals) (hcl : H.length + rm.cells ≤ n1 + R.cells) (hsl : sl + rm.slots ≤ R.slots) (hst : argsL.reverse ++ .ref a :: st = st0) (hp : pc + 3 = pc')
    (hr : ∀ v H', Q' v H' → WP l Z hB y bytes ml ret R n1 Q (sl + rm.slots) H' pc' Ls (v.toList ++ st)) : WP l Z hB y bytes ml ret R n1 Q sl H pc Ls st0 := by
  subst hp; subst hst
  intro p e s m args below meth c C T locs cells slots X N P hs
  have hsz := C.2.2.2.2.2.2.2.2
  have hp1 := P.1
  have hz : T.heap.size = s.heap.size + (T.heap.size - s.heap.size) := by have := X.same.2.1; have : s.heap.size ≤ T.heap.size := this; omega
  obtain ⟨v, vm1, ⟨U', ls, cc, ss⟩, -, X', ⟨L, hq, e1, e2, e3⟩, stp⟩ := (exact' X (Nat.le_of_eq hz)).specialBack C.1 (y := y') hy1 C.2.2.2.2.1 (mvT C.2.1 w1) (mvT C.2.1 w2) (mvT C.2.1 w4) hy (mkBack (W := (st.map fun v => v.category).sum) hC P C.2.1 w4 w3 hfr hlo) (g := mkF m pc Ls (argsL.reverse ++ .ref a :: st)) rfl (hml.trans C.2.2.2.1.symm) (Steps.refl _) (a := a) (argsL := argsL) (rest := st) hlen rfl (by show 2 * 0 + _ ≤ _; omega) (hb C.2.2.1 hd) (fun _ _ => ⟨rfl, rfl, by show T.heap.size - s.heap.size + _ ≤ _; omega, by show slots + _ ≤ _; omega⟩)
  dsimp only [Pt.U, Pt.locs, Pt.cells, Pt.slots] at X' e1 e2 e3 stp hq
  subst e1 e2 e3
  obtain ⟨H', q1, q2, q3⟩ := hq
  obtain ⟨U, o, h1, h2⟩ := hr v H' q1 p e s m args below meth c C U' _ _ _ X' (Fr.app N q3) q2 (by omega)
  exact ⟨U, o, stp.trans h1, h2⟩
theorem nfSel {C : String} (w : (Jvm.Cond.selects C y' y').before a0 Z = true) : ∀ s : State, Z.Warmed39 s.vm → NotFace s y' := fun s hZ => notFace_of_selects (args := #[]) (mvT hZ w)
theorem callV {a : Addr} {C : String} (hd : decode bytes pc = .ok (.invokevirtual index, 3)) (w1 : (Jvm.Cond.methodLink y.cls index y').before a0 Z = true) (w2 : (Jvm.Cond.declares y').before a0 Z = true) (hnf : ∀ s : State, Z.Warmed39 s.vm → NotFace s y') (w5 : (Jvm.Cond.selects C y' z').before a0 Z = true) (w6 : (Jvm.Cond.instanceMethod z').before a0 Z = true) (w3 : (Jvm.Cond.initialized z'.cls).before a0 Z = true) (w4 : (Jvm.Cond.code z' bytes' ml' ret').before a0 Z = true) (hy : y'.cls ≠ "java/lang/invoke/MethodHandle" ∧ y'.cls ≠ "java/lang/invoke/VarHandle") (hlen : ∀ sig, parseMethodDescriptor y'.desc = some sig → argsL.length = sig.parameters.length)
    (E : ∀ h, Hp Z hB h H → Exa Z h a C) (hC : Ctr l Z hB z' bytes' ml' ret' [] rm (.ref a :: argsL).toArray H Q') (hml : Ls.size = ml) (hfr : rm.frames + 1 ≤ R.frames) (hlo : (st.map fun v => v.category).sum + (ml' + 11) + rm.locals ≤ R.locals) (hcl : H.length + rm.cells ≤ n1 + R.cells) (hsl : sl + rm.slots ≤ R.slots) (hst : argsL.reverse ++ .ref a :: st = st0) (hp : pc + 3 = pc')
    (hr : ∀ v H', Q' v H' → WP l Z hB y bytes ml ret R n1 Q (sl + rm.slots) H' pc' Ls (v.toList ++ st)) : WP l Z hB y bytes ml ret R n1 Q sl H pc Ls st0 := by
  subst hp; subst hst
  intro p e s m args below meth c C' T locs cells slots X N P hs
  have hsz := C'.2.2.2.2.2.2.2.2
  have hp1 := P.1
  have hz : T.heap.size = s.heap.size + (T.heap.size - s.heap.size) := by have := X.same.2.1; have : s.heap.size ≤ T.heap.size := this; omega
  obtain ⟨cq, kq, qa, qb, qc⟩ := isOf (s := s) (T := T) C'.2.1 rfl (E _ P)
  obtain ⟨v, vm1, ⟨U', ls, cc, ss⟩, -, X', ⟨L, hq, e1, e2, e3⟩, stp⟩ := (exact' X (Nat.le_of_eq hz)).virtualBack C'.1 (y := y') (z := z') C'.2.2.2.2.1 (mvT C'.2.1 w1) (mvT C'.2.1 w2) (hnf s C'.2.1) (mvT C'.2.1 w5) (mvT C'.2.1 w6) hy (mkBack (W := (st.map fun v => v.category).sum) hC P C'.2.1 w4 w3 hfr hlo) qa qc (g := mkF m pc Ls (argsL.reverse ++ .ref a :: st)) rfl (hml.trans C'.2.2.2.1.symm) (Steps.refl _) (argsL := argsL) (rest := st) hlen rfl (by show 2 * 0 + _ ≤ _; omega) (hb C'.2.2.1 hd) (fun _ _ => ⟨rfl, rfl, by show T.heap.size - s.heap.size + _ ≤ _; omega, by show slots + _ ≤ _; omega⟩)
  dsimp only [Pt.U, Pt.locs, Pt.cells, Pt.slots] at X' e1 e2 e3 stp hq
  subst e1 e2 e3
  obtain ⟨H', q1, q2, q3⟩ := hq
  obtain ⟨U, o, h1, h2⟩ := hr v H' q1 p e s m args below meth c C' U' _ _ _ X' (Fr.app N q3) q2 (by omega)
  exact ⟨U, o, stp.trans h1, h2⟩
/-- through a subclass's name: the class 'owner' declares it -/
theorem callU {a : Addr} {C owner : String} (hd : decode bytes pc = .ok (.invokevirtual index, 3)) (w1 : (Jvm.Cond.methodLink y.cls index y').before a0 Z = true) (w7 : (Jvm.Cond.sameMethod y'.cls owner y'.name y'.desc).before a0 Z = true) (w2 : (Jvm.Cond.declares ⟨owner, y'.name, y'.desc⟩).before a0 Z = true) (w5 : (Jvm.Cond.selects C y' z').before a0 Z = true) (w6 : (Jvm.Cond.instanceMethod z').before a0 Z = true) (w3 : (Jvm.Cond.initialized z'.cls).before a0 Z = true) (w4 : (Jvm.Cond.code z' bytes' ml' ret').before a0 Z = true) (hy : owner ≠ "java/lang/invoke/MethodHandle" ∧ owner ≠ "java/lang/invoke/VarHandle") (hlen : ∀ sig, parseMethodDescriptor y'.desc = some sig → argsL.length = sig.parameters.length)
    (E : ∀ h, Hp Z hB h H → Exa Z h a C) (hC : Ctr l Z hB z' bytes' ml' ret' [] rm (.ref a :: argsL).toArray H Q') (hml : Ls.size = ml) (hfr : rm.frames + 1 ≤ R.frames) (hlo : (st.map fun v => v.category).sum + (ml' + 11) + rm.locals ≤ R.locals) (hcl : H.length + rm.cells ≤ n1 + R.cells) (hsl : sl + rm.slots ≤ R.slots) (hst : argsL.reverse ++ .ref a :: st = st0) (hp : pc + 3 = pc')
    (hr : ∀ v H', Q' v H' → WP l Z hB y bytes ml ret R n1 Q (sl + rm.slots) H' pc' Ls (v.toList ++ st)) : WP l Z hB y bytes ml ret R n1 Q sl H pc Ls st0 := by
  subst hp; subst hst
  intro p e s m args below meth c C' T locs cells slots X N P hs
  have hsz := C'.2.2.2.2.2.2.2.2
  have hp1 := P.1
  have hz : T.heap.size = s.heap.size + (T.heap.size - s.heap.size) := by have := X.same.2.1; have : s.heap.size ≤ T.heap.size := this; omega
  obtain ⟨cq, kq, qa, qb, qc⟩ := isOf (s := s) (T := T) C'.2.1 rfl (E _ P)
  obtain ⟨v, vm1, ⟨U', ls, cc, ss⟩, -, X', ⟨L, hq, e1, e2, e3⟩, stp⟩ := (exact' X (Nat.le_of_eq hz)).virtualBackUp C'.1 (x := y') (y := z') C'.2.2.2.2.1 (mvT C'.2.1 w1) (mvT C'.2.1 w7) (mvT C'.2.1 w2) hy (mvT C'.2.1 w5) (mvT C'.2.1 w6) (mkBack (W := (st.map fun v => v.category).sum) hC P C'.2.1 w4 w3 hfr hlo) qa qc (g := mkF m pc Ls (argsL.reverse ++ .ref a :: st)) rfl (hml.trans C'.2.2.2.1.symm) (Steps.refl _) (argsL := argsL) (rest := st) hlen rfl (by show 2 * 0 + _ ≤ _; omega) (hb C'.2.2.1 hd) (fun _ _ => ⟨rfl, rfl, by show T.heap.size - s.heap.size + _ ≤ _; omega, by show slots + _ ≤ _; omega⟩)
  dsimp only [Pt.U, Pt.locs, Pt.cells, Pt.slots] at X' e1 e2 e3 stp hq
  subst e1 e2 e3
  obtain ⟨H', q1, q2, q3⟩ := hq
  obtain ⟨U, o, h1, h2⟩ := hr v H' q1 p e s m args below meth c C' U' _ _ _ X' (Fr.app N q3) q2 (by omega)
  exact ⟨U, o, stp.trans h1, h2⟩
/-- a private method, by invokevirtual -/
theorem callP {a : Addr} {C : String} (hd : decode bytes pc = .ok (.invokevirtual index, 3)) (w1 : (Jvm.Cond.methodLink y.cls index y').before a0 Z = true) (w6 : (Jvm.Cond.instanceMethod y').before a0 Z = true) (w5 : (Jvm.Cond.selects y'.cls y' y').before a0 Z = true) (w8 : (Jvm.Cond.privateMethod y').before a0 Z = true) (w3 : (Jvm.Cond.initialized y'.cls).before a0 Z = true) (w4 : (Jvm.Cond.code y' bytes' ml' ret').before a0 Z = true) (hy : y'.cls ≠ "java/lang/invoke/MethodHandle" ∧ y'.cls ≠ "java/lang/invoke/VarHandle") (hlen : ∀ sig, parseMethodDescriptor y'.desc = some sig → argsL.length = sig.parameters.length)
    (E : ∀ h, Hp Z hB h H → Exa Z h a C) (hC : Ctr l Z hB y' bytes' ml' ret' [] rm (.ref a :: argsL).toArray H Q') (hml : Ls.size = ml) (hfr : rm.frames + 1 ≤ R.frames) (hlo : (st.map fun v => v.category).sum + (ml' + 11) + rm.locals ≤ R.locals) (hcl : H.length + rm.cells ≤ n1 + R.cells) (hsl : sl + rm.slots ≤ R.slots) (hst : argsL.reverse ++ .ref a :: st = st0) (hp : pc + 3 = pc')
    (hr : ∀ v H', Q' v H' → WP l Z hB y bytes ml ret R n1 Q (sl + rm.slots) H' pc' Ls (v.toList ++ st)) : WP l Z hB y bytes ml ret R n1 Q sl H pc Ls st0 := by
  subst hp; subst hst
  intro p e s m args below meth c C' T locs cells slots X N P hs
  have hsz := C'.2.2.2.2.2.2.2.2
  have hp1 := P.1
  have hz : T.heap.size = s.heap.size + (T.heap.size - s.heap.size) := by have := X.same.2.1; have : s.heap.size ≤ T.heap.size := this; omega
  obtain ⟨cq, qa, qb⟩ := (E _ P).cell
  obtain ⟨v, vm1, ⟨U', ls, cc, ss⟩, -, X', ⟨L, hq, e1, e2, e3⟩, stp⟩ := (exact' X (Nat.le_of_eq hz)).privateBack C'.1 (y := y') C'.2.2.2.2.1 (mvT C'.2.1 w1) (mvT C'.2.1 w6) (mvT C'.2.1 w5) (Cond.privateMethod_at (mvP C'.2.1 w8 (args := #[]))) (mvT C'.2.1 w4) hy (mkBack (W := (st.map fun v => v.category).sum) hC P C'.2.1 w4 w3 hfr hlo) (g := mkF m pc Ls (argsL.reverse ++ .ref a :: st)) rfl (hml.trans C'.2.2.2.1.symm) (Steps.refl _) (a := a) qa qb (argsL := argsL) (rest := st) hlen rfl (by show 2 * 0 + _ ≤ _; omega) (hb C'.2.2.1 hd) (fun _ _ => ⟨rfl, rfl, by show T.heap.size - s.heap.size + _ ≤ _; omega, by show slots + _ ≤ _; omega⟩)
  dsimp only [Pt.U, Pt.locs, Pt.cells, Pt.slots] at X' e1 e2 e3 stp hq
  subst e1 e2 e3
  obtain ⟨H', q1, q2, q3⟩ := hq
  obtain ⟨U, o, h1, h2⟩ := hr v H' q1 p e s m args below meth c C' U' _ _ _ X' (Fr.app N q3) q2 (by omega)
  exact ⟨U, o, stp.trans h1, h2⟩
theorem callF {a : Addr} {C : String} {count : Nat} (hfa : (Jvm.Cond.interfaceMethod y'.cls y'.cls y'.name y'.desc).faceAtom = true) (hd : decode bytes pc = .ok (.invokeinterface index count, 5)) (w1 : (Jvm.Cond.methodLink y.cls index y').before a0 Z = true) (w2 : (Jvm.Cond.declares y').before a0 Z = true) (wf : (Jvm.Cond.interfaceMethod y'.cls y'.cls y'.name y'.desc).before a0 Z = true) (w5 : (Jvm.Cond.selects C y' z').before a0 Z = true) (w6 : (Jvm.Cond.instanceMethod z').before a0 Z = true) (wp : (Jvm.Cond.publicMethod z').before a0 Z = true) (wu : (Jvm.Cond.unhidden C y'.name y'.desc).before a0 Z = true) (wc : (Jvm.Cond.castable C y'.cls).before a0 Z = true) (w3 : (Jvm.Cond.initialized z'.cls).before a0 Z = true) (w4 : (Jvm.Cond.code z' bytes' ml' ret').before a0 Z = true) (hy : y'.cls ≠ "java/lang/invoke/MethodHandle" ∧ y'.cls ≠ "java/lang/invoke/VarHandle") (hlen : ∀ sig, parseMethodDescriptor y'.desc = some sig → argsL.length = sig.parameters.length)
    (E : ∀ h, Hp Z hB h H → Exa Z h a C) (hC : Ctr l Z hB z' bytes' ml' ret' [] rm (.ref a :: argsL).toArray H Q') (hml : Ls.size = ml) (hfr : rm.frames + 1 ≤ R.frames) (hlo : (st.map fun v => v.category).sum + (ml' + 11) + rm.locals ≤ R.locals) (hcl : H.length + rm.cells ≤ n1 + R.cells) (hsl : sl + rm.slots ≤ R.slots) (hst : argsL.reverse ++ .ref a :: st = st0) (hp : pc + 5 = pc')
    (hr : ∀ v H', Q' v H' → WP l Z hB y bytes ml ret R n1 Q (sl + rm.slots) H' pc' Ls (v.toList ++ st)) : WP l Z hB y bytes ml ret R n1 Q sl H pc Ls st0 := by
  subst hp; subst hst
  intro p e s m args below meth c C' T locs cells slots X N P hs
  have hsz := C'.2.2.2.2.2.2.2.2
  have hp1 := P.1
  have hz : T.heap.size = s.heap.size + (T.heap.size - s.heap.size) := by have := X.same.2.1; have : s.heap.size ≤ T.heap.size := this; omega
  obtain ⟨cq, kq, qa, qb, qc⟩ := isOf (s := s) (T := T) C'.2.1 rfl (E _ P)
  obtain ⟨v, vm1, ⟨U', ls, cc, ss⟩, -, X', ⟨L, hq, e1, e2, e3⟩, stp⟩ := (exact' X (Nat.le_of_eq hz)).interfaceBack C'.1 (xi := y') (y := z') C'.2.2.2.2.1 (mvT C'.2.1 w1) (mvT C'.2.1 w2) (mvT C'.2.1 wf (by simp [Cond.onTables, Cond.keepsFace, Cond.keeps, Cond.steady, hfa])) (mvT C'.2.1 w5) (mvT C'.2.1 w6) (mvT C'.2.1 wp) (mvT C'.2.1 wu) (mvT C'.2.1 wc) hy (mkBack (W := (st.map fun v => v.category).sum) hC P C'.2.1 w4 w3 hfr hlo) qa qb qc (g := mkF m pc Ls (argsL.reverse ++ .ref a :: st)) rfl (hml.trans C'.2.2.2.1.symm) (Steps.refl _) (argsL := argsL) (rest := st) hlen rfl (by show 2 * 0 + _ ≤ _; omega) (hb C'.2.2.1 hd) (fun _ _ => ⟨rfl, rfl, by show T.heap.size - s.heap.size + _ ≤ _; omega, by show slots + _ ≤ _; omega⟩)
  dsimp only [Pt.U, Pt.locs, Pt.cells, Pt.slots] at X' e1 e2 e3 stp hq
  subst e1 e2 e3
  obtain ⟨H', q1, q2, q3⟩ := hq
  obtain ⟨U, o, h1, h2⟩ := hr v H' q1 p e s m args below meth c C' U' _ _ _ X' (Fr.app N q3) q2 (by omega)
  exact ⟨U, o, stp.trans h1, h2⟩
end Calls
theorem gsE {H : List Rec} {i : Nat} {r r' : Rec} (h : H[i]? = some r) : (H.set i r')[i]? = some r' := by
  have := (List.getElem?_eq_some_iff.mp h).1
  simp [List.getElem?_set, this]
theorem gsN {H : List Rec} {i j : Nat} {r r' : Rec} (hn : j ≠ i) (h : H[i]? = some r) : (H.set j r')[i]? = some r := by rw [List.getElem?_set_ne hn]; exact h
theorem gaL {H : List Rec} {i : Nat} {r r' : Rec} (h : H[i]? = some r) : (H ++ [r'])[i]? = some r := by
  have := (List.getElem?_eq_some_iff.mp h).1
  rw [List.getElem?_append_left this]; exact h
theorem gaR {H : List Rec} {i : Nat} {r : Rec} (h : H.length = i) : (H ++ [r])[i]? = some r := by subst h; simp
theorem saR {H : List Rec} {a b : Rec} : (H ++ [a]).set H.length b = H ++ [b] := by simp
theorem gaA {H M : List Rec} {i : Nat} {r : Rec} (h : H[i]? = some r) : (H ++ M)[i]? = some r := by
  have := (List.getElem?_eq_some_iff.mp h).1
  rw [List.getElem?_append_left this]; exact h
theorem gaB {H M : List Rec} {k : Nat} {r : Rec} (h : M[k]? = some r) : (H ++ M)[H.length + k]? = some r := by
  rw [List.getElem?_append_right (by omega), show H.length + k - H.length = k from by omega]; exact h
theorem saB {H M : List Rec} {k : Nat} {r : Rec} : (H ++ M).set (H.length + k) r = H ++ M.set k r := by
  rw [List.set_append_right _ _ (by omega), show H.length + k - H.length = k from by omega]
theorem distK {C : String} {ks : List Key} (hl : ∀ (i : Nat) (k : Key), ks[i]? = some k → Laid Z a0 C k.1 k.2.1 k.2.2) (hn : (ks.map fun k => k.2.1).Nodup) (hd : (ks.all fun k => (parseFieldDescriptor k.2.2).isSome) = true) : ∀ (i j : Nat) (k k' : Key), ks[i]? = some k → ks[j]? = some k' → i ≠ j → kslot Z k ≠ kslot Z k' := by
  intro i j k k' h1 h2 hne
  obtain ⟨l1, g1⟩ := List.getElem?_eq_some_iff.mp h1
  obtain ⟨l2, g2⟩ := List.getElem?_eq_some_iff.mp h2
  have p1 := List.all_eq_true.mp hd k (List.mem_of_getElem? h1)
  have p2 := List.all_eq_true.mp hd k' (List.mem_of_getElem? h2)
  obtain ⟨t1, q1⟩ := Option.isSome_iff_exists.mp p1
  obtain ⟨t2, q2⟩ := Option.isSome_iff_exists.mp p2
  refine slot_ne (hl i k h1) (hl j k' h2) (fun e => hne ?_) q1 q2
  have hp := List.pairwise_iff_getElem.mp hn
  rcases Nat.lt_trichotomy i j with z | z | z
  · exact (hp i j (by simpa using l1) (by simpa using l2) z (by rw [List.getElem_map, List.getElem_map, g1, g2, e])).elim
  · exact z
  · exact (hp j i (by simpa using l2) (by simpa using l1) z (by rw [List.getElem_map, List.getElem_map, g1, g2, e])).elim
end Walk
section Start
variable {args : Array Value} {Z : State}
theorem exaOf {t : Term} {C : String} (h : (Jvm.Cond.exactly t C).value args Z none Z [] = some true) : ∃ a, t.eval args Z none [] Z = some (.ref a) ∧ Exa Z Z.heap a C := by
  obtain ⟨a, ha⟩ := exa_v h
  exact ⟨a, ha, Exa.start ha h⟩
theorem fldInt {t : Term} {C n d : String} {a : Addr} {k : Int32} (ha : t.eval args Z none [] Z = some (.ref a)) (h : (Jvm.Cond.eq (.field t C n d) (.int k)).value args Z none Z [] = some true) : Fld Z Z.heap a C n d (.int k) := by
  have e : (Term.field t C n d).eval args Z none [] Z = Z.fieldOf? a C n d := fld_at ha
  cases hf : Z.fieldOf? a C n d with
  | none => simp [Cond.value, e, hf] at h
  | some v =>
    have q : v = .int k := by cases v <;> simp [Cond.value, e, hf] at h <;> simp [Term.eval] at h; rw [h]
    exact q ▸ Fld.start hf
theorem subF {first s : State} {o : Option Outcome} {idx : List Nat} {a b : Term} {x y : Int32} (ha : a.eval args first o idx s = some (.int x)) (hb : b.eval args first o idx s = some (.int y)) : (Term.sub a b).eval args first o idx s = some (.int (x - y)) := by simp [Term.eval, ha, hb]
theorem fldV {t : Term} {C n d : String} {a : Addr} {v : Value} (ha : t.eval args Z none [] Z = some (.ref a)) (h : (Term.field t C n d).eval args Z none [] Z = some v) : Fld Z Z.heap a C n d v := Fld.start ((fld_at ha).symm.trans h)
theorem eqvR {X F : Term} {a : Addr} (hF : F.eval args Z none [] Z = some (.ref a)) (h : (Jvm.Cond.eq X F).value args Z none Z [] = some true) : X.eval args Z none [] Z = some (.ref a) := by
  cases hx : X.eval args Z none [] Z with
  | none => simp [Cond.value, hx] at h
  | some v => cases v <;> simp [Cond.value, hx, hF] at h <;> simp [h]
theorem exaNe {h : Heap} {a b : Addr} {C D : String} (A : Exa Z h a C) (B : Exa Z h b D) (hn : C ≠ D) : ¬ (Value.ref a = Value.ref b) := fun e => by
  cases e
  obtain ⟨c, k, e1, e2, e3, -⟩ := A
  obtain ⟨c', k', f1, f2, f3, -⟩ := B
  cases e1.symm.trans f1
  exact ids_ne e2 f2 hn rfl
theorem lenOfT {t : Term} {a : Addr} {cl : Cell} {k : Int32} (ht : t.eval args Z none [] Z = some (.ref a)) (ha : Z.arrayAt? a = some cl) (h : (Jvm.Cond.eq (.length t) (.int k)).value args Z none Z [] = some true) : cl.slots.size < 2 ^ 31 ∧ cl.slots.size.toInt32 = k := by
  have e := eqv_i (show (Term.int k).eval args Z none [] Z = some (.int k) from rfl) h
  by_cases hl : cl.slots.size < 2 ^ 31
  · exact ⟨hl, Value.int.inj (Option.some.inj ((len_f ht ha hl).symm.trans e))⟩
  · simp [Term.eval, ht, ha] at e; omega
theorem elemI {t : Term} {a : Addr} {cl : Cell} {j k : Int32} (ht : t.eval args Z none [] Z = some (.ref a)) (ha : Z.arrayAt? a = some cl) (hj : ¬ j < 0) (h : (Jvm.Cond.eq (.elem t (.int j)) (.int k)).value args Z none Z [] = some true) : cl.slots[j.toNatClampNeg]? = some (.int k) :=
  (elem_f (a := .int j) ht (show (Term.int j).eval args Z none [] Z = some (.int j) from rfl) ha hj).symm.trans (eqv_i (show (Term.int k).eval args Z none [] Z = some (.int k) from rfl) h)
theorem nsRoot {a0 : Array Value} {O K : String} {n : Nat} (w : (Jvm.Cond.noSuperclass O).before a0 Z = true) (wi : (Jvm.Cond.instantiable K n).before a0 Z = true) (hn : O ≠ K) : NS Z O K := by
  obtain ⟨c, k, h1, h2, h3, -, -⟩ := Cond.noSuperclass_spec w
  obtain ⟨t, kt, g1, -⟩ := Cond.instantiable_spec wi
  have ne := ids_ne h1 g1 hn
  refine ⟨c, t, h1, g1, fun fuel => ?_⟩
  cases fuel with
  | zero => rfl
  | succ f => simp [Vm.isSubclassAux, ne, h2, h3]
theorem nsNo {a0 : Array Value} {C S K : String} {n : Nat} (w : (Jvm.Cond.superclass C S).before a0 Z = true) (wi : (Jvm.Cond.instantiable K n).before a0 Z = true) (q : NS Z C K) (hn : C ≠ K) : ∃ c t, Z.vm.findClass C = some c ∧ Z.vm.findClass K = some t ∧ Z.vm.assignable c t = false := by
  obtain ⟨c, t, h0, g0, n3⟩ := q
  obtain ⟨p, k, kp, h1, h2, h3, h4, h5, -, h7⟩ := Cond.superclass_spec h0 w
  obtain ⟨t', kt, g1, g2, g3, g4, -⟩ := Cond.instantiable_spec wi
  cases g0.symm.trans g1
  have ne := ids_ne h0 g0 hn
  simp only [Bool.or_eq_false_iff] at g4
  refine ⟨c, t, h0, g0, ?_⟩
  show Z.vm.assignableAux (255 + 1) c t = false
  simp [Vm.assignableAux, ne, h2, g2, h5, g3, g4.1, Vm.isSubclass, n3]
end Start
end Jvm.Wk
namespace Jvm.Wk
open Sem ClassFile Op Lib Jvm.Stand Jvm.Free Jvm.LawKit Jvm.RoadKit
section Fl
variable {l : Launch} {Z : State} {hB : Heap} {y : MethodName} {bytes : ByteArray} {ml : Nat} {ret : Option FieldType} {R : Room} {n1 : Nat} {Q : Option Value → List Rec → Prop} {sl : Nat} {H H' : List Rec} {pc pc' : Nat} {Ls Ls' : Array Slot} {st : List Value} {a0 : Array Value}
theorem dloadN {k : Fin 4} {x : UInt64} (hd : decode bytes pc = .ok (.dload_n k, 1)) (hl : Ls[k.val]? = some (.val (.double x))) (hp : pc + 1 = pc') (hr : WP l Z hB y bytes ml ret R n1 Q sl H pc' Ls (.double x :: st)) : WP l Z hB y bytes ml ret R n1 Q sl H pc Ls st := by
  subst hp
  exact WP.step (fun p e s m args below meth c T locs cells slots C X P tgt h => XS.dloadN X.here C.1 rfl (hb C.2.2.1 hd) hl h) hr
theorem dload {k : Nat} {x : UInt64} (hd : decode bytes pc = .ok (.dload k, 2)) (hl : Ls[k]? = some (.val (.double x))) (hp : pc + 2 = pc') (hr : WP l Z hB y bytes ml ret R n1 Q sl H pc' Ls (.double x :: st)) : WP l Z hB y bytes ml ret R n1 Q sl H pc Ls st := by
  subst hp
  exact WP.step (fun p e s m args below meth c T locs cells slots C X P tgt h => XS.dload X.here C.1 rfl (hb C.2.2.1 hd) hl h) hr
theorem dstoreN {k : Fin 4} {x : UInt64} (hd : decode bytes pc = .ok (.dstore_n k, 1)) (hl : storeLocals Ls k.val (.double x) = some Ls') (hp : pc + 1 = pc') (hr : WP l Z hB y bytes ml ret R n1 Q sl H pc' Ls' st) : WP l Z hB y bytes ml ret R n1 Q sl H pc Ls (.double x :: st) := by
  subst hp
  exact WP.step (fun p e s m args below meth c T locs cells slots C X P tgt h => XS.dstoreN X.here C.1 rfl (hb C.2.2.1 hd) rfl hl h) hr
theorem dstore {k : Nat} {x : UInt64} (hd : decode bytes pc = .ok (.dstore k, 2)) (hl : storeLocals Ls k (.double x) = some Ls') (hp : pc + 2 = pc') (hr : WP l Z hB y bytes ml ret R n1 Q sl H pc' Ls' st) : WP l Z hB y bytes ml ret R n1 Q sl H pc Ls (.double x :: st) := by
  subst hp
  exact WP.step (fun p e s m args below meth c T locs cells slots C X P tgt h => XS.dstore X.here C.1 rfl (hb C.2.2.1 hd) rfl hl h) hr
theorem dconst0 (hd : decode bytes pc = .ok (.dconst 0, 1)) (hp : pc + 1 = pc') (hr : WP l Z hB y bytes ml ret R n1 Q sl H pc' Ls (.double 0 :: st)) : WP l Z hB y bytes ml ret R n1 Q sl H pc Ls st := by
  subst hp
  exact WP.step (fun p e s m args below meth c T locs cells slots C X P tgt h => XS.dconst0 X.here C.1 rfl (hb C.2.2.1 hd) rfl h) hr
theorem dconst1 (hd : decode bytes pc = .ok (.dconst 1, 1)) (hp : pc + 1 = pc') (hr : WP l Z hB y bytes ml ret R n1 Q sl H pc' Ls (.double 4607182418800017408 :: st)) : WP l Z hB y bytes ml ret R n1 Q sl H pc Ls st := by
  subst hp
  exact WP.step (fun p e s m args below meth c T locs cells slots C X P tgt h => XS.dconst1 X.here C.1 rfl (hb C.2.2.1 hd) rfl h) hr
theorem i2d {x : Int32} (hd : decode bytes pc = .ok (.i2d, 1)) (hp : pc + 1 = pc') (hr : WP l Z hB y bytes ml ret R n1 Q sl H pc' Ls (.double (FP.i2d x) :: st)) : WP l Z hB y bytes ml ret R n1 Q sl H pc Ls (.int x :: st) := by
  subst hp
  exact WP.step (fun p e s m args below meth c T locs cells slots C X P tgt h => XS.i2dS X.here C.1 rfl (hb C.2.2.1 hd) rfl rfl h) hr
theorem l2d {x : Int64} (hd : decode bytes pc = .ok (.l2d, 1)) (hp : pc + 1 = pc') (hr : WP l Z hB y bytes ml ret R n1 Q sl H pc' Ls (.double (FP.l2d x) :: st)) : WP l Z hB y bytes ml ret R n1 Q sl H pc Ls (.long x :: st) := by
  subst hp
  exact WP.step (fun p e s m args below meth c T locs cells slots C X P tgt h => XS.l2dS X.here C.1 rfl (hb C.2.2.1 hd) rfl rfl h) hr
theorem dneg {x : UInt64} (hd : decode bytes pc = .ok (.dneg, 1)) (hp : pc + 1 = pc') (hr : WP l Z hB y bytes ml ret R n1 Q sl H pc' Ls (.double (FP.dneg x) :: st)) : WP l Z hB y bytes ml ret R n1 Q sl H pc Ls (.double x :: st) := by
  subst hp
  exact WP.step (fun p e s m args below meth c T locs cells slots C X P tgt h => XS.dnegS X.here C.1 rfl (hb C.2.2.1 hd) rfl rfl h) hr
theorem dcmp {op : CmpOp} {x z : UInt64} {v : Int32} (hd : decode bytes pc = .ok (.dcmp op, 1)) (hv : cmpValue (FP.dcmp x z) op = v) (hp : pc + 1 = pc') (hr : WP l Z hB y bytes ml ret R n1 Q sl H pc' Ls (.int v :: st)) : WP l Z hB y bytes ml ret R n1 Q sl H pc Ls (.double z :: .double x :: st) := by
  subst hp
  exact WP.step (fun p e s m args below meth c T locs cells slots C X P tgt h => XS.dcmpS X.here C.1 rfl (hb C.2.2.1 hd) rfl hv h) hr
theorem dadd {x z v : UInt64} (hd : decode bytes pc = .ok (.dadd, 1)) (hn : Jvm.Free.Fl.NoNaN64 (FP.dadd x z)) (hv : FP.dadd x z = v) (hp : pc + 1 = pc') (hr : WP l Z hB y bytes ml ret R n1 Q sl H pc' Ls (.double v :: st)) : WP l Z hB y bytes ml ret R n1 Q sl H pc Ls (.double z :: .double x :: st) := by
  subst hp
  exact WP.step (fun p e s m args below meth c T locs cells slots C X P tgt h => XS.daddS X.here C.1 rfl (hb C.2.2.1 hd) rfl hn hv h) hr
theorem dsub {x z v : UInt64} (hd : decode bytes pc = .ok (.dsub, 1)) (hn : Jvm.Free.Fl.NoNaN64 (FP.dsub x z)) (hv : FP.dsub x z = v) (hp : pc + 1 = pc') (hr : WP l Z hB y bytes ml ret R n1 Q sl H pc' Ls (.double v :: st)) : WP l Z hB y bytes ml ret R n1 Q sl H pc Ls (.double z :: .double x :: st) := by
  subst hp
  exact WP.step (fun p e s m args below meth c T locs cells slots C X P tgt h => XS.dsubS X.here C.1 rfl (hb C.2.2.1 hd) rfl hn hv h) hr
theorem dmul {x z v : UInt64} (hd : decode bytes pc = .ok (.dmul, 1)) (hn : Jvm.Free.Fl.NoNaN64 (FP.dmul x z)) (hv : FP.dmul x z = v) (hp : pc + 1 = pc') (hr : WP l Z hB y bytes ml ret R n1 Q sl H pc' Ls (.double v :: st)) : WP l Z hB y bytes ml ret R n1 Q sl H pc Ls (.double z :: .double x :: st) := by
  subst hp
  exact WP.step (fun p e s m args below meth c T locs cells slots C X P tgt h => XS.dmulS X.here C.1 rfl (hb C.2.2.1 hd) rfl hn hv h) hr
theorem ddiv {x z v : UInt64} (hd : decode bytes pc = .ok (.ddiv, 1)) (hn : Jvm.Free.Fl.NoNaN64 (FP.ddiv x z)) (hv : FP.ddiv x z = v) (hp : pc + 1 = pc') (hr : WP l Z hB y bytes ml ret R n1 Q sl H pc' Ls (.double v :: st)) : WP l Z hB y bytes ml ret R n1 Q sl H pc Ls (.double z :: .double x :: st) := by
  subst hp
  exact WP.step (fun p e s m args below meth c T locs cells slots C X P tgt h => XS.ddivS X.here C.1 rfl (hb C.2.2.1 hd) rfl hn hv h) hr
theorem ldc2D {index : Nat} {x : UInt64} (hd : decode bytes pc = .ok (.ldc2_w index, 3)) (w : (Jvm.Cond.constantDouble y.cls index x).before a0 Z = true) (hp : pc + 3 = pc') (hr : WP l Z hB y bytes ml ret R n1 Q sl H pc' Ls (.double x :: st)) : WP l Z hB y bytes ml ret R n1 Q sl H pc Ls st := by
  subst hp
  exact WP.step (fun p e s m args below meth c T locs cells slots C X P tgt h => X.ldc2DoubleC C.1 C.2.2.2.2.1 (mvT C.2.1 w) (g := mkF m pc Ls st) rfl (hb C.2.2.1 hd) _ h) hr
theorem daload {i : Nat} {vs : List Value} {j : Int32} {v : Value} {jn : Nat} (hd : decode bytes pc = .ok (.daload, 1)) (hi : H[i]? = some (arr .double vs)) (h0 : ¬ j < 0) (hjn : j.toNatClampNeg = jn) (hv : vs[jn]? = some v) (hp : pc + 1 = pc') (hr : WP l Z hB y bytes ml ret R n1 Q sl H pc' Ls (v :: st)) : WP l Z hB y bytes ml ret R n1 Q sl H pc Ls (.int j :: rf hB i :: st) := by
  subst hp; subst hjn
  refine WP.step (fun p e s m args below meth c T locs cells slots C X P tgt h => ?_) hr
  obtain ⟨cl, h1, h2, -⟩ := P.at hi
  exact X.daload C.1 h1.1 (State.isArrayOf_alike C.2.1.alike h1.2.1) h1.2.2 (inb h2 h0 hv).1 (inb h2 h0 hv).2 (g := mkF m pc Ls (.int j :: rf hB i :: st)) rfl rfl (hb C.2.2.1 hd) _ h
theorem dastore {i : Nat} {vs : List Value} {j : Int32} {x : UInt64} {jn : Nat} (hd : decode bytes pc = .ok (.dastore, 1)) (hi : H[i]? = some (arr .double vs)) (h0 : ¬ j < 0) (hjn : j.toNatClampNeg = jn) (hlt : jn < vs.length) (hH : H.set i (arr .double (vs.set jn (.double x))) = H') (hp : pc + 1 = pc') (hr : WP l Z hB y bytes ml ret R n1 Q sl H' pc' Ls st) : WP l Z hB y bytes ml ret R n1 Q sl H pc Ls (.double x :: .int j :: rf hB i :: st) := by
  subst hp; subst hH; subst hjn
  refine WP.stepH (fun p e s m args below meth c T locs cells slots C X hz N P hs => ?_) hr
  obtain ⟨cl, h1, h2, -⟩ := P.at hi
  obtain ⟨T', h', X', e', W, k⟩ := stD X C.1 C.2.1 rfl h1 (inb h2 h0 (List.getElem?_eq_getElem hlt)).1 (g := mkF m pc Ls (.double x :: .int j :: rf hB i :: st)) rfl rfl (hb C.2.2.1 hd)
  exact ⟨T', _, _, _, X', Fr.snoc X' N (Nat.le_add_right _ _), by rw [e']; exact P.wrA hi rfl W, hs, k⟩
theorem dret {x : UInt64} (hd : decode bytes pc = .ok (.dreturn, 1)) (hret : ret = some .double) (hc : H.length ≤ n1 + R.cells) (hs : sl ≤ R.slots) (hQ : Q (some (.double x)) H) : WP l Z hB y bytes ml ret R n1 Q sl H pc Ls (.double x :: st) :=
  retV hd hret rfl (Or.inr (Or.inr (Or.inl ⟨rfl, rfl, _, rfl⟩))) hc hs hQ
end Fl
end Jvm.Wk
namespace Jvm.FP.Core.Wf
open Jvm.ClassFile (CmpOp)
open Jvm.Op (cmpValue)
section Div
theorem w_inUnits (c : Nat) (q e : Int) : inUnits c q e = c * 2 ^ (q - e).toNat := rfl
theorem dshape {a : UInt64} {n : Int} (ha : DInt n a) (hn : 0 < n) : ∃ c q, val64 a = .fin false c q ∧ b64.qmin ≤ q ∧ 0 < c ∧ c * 2 ^ (q - b64.qmin).toNat = n.toNat * one64 := by
  have hz := DInt_zval ha
  have hf := val64_fits a
  have ha : Whole n (val64 a) := ha
  cases hv : val64 a with
  | nan => rw [hv] at ha; exact ha.elim
  | inf s => rw [hv] at ha; exact ha.elim
  | fin s c q =>
    rw [hv] at ha hz hf
    have hs : s = false := by rw [whole_sign ha (by omega)]; simp; omega
    subst hs
    have hc : 0 < c := by have := whole_zero ha; omega
    refine ⟨c, q, rfl, hf.2.1, hc, ?_⟩
    have e : zval b64 (.fin false c q) = ((c * 2 ^ (q - b64.qmin).toNat : Nat) : Int) := rfl
    rw [e] at hz
    have e2 : n = (n.toNat : Int) := by omega
    rw [e2, ← Int.natCast_mul] at hz
    exact Int.ofNat.inj hz
theorem divU {a b : UInt64} {n d : Int} (ha : DInt n a) (hb : DInt d b) (hn : 0 < n) (hd : 0 < d) : ∃ (A B : Nat) (e e0 : Int) (k M : Nat), val64 (ddiv a b) = roundRatio b64 false A B e ∧ 0 < B ∧ e0 ≤ b64.qmin ∧ e0 ≤ e ∧ 0 < k ∧ 0 < M ∧ inUnits A e e0 * k = n.toNat * one64 * M ∧ ∀ z : Nat, z * 2 ^ (b64.qmin - e0).toNat * B * k = z * d.toNat * M := by
  obtain ⟨c, q, h1, h2, h3, h4⟩ := dshape ha hn
  obtain ⟨c', r, g1, g2, g3, g4⟩ := dshape hb hd
  have hq : val64 (ddiv a b) = roundRatio b64 false c c' (q - r) := by
    rw [val64_ddiv, h1, g1]
    show (if c' = 0 then _ else roundRatio b64 (false != false) c c' (q - r)) = _
    rw [if_neg (by omega)]; rfl
  have hm : b64.qmin = -1074 := qmin_b64
  have ho : 2 ^ (-b64.qmin).toNat = one64 := pow_qmin64
  refine ⟨c, c', q - r, min b64.qmin (q - r), 2 ^ (r - b64.qmin).toNat, one64 * 2 ^ (b64.qmin - min b64.qmin (q - r)).toNat, hq, g3, Int.min_le_left _ _, Int.min_le_right _ _, Nat.two_pow_pos _, Nat.mul_pos one64_pos (Nat.two_pow_pos _), ?_, fun z => ?_⟩
  · generalize he : min b64.qmin (q - r) = e0
    have e1 : e0 ≤ b64.qmin := he ▸ Int.min_le_left _ _
    have e2 : e0 ≤ q - r := he ▸ Int.min_le_right _ _
    rw [w_inUnits, Nat.mul_assoc, ← Nat.pow_add, show (q - r - e0).toNat + (r - b64.qmin).toNat = (q - b64.qmin).toNat + ((b64.qmin - e0).toNat + (-b64.qmin).toNat) by omega, Nat.pow_add, ← Nat.mul_assoc, h4, Nat.pow_add, ho, Nat.mul_comm (2 ^ (b64.qmin - e0).toNat) one64]
  · rw [Nat.mul_assoc _ c' _, g4]
    generalize 2 ^ (b64.qmin - min b64.qmin (q - r)).toNat = E
    generalize one64 = O
    ac_rfl
theorem div_sgn {a b : UInt64} {n d : Int} (ha : DInt n a) (hb : DInt d b) (hn : 0 < n) (hd : 0 < d) : sgn (val64 (ddiv a b)) = false ∧ val64 (ddiv a b) ≠ .nan := by
  obtain ⟨A, B, e, e0, k, M, h, -⟩ := divU ha hb hn hd
  rw [h]; exact ⟨sgn_roundRatio _ _ _ _ _, roundRatio_ne_nan _ _ _ _ _⟩
theorem div_ge {a b : UInt64} {n d : Int} {V : Datum} (ha : DInt n a) (hb : DInt d b) (hn : 0 < n) (hd : 0 < d) (hV : fits b64 V) (h : zmag b64 V * d.toNat ≤ n.toNat * one64) : zmag b64 V ≤ zmag b64 (val64 (ddiv a b)) := by
  obtain ⟨A, B, e, e0, k, M, h1, hB, h2, h3, hk, hM, h4, h5⟩ := divU ha hb hn hd
  rw [h1]
  refine zmag_roundRatio_ge good_b64 hB hV h2 h3 ?_
  refine Nat.le_of_mul_le_mul_right ?_ hk
  rw [h5, h4]
  exact Nat.mul_le_mul_right _ h
theorem div_le {a b : UInt64} {n d : Int} {V : Datum} (ha : DInt n a) (hb : DInt d b) (hn : 0 < n) (hd : 0 < d) (hV : fits b64 V) (hnn : V ≠ .nan) (h : n.toNat * one64 ≤ zmag b64 V * d.toNat) : zmag b64 (val64 (ddiv a b)) ≤ zmag b64 V := by
  obtain ⟨A, B, e, e0, k, M, h1, hB, h2, h3, hk, hM, h4, h5⟩ := divU ha hb hn hd
  rw [h1]
  refine zmag_roundRatio_le good_b64 hB hV hnn h2 h3 ?_
  refine Nat.le_of_mul_le_mul_right ?_ hk
  rw [h5, h4]
  exact Nat.mul_le_mul_right _ h
theorem pos_gt {x : UInt64} (h1 : sgn (val64 x) = false) (h2 : val64 x ≠ .nan) (h3 : 0 < zmag b64 (val64 x)) : dcmp x 0 = some .gt := by
  refine dcmp_gt.mpr ⟨h2, by rw [val64_zero]; exact Datum.noConfusion, ?_⟩
  rw [zval64_zero]
  show 0 < signed (sgn (val64 x)) (zmag b64 (val64 x))
  rw [h1]
  show (0 : Int) < ((zmag b64 (val64 x) : Nat) : Int)
  omega
end Div
end Jvm.FP.Core.Wf
namespace Jvm.FP.Core.Wf
open Jvm.ClassFile (CmpOp)
open Jvm.Op (cmpValue)
section Rnd
theorem w_rr (s : Bool) (A B : Nat) (e : Int) : roundRatio b64 s A B e = if A = 0 then .fin s 0 b64.qmin else settle b64 s (nearest (unitsNum A e (quantum b64 A B e)) (unitsDen B e (quantum b64 A B e))) (quantum b64 A B e) := rfl
theorem w_num (A : Nat) (e q : Int) : unitsNum A e q = A * 2 ^ (e - q).toNat := rfl
theorem w_den (B : Nat) (e q : Int) : unitsDen B e q = B * 2 ^ (q - e).toNat := rfl
/-- x is finite, not negative, and worth z units of 2^-1074 -/
def Pz (x : UInt64) (z : Nat) : Prop := ∃ c q, val64 x = .fin false c q ∧ c * 2 ^ (q - b64.qmin).toNat = z
theorem Pz.zm {x : UInt64} {z : Nat} (h : Pz x z) : zmag b64 (val64 x) = z := by obtain ⟨c, q, h1, h2⟩ := h; rw [h1]; exact h2
theorem Pz.zv {x : UInt64} {z : Nat} (h : Pz x z) : zval b64 (val64 x) = (z : Int) := by obtain ⟨c, q, h1, rfl⟩ := h; rw [h1]; rfl
theorem Pz.nn {x : UInt64} {z : Nat} (h : Pz x z) : val64 x ≠ .nan := by obtain ⟨c, q, h1, h2⟩ := h; rw [h1]; exact Datum.noConfusion
theorem Pz.dfin {x : UInt64} {z : Nat} (h : Pz x z) : DFin x := by obtain ⟨c, q, h1, h2⟩ := h; exact ⟨_, _, _, h1⟩
theorem Pz.fin {x : UInt64} {z : Nat} (h : Pz x z) : Jvm.Free.Fl.Fin64 x := Jvm.Free.Fl.fin64_core.mpr h.dfin
theorem Pz.noNaN {x : UInt64} {z : Nat} (h : Pz x z) : Jvm.Free.Fl.NoNaN64 x := h.fin.noNaN
theorem Pz.ofInt {a : UInt64} {n : Int} (ha : DInt n a) (hn : 0 < n) : Pz a (n.toNat * one64) := by
  obtain ⟨c, q, h1, -, -, h4⟩ := dshape ha hn
  exact ⟨c, q, h1, h4⟩
theorem Pz.of {x : UInt64} {K : Nat} (h1 : sgn (val64 x) = false) (h2 : val64 x ≠ .nan) (h3 : zmag b64 (val64 x) ≤ K) (hK : K < b64.tails * 2 ^ (b64.exps - 2)) : Pz x (zmag b64 (val64 x)) := by
  cases hv : val64 x with
  | nan => exact absurd hv h2
  | inf s => rw [hv] at h3; exact absurd (Nat.lt_of_le_of_lt h3 hK) (Nat.lt_irrefl _)
  | fin s c q =>
    rw [hv] at h1
    obtain rfl : s = false := h1
    exact ⟨c, q, hv, rfl⟩
theorem Pz.cmp {x y : UInt64} {a b : Nat} (hx : Pz x a) (hy : Pz y b) : dcmp x y = some (compare (a : Int) (b : Int)) := by
  rw [dcmp_zval hx.nn hy.nn, hx.zv, hy.zv]
theorem Pz.lt {x y : UInt64} {a b : Nat} (hx : Pz x a) (hy : Pz y b) (h : a < b) (o : CmpOp) : cmpValue (FP.dcmp x y) o = -1 := by
  have e : FP.dcmp x y = some .lt := by
    show dcmp x y = _
    rw [hx.cmp hy, (compare_lt_iff _ _).mpr (by omega)]
  rw [e]; rfl
theorem Pz.gt {x y : UInt64} {a b : Nat} (hx : Pz x a) (hy : Pz y b) (h : b < a) (o : CmpOp) : cmpValue (FP.dcmp x y) o = 1 := by
  have e : FP.dcmp x y = some .gt := by
    show dcmp x y = _
    rw [hx.cmp hy, (compare_gt_iff _ _).mpr (by omega)]
  rw [e]; rfl
theorem Pz.eq {x y : UInt64} {a b : Nat} (hx : Pz x a) (hy : Pz y b) (h : a = b) (o : CmpOp) : cmpValue (FP.dcmp x y) o = 0 := by
  have e : FP.dcmp x y = some .eq := by
    show dcmp x y = _
    rw [hx.cmp hy, (compare_eq_iff _ _).mpr (by omega)]
  rw [e]; rfl
theorem le_v {x y : UInt64} (h : val64 x ≠ .nan) (h' : val64 y ≠ .nan) (hle : zval b64 (val64 x) ≤ zval b64 (val64 y)) : ∃ v, cmpValue (FP.dcmp x y) .g = v ∧ ¬ (0 : Int32) < v := by
  rcases dcmp_le.mpr ⟨h, h', hle⟩ with q | q
  · have q' : FP.dcmp x y = some .lt := q
    exact ⟨-1, by rw [q']; rfl, by decide⟩
  · have q' : FP.dcmp x y = some .eq := q
    exact ⟨0, by rw [q']; rfl, by decide⟩
theorem Pz.zero : Pz 0 0 := ⟨0, b64.qmin, val64_zero, by simp⟩
theorem Pz.one : Pz 4607182418800017408 one64 := by
  have h := Pz.ofInt dint_one (by decide)
  rw [show (1 : Int).toNat = 1 from rfl, Nat.one_mul] at h; exact h
/-- the rounding of A / B * 2^e, where it is a normal number: to one part in 2^53 -/
theorem relR {A B : Nat} {e e0 : Int} (hA : 0 < A) (hB : 0 < B) (h0 : e0 ≤ b64.qmin) (h0e : e0 ≤ e) (hn : 4503599627370496 * 2 ^ (b64.qmin - e0).toNat * B ≤ inUnits A e e0) {c : Nat} {q : Int} (hR : roundRatio b64 false A B e = .fin false c q) :
    9007199254740992 * (c * 2 ^ (q - e0).toNat * B) ≤ 9007199254740993 * inUnits A e e0 ∧ 9007199254740991 * inUnits A e e0 ≤ 9007199254740992 * (c * 2 ^ (q - e0).toNat * B) := by
  rw [w_rr, if_neg (by omega)] at hR
  have hm := nearest_units_le (f := b64) hA hB e
  have hQ1 := quantum_ge b64 A B e
  have hnb := quantum_not_below (f := b64) hA hB e
  generalize quantum b64 A B e = Q at hR hm hQ1 hnb
  obtain ⟨-, hv⟩ := settle_value good_b64 (e0 := e0) hm hR (by omega)
  obtain ⟨s1, s2, -⟩ := nearest_spec (unitsNum A e Q) (unitsDen B e Q) (unitsDen_pos hB _ _)
  generalize nearest (unitsNum A e Q) (unitsDen B e Q) = m at hv s1 s2
  have key : ∃ k, 0 < k ∧ inUnits A e e0 = unitsNum A e Q * k ∧ ∀ m : Nat, m * 2 ^ (Q - e0).toNat * B = m * unitsDen B e Q * k := by
    by_cases hle : Q ≤ e
    · refine ⟨2 ^ (Q - e0).toNat, Nat.two_pow_pos _, ?_, fun m => ?_⟩
      · rw [w_inUnits, w_num, show (e - e0).toNat = (e - Q).toNat + (Q - e0).toNat by omega, Nat.pow_add, Nat.mul_assoc]
      · rw [w_den, show (Q - e).toNat = 0 by omega, Nat.pow_zero, Nat.mul_one]; ac_rfl
    · refine ⟨2 ^ (e - e0).toNat, Nat.two_pow_pos _, ?_, fun m => ?_⟩
      · rw [w_inUnits, w_num, show (e - Q).toNat = 0 by omega, Nat.pow_zero, Nat.mul_one]
      · rw [w_den, show (Q - e0).toNat = (Q - e).toNat + (e - e0).toNat by omega, Nat.pow_add]; ac_rfl
  obtain ⟨k, hk, k1, k2⟩ := key
  have hND : 4503599627370496 * unitsDen B e Q ≤ unitsNum A e Q := by
    rcases hnb with hq | hq
    · subst hq
      rw [k1, k2] at hn
      exact Nat.le_of_mul_le_mul_right hn hk
    · refine Nat.le_of_not_lt fun h => hq ?_
      have z := (units_below A B e Q 52).mp (by rw [show (2 : Nat) ^ 52 = 4503599627370496 from by decide]; exact h)
      exact z
  have e1 : c * 2 ^ (q - e0).toNat * B = m * unitsDen B e Q * k := by
    have : c * 2 ^ (q - e0).toNat = m * 2 ^ (Q - e0).toNat := hv
    rw [this, k2]
  rw [e1, k1]
  generalize unitsNum A e Q = N at *
  rw [Nat.mul_assoc 2 m] at s2
  rw [Nat.add_mul, Nat.mul_assoc 2 m, Nat.one_mul] at s1
  generalize unitsDen B e Q = D at *
  generalize m * D = P at *
  have g1 : 9007199254740992 * P ≤ 9007199254740993 * N := by omega
  have g2 : 9007199254740991 * N ≤ 9007199254740992 * P := by omega
  constructor
  · rw [← Nat.mul_assoc, ← Nat.mul_assoc]; exact Nat.mul_le_mul_right _ g1
  · rw [← Nat.mul_assoc, ← Nat.mul_assoc]; exact Nat.mul_le_mul_right _ g2
theorem shift {c : Nat} {q e0 : Int} (h1 : b64.qmin ≤ q) (h0 : e0 ≤ b64.qmin) : c * 2 ^ (q - e0).toNat = c * 2 ^ (q - b64.qmin).toNat * 2 ^ (b64.qmin - e0).toNat := by
  rw [show (q - e0).toNat = (q - b64.qmin).toNat + (b64.qmin - e0).toNat by omega, Nat.pow_add, Nat.mul_assoc]
theorem divR {a b : UInt64} {n d : Int} {z : Nat} (ha : DInt n a) (hb : DInt d b) (hn : 0 < n) (hd : 0 < d) (hN : 4503599627370496 * d.toNat ≤ n.toNat * one64) (hz : Pz (ddiv a b) z) : 9007199254740992 * (z * d.toNat) ≤ 9007199254740993 * (n.toNat * one64) ∧ 9007199254740991 * (n.toNat * one64) ≤ 9007199254740992 * (z * d.toNat) := by
  obtain ⟨A, B, e, e0, k, M, h1, hB, h2, h3, hk, hM, h4, h5⟩ := divU ha hb hn hd
  have hfit := val64_fits (ddiv a b)
  obtain ⟨c, q, hv, rfl⟩ := hz
  rw [hv] at h1 hfit
  have hA : 0 < A := by
    refine Nat.pos_of_ne_zero fun q => ?_
    subst q
    have : 0 < n.toNat * one64 * M := Nat.mul_pos (Nat.mul_pos (by omega) one64_pos) hM
    rw [← h4] at this
    rw [w_inUnits, Nat.zero_mul, Nat.zero_mul] at this; exact absurd this (Nat.lt_irrefl _)
  have r := relR hA hB h2 h3 (by
    refine Nat.le_of_mul_le_mul_right ?_ hk
    rw [h5, h4]
    exact Nat.mul_le_mul_right _ hN) h1.symm
  rw [shift hfit.2.1 h2] at r
  have g1 := Nat.mul_le_mul_right k r.1
  have g2 := Nat.mul_le_mul_right k r.2
  rw [Nat.mul_assoc, h5, Nat.mul_assoc 9007199254740993, h4, ← Nat.mul_assoc, ← Nat.mul_assoc 9007199254740993] at g1
  rw [Nat.mul_assoc, h4, Nat.mul_assoc 9007199254740992, h5, ← Nat.mul_assoc, ← Nat.mul_assoc 9007199254740992] at g2
  exact ⟨Nat.le_of_mul_le_mul_right g1 hM, Nat.le_of_mul_le_mul_right g2 hM⟩
theorem mulU {x y : UInt64} {zx zy : Nat} (hx : Pz x zx) (hy : Pz y zy) : ∃ (A : Nat) (e : Int), val64 (dmul x y) = roundRatio b64 false A 1 e ∧ 2 * b64.qmin ≤ e ∧ inUnits A e (2 * b64.qmin) = zx * zy := by
  have fx := val64_fits x
  have fy := val64_fits y
  obtain ⟨c, q, h1, rfl⟩ := hx
  obtain ⟨d, r, g1, rfl⟩ := hy
  rw [h1] at fx
  rw [g1] at fy
  have a1 := fx.2.1
  have a2 := fy.2.1
  refine ⟨c * d, q + r, by rw [val64_dmul, h1, g1]; rfl, by omega, ?_⟩
  rw [w_inUnits, show (q + r - 2 * b64.qmin).toNat = (q - b64.qmin).toNat + (r - b64.qmin).toNat by omega, Nat.pow_add]; ac_rfl
theorem two_qmin : 2 * b64.qmin ≤ b64.qmin := by rw [qmin_b64]; decide
theorem pow_two_qmin : 2 ^ (b64.qmin - 2 * b64.qmin).toNat = one64 := by rw [show b64.qmin - 2 * b64.qmin = -b64.qmin by omega]; exact pow_qmin64
theorem mul_sgn {x y : UInt64} {zx zy : Nat} (hx : Pz x zx) (hy : Pz y zy) : sgn (val64 (dmul x y)) = false ∧ val64 (dmul x y) ≠ .nan := by
  obtain ⟨A, e, h, -⟩ := mulU hx hy
  rw [h]; exact ⟨sgn_roundRatio _ _ _ _ _, roundRatio_ne_nan _ _ _ _ _⟩
theorem mul_le {x y : UInt64} {zx zy : Nat} {V : Datum} (hx : Pz x zx) (hy : Pz y zy) (hV : fits b64 V) (hnn : V ≠ .nan) (h : zx * zy ≤ zmag b64 V * one64) : zmag b64 (val64 (dmul x y)) ≤ zmag b64 V := by
  obtain ⟨A, e, h1, h2, h3⟩ := mulU hx hy
  rw [h1]
  refine zmag_roundRatio_le good_b64 (by decide) hV hnn two_qmin h2 ?_
  rw [h3, pow_two_qmin, Nat.mul_one]; exact h
theorem mul_ge {x y : UInt64} {zx zy : Nat} {V : Datum} (hx : Pz x zx) (hy : Pz y zy) (hV : fits b64 V) (h : zmag b64 V * one64 ≤ zx * zy) : zmag b64 V ≤ zmag b64 (val64 (dmul x y)) := by
  obtain ⟨A, e, h1, h2, h3⟩ := mulU hx hy
  rw [h1]
  refine zmag_roundRatio_ge good_b64 (by decide) hV two_qmin h2 ?_
  rw [h3, pow_two_qmin, Nat.mul_one]; exact h
theorem mulR {x y : UInt64} {zx zy z : Nat} (hx : Pz x zx) (hy : Pz y zy) (hN : 4503599627370496 * one64 ≤ zx * zy) (hz : Pz (dmul x y) z) : 9007199254740992 * (z * one64) ≤ 9007199254740993 * (zx * zy) ∧ 9007199254740991 * (zx * zy) ≤ 9007199254740992 * (z * one64) := by
  obtain ⟨A, e, h1, h2, h3⟩ := mulU hx hy
  have hfit := val64_fits (dmul x y)
  obtain ⟨c, q, hv, rfl⟩ := hz
  rw [hv] at h1 hfit
  have hA : 0 < A := by
    refine Nat.pos_of_ne_zero fun q => ?_
    subst q
    have := one64_pos
    have : inUnits 0 e (2 * b64.qmin) = 0 := by rw [w_inUnits, Nat.zero_mul]
    omega
  have r := relR hA (by decide) two_qmin h2 (by rw [pow_two_qmin, Nat.mul_one, h3]; exact hN) h1.symm
  rw [shift hfit.2.1 two_qmin, pow_two_qmin, Nat.mul_one, h3] at r
  exact r
theorem l2dU (a : Int64) (ha : 0 < a.toInt) : val64 (l2d a) = roundRatio b64 false a.toInt.toNat 1 0 ∧ inUnits a.toInt.toNat 0 b64.qmin = a.toInt.toNat * one64 := by
  refine ⟨?_, ?_⟩
  · rw [val64_l2d]
    show roundRatio b64 (decide (a.toInt < 0)) a.toInt.natAbs 1 0 = _
    rw [show decide (a.toInt < 0) = false from by simp; omega, show a.toInt.natAbs = a.toInt.toNat by omega]
  · rw [w_inUnits, show (0 : Int) - b64.qmin = -b64.qmin by omega, pow_qmin64]
theorem l2d_pz (a : Int64) (ha : 0 < a.toInt) : ∃ z, Pz (l2d a) z ∧ 9007199254740992 * z ≤ 9007199254740993 * (a.toInt.toNat * one64) ∧ 9007199254740991 * (a.toInt.toNat * one64) ≤ 9007199254740992 * z := by
  obtain ⟨h1, h2⟩ := l2dU a ha
  obtain ⟨s, c, q, hv⟩ := l2d_fin a
  have hfit := val64_fits (l2d a)
  have hs := sgn_roundRatio b64 false a.toInt.toNat 1 0
  rw [← h1, hv] at hs
  obtain rfl : s = false := hs
  rw [hv] at h1 hfit
  refine ⟨_, ⟨c, q, hv, rfl⟩, ?_⟩
  have hw : (4503599627370496 : Nat) ≤ one64 := by decide +kernel
  have r := relR (A := a.toInt.toNat) (B := 1) (e := 0) (e0 := b64.qmin) (by omega) (by decide) (Int.le_refl _) (by rw [qmin_b64]; decide) (by
    rw [Int.sub_self, h2]
    show 4503599627370496 * 1 * 1 ≤ _
    exact Nat.le_trans hw (Nat.le_mul_of_pos_left _ (by omega))) h1.symm
  rw [Nat.mul_one, h2] at r
  exact r
/-! products -/
theorem chainU {u v T P R n k W : Nat} (hW : 0 < W) (a : u * (T * n) ≤ v * (k * W)) (b : u * (P * W) ≤ v * (T * T)) (c : u * (R * W) ≤ v * (P * T)) : u * u * u * u * u * (R * (n * n * n)) ≤ v * v * v * v * v * (k * k * k * W) := by
  have s3 : u * (R * W) * (u * W) ≤ v * T * (v * (T * T)) := Nat.le_trans (Nat.mul_le_mul_right (u * W) c) (by
    rw [show v * (P * T) * (u * W) = v * T * (u * (P * W)) by ac_rfl]; exact Nat.mul_le_mul_left _ b)
  have s4 : (u * (T * n)) * (u * (T * n)) * (u * (T * n)) ≤ (v * (k * W)) * (v * (k * W)) * (v * (k * W)) := Nat.mul_le_mul (Nat.mul_le_mul a a) a
  have s5 := Nat.mul_le_mul_right ((u * n) * (u * n) * (u * n)) s3
  rw [show v * T * (v * (T * T)) * ((u * n) * (u * n) * (u * n)) = v * v * ((u * (T * n)) * (u * (T * n)) * (u * (T * n))) by ac_rfl] at s5
  have s6 := Nat.le_trans s5 (Nat.mul_le_mul_left (v * v) s4)
  refine Nat.le_of_mul_le_mul_right ?_ (Nat.mul_pos hW hW)
  rw [show u * u * u * u * u * (R * (n * n * n)) * (W * W) = u * (R * W) * (u * W) * ((u * n) * (u * n) * (u * n)) by ac_rfl, show v * v * v * v * v * (k * k * k * W) * (W * W) = v * v * ((v * (k * W)) * (v * (k * W)) * (v * (k * W))) by ac_rfl]
  exact s6
theorem chainL {u v T P R n k W : Nat} (hW : 0 < W) (a : v * (k * W) ≤ u * (T * n)) (b : v * (T * T) ≤ u * (P * W)) (c : v * (P * T) ≤ u * (R * W)) : v * v * v * v * v * (k * k * k * W) ≤ u * u * u * u * u * (R * (n * n * n)) := by
  have s3 : v * T * (v * (T * T)) ≤ u * (R * W) * (u * W) := Nat.le_trans (Nat.mul_le_mul_left (v * T) b) (by
    rw [show v * T * (u * (P * W)) = v * (P * T) * (u * W) by ac_rfl]; exact Nat.mul_le_mul_right _ c)
  have s4 : (v * (k * W)) * (v * (k * W)) * (v * (k * W)) ≤ (u * (T * n)) * (u * (T * n)) * (u * (T * n)) := Nat.mul_le_mul (Nat.mul_le_mul a a) a
  have s5 := Nat.mul_le_mul_right ((u * n) * (u * n) * (u * n)) s3
  rw [show v * T * (v * (T * T)) * ((u * n) * (u * n) * (u * n)) = v * v * ((u * (T * n)) * (u * (T * n)) * (u * (T * n))) by ac_rfl] at s5
  have s6 := Nat.le_trans (Nat.mul_le_mul_left (v * v) s4) s5
  refine Nat.le_of_mul_le_mul_right ?_ (Nat.mul_pos hW hW)
  rw [show u * u * u * u * u * (R * (n * n * n)) * (W * W) = u * (R * W) * (u * W) * ((u * n) * (u * n) * (u * n)) by ac_rfl, show v * v * v * v * v * (k * k * k * W) * (W * W) = v * v * ((v * (k * W)) * (v * (k * W)) * (v * (k * W))) by ac_rfl]
  exact s6
/-- one up: a part in 2^31 is more than the roundings -/
theorem step_num {j : Nat} (hj : j + 1 ≤ 2147483648) : 9007199254740993 * 9007199254740993 * 9007199254740993 * 9007199254740993 * 9007199254740993 * (j * j * j) < 9007199254740991 * 9007199254740991 * 9007199254740991 * 9007199254740991 * 9007199254740991 * ((j + 1) * (j + 1) * (j + 1)) := by
  have a : j * 2147483648 ≤ (j + 1) * 2147483647 := by omega
  have b : j * j * (j * 2147483648) ≤ (j + 1) * (j + 1) * ((j + 1) * 2147483647) := Nat.mul_le_mul (Nat.mul_le_mul (by omega) (by omega)) a
  have hp : 0 < (j + 1) * (j + 1) * (j + 1) := Nat.mul_pos (Nat.mul_pos (by omega) (by omega)) (by omega)
  rw [← Nat.mul_assoc, ← Nat.mul_assoc ((j + 1) * (j + 1))] at b
  generalize (j + 1) * (j + 1) * (j + 1) = y at *
  generalize j * j * j = x at *
  omega
end Rnd
end Jvm.FP.Core.Wf
namespace Jvm.FP.Core.Wf
open Jvm.ClassFile (CmpOp)
open Jvm.Op (cmpValue)
section Plain
theorem topW : one64 < b64.tails * 2 ^ (b64.exps - 2) := by decide +kernel
theorem c31 : zmag b64 (val64 4467570830351532032) * 2147483648 = one64 := by decide +kernel
theorem c62 : zmag b64 (val64 4467570830351532032) * zmag b64 (val64 4467570830351532032) = zmag b64 (val64 4327959241903046656) * one64 := by decide +kernel
theorem c93 : zmag b64 (val64 4327959241903046656) * zmag b64 (val64 4467570830351532032) = zmag b64 (val64 4188347653454561280) * one64 := by decide +kernel
theorem d62 : 4503599627370496 ≤ zmag b64 (val64 4327959241903046656) := by decide +kernel
theorem d93 : 9007199254740992 ≤ zmag b64 (val64 4188347653454561280) := by decide +kernel
theorem d31 : 4503599627370496 * 2147483648 ≤ one64 := by decide +kernel
theorem c61 : zmag b64 (val64 4881901996069617664) = 2305843009213693952 * one64 := by decide +kernel
theorem top61 : zmag b64 (val64 4881901996069617664) < b64.tails * 2 ^ (b64.exps - 2) := by decide +kernel
theorem cub {k n : Int} {a b : UInt64} (ha : DInt k a) (hb : DInt n b) (hk : 0 < k) (hkn : k ≤ n) (hn : n ≤ 2147483648) : ∃ T P R, Pz (ddiv a b) T ∧ Pz (dmul (ddiv a b) (ddiv a b)) P ∧ Pz (dmul (dmul (ddiv a b) (ddiv a b)) (ddiv a b)) R ∧ R ≤ one64 ∧ (k = n → R = one64) ∧ zmag b64 (val64 4188347653454561280) ≤ R ∧
    9007199254740992 * 9007199254740992 * 9007199254740992 * 9007199254740992 * 9007199254740992 * (R * (n.toNat * n.toNat * n.toNat)) ≤ 9007199254740993 * 9007199254740993 * 9007199254740993 * 9007199254740993 * 9007199254740993 * (k.toNat * k.toNat * k.toNat * one64) ∧ 9007199254740991 * 9007199254740991 * 9007199254740991 * 9007199254740991 * 9007199254740991 * (k.toNat * k.toNat * k.toNat * one64) ≤ 9007199254740992 * 9007199254740992 * 9007199254740992 * 9007199254740992 * 9007199254740992 * (R * (n.toNat * n.toNat * n.toNat)) := by
  have oW := one64_pos
  have o1 := Pz.one
  obtain ⟨hs1, hs2⟩ := div_sgn ha hb hk (by omega)
  have T1 := div_le (V := val64 4607182418800017408) ha hb hk (by omega) (val64_fits _) o1.nn (by rw [o1.zm, Nat.mul_comm]; exact Nat.mul_le_mul_left _ (by omega))
  have T2 := div_ge (V := val64 4467570830351532032) ha hb hk (by omega) (val64_fits _) (by
    refine Nat.le_trans (Nat.mul_le_mul_left _ (show n.toNat ≤ 2147483648 by omega)) ?_
    rw [c31]; exact Nat.le_mul_of_pos_left _ (by omega))
  have T3 : k = n → one64 ≤ zmag b64 (val64 (ddiv a b)) := fun e => by
    have := div_ge (V := val64 4607182418800017408) ha hb hk (by omega) (val64_fits _) (by rw [o1.zm, Nat.mul_comm, e]; exact Nat.le_refl _)
    rw [o1.zm] at this; exact this
  rw [o1.zm] at T1
  have hT := Pz.of hs1 hs2 T1 topW
  have r1 := divR ha hb hk (by omega) (Nat.le_trans (Nat.mul_le_mul_left _ (show n.toNat ≤ 2147483648 by omega)) (Nat.le_trans d31 (Nat.le_mul_of_pos_left _ (by omega)))) hT
  generalize zmag b64 (val64 (ddiv a b)) = T at hT T1 T2 T3 r1
  generalize ddiv a b = t at hT ⊢
  obtain ⟨m1, m2⟩ := mul_sgn hT hT
  have P1 := mul_le (V := val64 4607182418800017408) hT hT (val64_fits _) o1.nn (by rw [o1.zm]; exact Nat.mul_le_mul T1 T1)
  have hq : zmag b64 (val64 4327959241903046656) * one64 ≤ T * T := by rw [← c62]; exact Nat.mul_le_mul T2 T2
  have P2 := mul_ge (V := val64 4327959241903046656) hT hT (val64_fits _) hq
  have P3 : k = n → one64 ≤ zmag b64 (val64 (dmul t t)) := fun e => by
    have := mul_ge (V := val64 4607182418800017408) hT hT (val64_fits _) (by rw [o1.zm]; exact Nat.mul_le_mul (T3 e) (T3 e))
    rw [o1.zm] at this; exact this
  rw [o1.zm] at P1
  have hP := Pz.of m1 m2 P1 topW
  have r2 := mulR hT hT (Nat.le_trans (Nat.mul_le_mul_right _ d62) hq) hP
  generalize zmag b64 (val64 (dmul t t)) = P at hP P1 P2 P3 r2
  generalize dmul t t = p at hP ⊢
  obtain ⟨m3, m4⟩ := mul_sgn hP hT
  have R1 := mul_le (V := val64 4607182418800017408) hP hT (val64_fits _) o1.nn (by rw [o1.zm]; exact Nat.mul_le_mul P1 T1)
  have hq2 : zmag b64 (val64 4188347653454561280) * one64 ≤ P * T := by rw [← c93]; exact Nat.mul_le_mul P2 T2
  have R2 := mul_ge (V := val64 4188347653454561280) hP hT (val64_fits _) hq2
  have R3 : k = n → one64 ≤ zmag b64 (val64 (dmul p t)) := fun e => by
    have := mul_ge (V := val64 4607182418800017408) hP hT (val64_fits _) (by rw [o1.zm]; exact Nat.mul_le_mul (P3 e) (T3 e))
    rw [o1.zm] at this; exact this
  rw [o1.zm] at R1
  have hR := Pz.of m3 m4 R1 topW
  have r3 := mulR hP hT (Nat.le_trans (Nat.mul_le_mul_right _ (Nat.le_trans (by decide) d93)) hq2) hR
  generalize zmag b64 (val64 (dmul p t)) = R at hR R1 R2 R3 r3
  exact ⟨T, P, R, hT, hP, hR, R1, fun e => Nat.le_antisymm R1 (R3 e), R2, chainU oW r1.1 r2.1 r3.1, chainL oW r1.2 r2.2 r3.2⟩
theorem cubLt {j N R1 R2 : Nat} (hj : j + 1 ≤ 2147483648) (h1 : 9007199254740992 * 9007199254740992 * 9007199254740992 * 9007199254740992 * 9007199254740992 * (R1 * N) ≤ 9007199254740993 * 9007199254740993 * 9007199254740993 * 9007199254740993 * 9007199254740993 * (j * j * j * one64)) (h2 : 9007199254740991 * 9007199254740991 * 9007199254740991 * 9007199254740991 * 9007199254740991 * ((j + 1) * (j + 1) * (j + 1) * one64) ≤ 9007199254740992 * 9007199254740992 * 9007199254740992 * 9007199254740992 * 9007199254740992 * (R2 * N)) : R1 < R2 := by
  have s := Nat.mul_lt_mul_of_pos_right (step_num hj) one64_pos
  rw [Nat.mul_assoc _ (j * j * j), Nat.mul_assoc _ ((j + 1) * (j + 1) * (j + 1))] at s
  have g := Nat.lt_of_le_of_lt h1 (Nat.lt_of_lt_of_le s h2)
  exact Nat.lt_of_mul_lt_mul_right (a := N) (Nat.lt_of_mul_lt_mul_left g)
/-! the tolerance -/
theorem up7 {u v u5 v5 M W R N3 nc kc : Nat} (hW : 0 < W) (hn : 0 < nc) (r4 : u * (M * W) ≤ v * (R * N3)) (b1 : u * N3 ≤ v * (nc * W)) (a1 : u5 * (R * nc) ≤ v5 * (kc * W)) : u * u * u5 * M ≤ v * v * v5 * (kc * W) := by
  have s1 := Nat.mul_le_mul_right (u * u5 * nc) r4
  have s2 : v * ((u * N3) * (u5 * (R * nc))) ≤ v * ((v * (nc * W)) * (v5 * (kc * W))) := Nat.mul_le_mul_left _ (Nat.mul_le_mul b1 a1)
  rw [show v * (R * N3) * (u * u5 * nc) = v * ((u * N3) * (u5 * (R * nc))) by ac_rfl] at s1
  refine Nat.le_of_mul_le_mul_right ?_ (Nat.mul_pos hW hn)
  rw [show u * u * u5 * M * (W * nc) = u * (M * W) * (u * u5 * nc) by ac_rfl, show v * v * v5 * (kc * W) * (W * nc) = v * ((v * (nc * W)) * (v5 * (kc * W))) by ac_rfl]
  exact Nat.le_trans s1 s2
theorem lo7 {u v u5 v5 M W R N3 nc kc : Nat} (hW : 0 < W) (hn : 0 < nc) (r4 : v * (R * N3) ≤ u * (M * W)) (b1 : v * (nc * W) ≤ u * N3) (a1 : v5 * (kc * W) ≤ u5 * (R * nc)) : v * v * v5 * (kc * W) ≤ u * u * u5 * M := by
  have s1 := Nat.mul_le_mul_right (u * u5 * nc) r4
  have s2 : v * ((v * (nc * W)) * (v5 * (kc * W))) ≤ v * ((u * N3) * (u5 * (R * nc))) := Nat.mul_le_mul_left _ (Nat.mul_le_mul b1 a1)
  rw [show v * (R * N3) * (u * u5 * nc) = v * ((u * N3) * (u5 * (R * nc))) by ac_rfl] at s1
  refine Nat.le_of_mul_le_mul_right ?_ (Nat.mul_pos hW hn)
  rw [show u * u * u5 * M * (W * nc) = u * (M * W) * (u * u5 * nc) by ac_rfl, show v * v * v5 * (kc * W) * (W * nc) = v * ((v * (nc * W)) * (v5 * (kc * W))) by ac_rfl]
  exact Nat.le_trans s2 s1
theorem tolb {u w TOL W K3 C kc : Nat} (hW : 0 < W) (r5 : w * (K3 * C) ≤ u * (TOL * W)) (c2 : w * (kc * W) ≤ u * K3) : w * w * (kc * C) ≤ u * u * TOL := by
  have s1 := Nat.mul_le_mul_left u r5
  have s2 := Nat.mul_le_mul_right (w * C) c2
  refine Nat.le_of_mul_le_mul_right ?_ hW
  rw [show w * w * (kc * C) * W = w * (kc * W) * (w * C) by ac_rfl, show u * u * TOL * W = u * (u * (TOL * W)) by ac_rfl]
  refine Nat.le_trans s2 ?_
  rw [show u * K3 * (w * C) = u * (w * (K3 * C)) by ac_rfl]; exact s1
theorem num1 : 9007199254740993 * 9007199254740993 * (9007199254740993 * 9007199254740993 * 9007199254740993 * 9007199254740993 * 9007199254740993) * one64 ≤ 9007199254740992 * 9007199254740992 * 9007199254740992 * 9007199254740992 * 9007199254740992 * 9007199254740992 * 9007199254740991 * one64 + 9007199254740992 * 9007199254740992 * 9007199254740992 * 9007199254740992 * 9007199254740992 * (9007199254740991 * 9007199254740991) * zmag b64 (val64 4427486594234968593) := by decide +kernel
theorem num2 : 9007199254740992 * 9007199254740992 * 9007199254740992 * 9007199254740992 * 9007199254740992 * 9007199254740992 * 9007199254740993 * one64 ≤ 9007199254740991 * 9007199254740991 * (9007199254740991 * 9007199254740991 * 9007199254740991 * 9007199254740991 * 9007199254740991) * one64 + 9007199254740992 * 9007199254740992 * 9007199254740992 * 9007199254740992 * 9007199254740992 * (9007199254740991 * 9007199254740991) * zmag b64 (val64 4427486594234968593) := by decide +kernel
theorem near {u v w u5 v5 M K T kc W C : Nat} (hu : 0 < u) (h5 : u5 = u * u * u * u * u) (h1 : u * u * u5 * M ≤ v * v * v5 * (kc * W)) (h2 : w * (kc * W) ≤ u * K) (h3 : w * w * (kc * C) ≤ u * u * T) (hnum : v * v * v5 * W ≤ u * u * u * u * u * u * w * W + u5 * (w * w) * C) : M ≤ K + T := by
  have p7 : 0 < u * u * u5 := by rw [h5]; exact Nat.mul_pos (Nat.mul_pos hu hu) (Nat.mul_pos (Nat.mul_pos (Nat.mul_pos (Nat.mul_pos hu hu) hu) hu) hu)
  refine Nat.le_of_mul_le_mul_left (Nat.le_trans h1 ?_) p7
  have s1 := Nat.mul_le_mul_left kc hnum
  have s2 := Nat.mul_le_mul_left (u * u * u * u * u * u) h2
  have s3 := Nat.mul_le_mul_left u5 h3
  rw [Nat.mul_add] at s1 ⊢
  rw [show kc * (v * v * v5 * W) = v * v * v5 * (kc * W) by ac_rfl, show kc * (u * u * u * u * u * u * w * W) = u * u * u * u * u * u * (w * (kc * W)) by ac_rfl, show kc * (u5 * (w * w) * C) = u5 * (w * w * (kc * C)) by ac_rfl] at s1
  rw [show u * u * u5 * T = u5 * (u * u * T) by ac_rfl, show u * u * u5 * K = u * u * u * u * u * u * (u * K) by rw [h5]; ac_rfl]
  exact Nat.le_trans s1 (Nat.add_le_add s2 s3)
theorem near2 {u v w u5 w5 M K T kc W C : Nat} (hu : 0 < u) (h5 : u5 = u * u * u * u * u) (h1 : w * w * w5 * (kc * W) ≤ u * u * u5 * M) (h2 : u * K ≤ v * (kc * W)) (h3 : w * w * (kc * C) ≤ u * u * T) (hnum : u * u * u * u * u * u * v * W ≤ w * w * w5 * W + u5 * (w * w) * C) : K ≤ M + T := by
  have p7 : 0 < u * u * u5 := by rw [h5]; exact Nat.mul_pos (Nat.mul_pos hu hu) (Nat.mul_pos (Nat.mul_pos (Nat.mul_pos (Nat.mul_pos hu hu) hu) hu) hu)
  refine Nat.le_of_mul_le_mul_left ?_ p7
  have s1 := Nat.mul_le_mul_left kc hnum
  have s2 := Nat.mul_le_mul_left (u * u * u * u * u * u) h2
  have s3 := Nat.mul_le_mul_left u5 h3
  rw [Nat.mul_add] at s1 ⊢
  rw [show kc * (w * w * w5 * W) = w * w * w5 * (kc * W) by ac_rfl, show kc * (u * u * u * u * u * u * v * W) = u * u * u * u * u * u * (v * (kc * W)) by ac_rfl, show kc * (u5 * (w * w) * C) = u5 * (w * w * (kc * C)) by ac_rfl] at s1
  rw [show u * u * u5 * T = u5 * (u * u * T) by ac_rfl, show u * u * u5 * K = u * u * u * u * u * u * (u * K) by rw [h5]; ac_rfl]
  exact Nat.le_trans s2 (Nat.le_trans s1 (Nat.add_le_add h1 s3))
theorem u5e : 9007199254740992 * 9007199254740992 * 9007199254740992 * 9007199254740992 * 9007199254740992 = 9007199254740992 * 9007199254740992 * 9007199254740992 * 9007199254740992 * 9007199254740992 := rfl
theorem half_le {o K c : Nat} (h : o * 9007199254740992 ≤ (2 * K) * c) : 4503599627370496 * o ≤ K * c := by
  rw [Nat.mul_assoc] at h; omega
theorem nanOf {x : UInt64} (h : Jvm.Free.Fl.NoNaN64 x) : val64 x ≠ .nan := (notNaN_iff x).mp (Jvm.Free.Fl.noNaN64_no.mp h)
theorem tolLaw {r s3 t3 : UInt64} {R N3 K3 nc kc : Nat} (hr : Pz r R) (hs : Pz s3 N3) (ht : Pz t3 K3) (hR1 : R ≤ one64) (hR2 : zmag b64 (val64 4188347653454561280) ≤ R) (hn : 0 < nc) (hk : 0 < kc) (hn2 : nc ≤ 1152921504606846976) (hk2 : kc ≤ 1152921504606846976)
    (a1 : 9007199254740992 * 9007199254740992 * 9007199254740992 * 9007199254740992 * 9007199254740992 * (R * nc) ≤ 9007199254740993 * 9007199254740993 * 9007199254740993 * 9007199254740993 * 9007199254740993 * (kc * one64)) (a2 : 9007199254740991 * 9007199254740991 * 9007199254740991 * 9007199254740991 * 9007199254740991 * (kc * one64) ≤ 9007199254740992 * 9007199254740992 * 9007199254740992 * 9007199254740992 * 9007199254740992 * (R * nc)) (b1 : 9007199254740992 * N3 ≤ 9007199254740993 * (nc * one64)) (b2 : 9007199254740991 * (nc * one64) ≤ 9007199254740992 * N3) (c1 : 9007199254740992 * K3 ≤ 9007199254740993 * (kc * one64)) (c2 : 9007199254740991 * (kc * one64) ≤ 9007199254740992 * K3) :
    Jvm.Free.Fl.NoNaN64 (dmul r s3) ∧ Jvm.Free.Fl.NoNaN64 (dsub (dmul r s3) t3) ∧ Jvm.Free.Fl.NoNaN64 (dmul t3 4427486594234968593) ∧ (∃ v, cmpValue (FP.dcmp (dsub (dmul r s3) t3) (dmul t3 4427486594234968593)) .g = v ∧ ¬ (0 : Int32) < v) ∧ ∃ v, cmpValue (FP.dcmp (FP.dneg (dsub (dmul r s3) t3)) (dmul t3 4427486594234968593)) .g = v ∧ ¬ (0 : Int32) < v := by
  have oW := one64_pos
  have hc : Pz 4427486594234968593 (zmag b64 (val64 4427486594234968593)) := Pz.of (by decide +kernel) (by decide +kernel) (Nat.le_refl _) (by decide +kernel)
  have cC : 9007199254740992 ≤ zmag b64 (val64 4427486594234968593) := by decide +kernel
  have cC2 : zmag b64 (val64 4427486594234968593) ≤ one64 := by decide +kernel
  have lift : ∀ {X m : Nat}, 0 < m → 9007199254740991 * (m * one64) ≤ 9007199254740992 * X → one64 ≤ 2 * X := fun {X m} hm h => by
    have : one64 ≤ m * one64 := Nat.le_mul_of_pos_left _ hm
    omega
  have N3l := lift hn b2
  have K3l := lift hk c2
  have upx : ∀ {X m : Nat}, m ≤ 1152921504606846976 → 9007199254740992 * X ≤ 9007199254740993 * (m * one64) → X ≤ zmag b64 (val64 4881901996069617664) := fun {X m} hm h => by
    rw [c61]
    have : m * one64 ≤ 1152921504606846976 * one64 := Nat.mul_le_mul_right _ hm
    omega
  have N3u := upx hn2 b1
  have K3u := upx hk2 c1
  have v61 : val64 4881901996069617664 ≠ .nan := by decide +kernel
  -- the product
  have M1 := mul_le (V := val64 4881901996069617664) hr hs (val64_fits _) v61 (by rw [Nat.mul_comm]; exact Nat.mul_le_mul N3u hR1)
  obtain ⟨q1, q2⟩ := mul_sgn hr hs
  have hM := Pz.of q1 q2 M1 top61
  have nM : 4503599627370496 * one64 ≤ R * N3 := by
    have e1 : zmag b64 (val64 4188347653454561280) * one64 ≤ R * (2 * N3) := Nat.mul_le_mul hR2 N3l
    have e2 : 9007199254740992 * one64 ≤ zmag b64 (val64 4188347653454561280) * one64 := Nat.mul_le_mul_right _ d93
    rw [Nat.mul_left_comm] at e1
    omega
  have r4 := mulR hr hs nM hM
  generalize zmag b64 (val64 (dmul r s3)) = M at hM M1 r4
  -- the tolerance
  have T1 := mul_le (V := val64 4881901996069617664) ht hc (val64_fits _) v61 (Nat.mul_le_mul K3u cC2)
  obtain ⟨q3, q4⟩ := mul_sgn ht hc
  have hTo := Pz.of q3 q4 T1 top61
  have nT : 4503599627370496 * one64 ≤ K3 * zmag b64 (val64 4427486594234968593) := by
    exact half_le (Nat.mul_le_mul K3l cC)
  have r5 := mulR ht hc nT hTo
  generalize zmag b64 (val64 (dmul t3 4427486594234968593)) = TT at hTo T1 r5
  have h7 := up7 oW hn r4.1 b1 a1
  have l7 := lo7 oW hn r4.2 b2 a2
  have tb := tolb oW r5.2 c2
  have n1 : M ≤ K3 + TT := near (by decide) u5e h7 c2 tb num1
  have n2 : K3 ≤ M + TT := near2 (by decide) u5e l7 c1 tb num2
  generalize dmul r s3 = m at hM ⊢
  generalize dmul t3 4427486594234968593 = to at hTo ⊢
  have nd : Jvm.Free.Fl.NoNaN64 (dsub m t3) := Jvm.Free.Fl.dsub_out hM.noNaN ht.fin
  have zy : zval b64 (negate (val64 t3)) = -(K3 : Int) := by rw [zval_negate, ht.zv]
  have fy : ∃ s c q, negate (val64 t3) = .fin s c q := by obtain ⟨s, c, q, h⟩ := ht.dfin; exact ⟨!s, c, q, by rw [h]; rfl⟩
  have dle : zval b64 (val64 (dsub m t3)) ≤ zval b64 (val64 to) := by
    rw [val64_dsub]
    refine sum_le good_b64 hM.dfin fy (val64_fits _) (negate_fits (val64_fits _)) (val64_fits _) hTo.nn ?_
    rw [hM.zv, zy, hTo.zv]; omega
  have dge : zval b64 (negate (val64 to)) ≤ zval b64 (val64 (dsub m t3)) := by
    rw [val64_dsub]
    refine sum_ge good_b64 hM.dfin fy (val64_fits _) (negate_fits (val64_fits _)) (negate_fits (val64_fits _)) (negate_ne_nan hTo.nn) ?_
    rw [hM.zv, zy, zval_negate, hTo.zv]; omega
  refine ⟨hM.noNaN, nd, hTo.noNaN, le_v (nanOf nd) hTo.nn dle, le_v ?_ hTo.nn ?_⟩
  · show val64 (FP.dneg (dsub m t3)) ≠ .nan
    rw [FP.val64_dneg]; exact negate_ne_nan (nanOf nd)
  · show zval b64 (val64 (FP.dneg (dsub m t3))) ≤ _
    rw [FP.val64_dneg, zval_negate]
    rw [zval_negate] at dge
    omega
/-! powers of two: nothing is rounded -/
theorem exactV {c j : Nat} (hc : c < 9007199254740992) (hj : j ≤ 1074) : ∃ V, fits b64 V ∧ V ≠ .nan ∧ zmag b64 V = c * 2 ^ (1074 - j) := by
  have hq : b64.qmin = -1074 := qmin_b64
  obtain ⟨c', q', e1, e2⟩ := round_exact good_b64 false (c := c) (q := -(j : Int)) hc (by omega) (by have : b64.qmax = 971 := by decide +kernel
                                                                                                     omega)
  refine ⟨round b64 (.fin false c (-(j : Int))), round_fits good_b64 _, by rw [e1]; exact Datum.noConfusion, ?_⟩
  rw [e1]
  show inUnits c' q' b64.qmin = _
  rw [e2]
  unfold inUnits
  rw [show (-(j : Int) - b64.qmin).toNat = 1074 - j by omega]
theorem pmul {c1 c2 a b d e : Nat} (h : a + b = d + e) : (c1 * 2 ^ a) * (c2 * 2 ^ b) = (c1 * c2 * 2 ^ d) * 2 ^ e := by
  rw [Nat.mul_assoc (c1 * c2), ← Nat.pow_add, ← h, Nat.pow_add]; ac_rfl
theorem powW {a b : Nat} (h : a + b = 1074) : 2 ^ a * 2 ^ b = one64 := by rw [← Nat.pow_add, h]; rfl
theorem cub0 {k n : Int} {a b a3 b3 : UInt64} (ha : DInt k a) (hb : DInt n b) (hk : 0 < k) (hkn : k ≤ n) {j : Nat} (hj : j ≤ 17) (hnj : n = ((2 ^ j : Nat) : Int)) (ha3 : DInt (k * k * k) a3) (hb3 : DInt (n * n * n) b3) (hk3 : 0 < k * k * k) (hn3 : 0 < n * n * n) : ∃ Z, Pz (dmul (dmul (ddiv a b) (ddiv a b)) (ddiv a b)) Z ∧ Pz (ddiv a3 b3) Z := by
  obtain ⟨kk, rfl⟩ : ∃ kk : Nat, k = kk := ⟨k.toNat, by omega⟩
  have hp : 2 ^ j ≤ 131072 := Nat.le_trans (Nat.pow_le_pow_right (by decide) hj) (by decide)
  have hkk : kk ≤ 131072 := by omega
  have k2 : kk * kk ≤ 131072 * 131072 := Nat.mul_le_mul hkk hkk
  have k3 : kk * kk * kk ≤ 131072 * 131072 * 131072 := Nat.mul_le_mul k2 hkk
  have hk0 : 0 < kk := by omega
  obtain ⟨V1, f1, g1, z1⟩ := exactV (c := kk) (j := j) (by omega) (by omega)
  obtain ⟨V2, f2, g2, z2⟩ := exactV (c := kk * kk) (j := 2 * j) (by omega) (by omega)
  obtain ⟨V3, f3, g3, z3⟩ := exactV (c := kk * kk * kk) (j := 3 * j) (by omega) (by omega)
  have hn : n.toNat = 2 ^ j := by omega
  have w1 : zmag b64 V1 * n.toNat = (kk : Int).toNat * one64 := by
    rw [z1, hn, Nat.mul_assoc, powW (by omega)]; rfl
  have tops : ∀ {V : Datum}, fits b64 V → V ≠ .nan → ∀ c i, zmag b64 V = c * 2 ^ (1074 - i) → c ≤ 9007199254740992 → zmag b64 V < b64.tails * 2 ^ (b64.exps - 2) := fun {V} f g c i hz hc => by
    rw [hz]
    refine Nat.lt_of_le_of_lt (Nat.mul_le_mul hc (Nat.pow_le_pow_right (by decide) (show 1074 - i ≤ 1074 by omega))) ?_
    decide +kernel
  obtain ⟨s1, s2⟩ := div_sgn ha hb hk (by omega)
  have eT : zmag b64 (val64 (ddiv a b)) = zmag b64 V1 := Nat.le_antisymm (div_le ha hb hk (by omega) f1 g1 (Nat.le_of_eq w1.symm)) (div_ge ha hb hk (by omega) f1 (Nat.le_of_eq w1))
  have hT := Pz.of s1 s2 (Nat.le_of_eq eT) (tops f1 g1 _ _ z1 (by omega))
  rw [eT, z1] at hT
  generalize ddiv a b = t at hT ⊢
  have w2 : (kk * 2 ^ (1074 - j)) * (kk * 2 ^ (1074 - j)) = zmag b64 V2 * one64 := by
    rw [z2]; exact (pmul (e := 1074) (by omega)).trans (congrArg _ (rfl : 2 ^ 1074 = one64))
  obtain ⟨s3, s4⟩ := mul_sgn hT hT
  have eP : zmag b64 (val64 (dmul t t)) = zmag b64 V2 := Nat.le_antisymm (mul_le hT hT f2 g2 (Nat.le_of_eq w2)) (mul_ge hT hT f2 (Nat.le_of_eq w2.symm))
  have hP := Pz.of s3 s4 (Nat.le_of_eq eP) (tops f2 g2 _ _ z2 (by omega))
  rw [eP, z2] at hP
  generalize dmul t t = p at hP ⊢
  have w3 : (kk * kk * 2 ^ (1074 - 2 * j)) * (kk * 2 ^ (1074 - j)) = zmag b64 V3 * one64 := by
    rw [z3]; exact (pmul (e := 1074) (by omega)).trans (congrArg _ (rfl : 2 ^ 1074 = one64))
  obtain ⟨s5, s6⟩ := mul_sgn hP hT
  have eR : zmag b64 (val64 (dmul p t)) = zmag b64 V3 := Nat.le_antisymm (mul_le hP hT f3 g3 (Nat.le_of_eq w3)) (mul_ge hP hT f3 (Nat.le_of_eq w3.symm))
  have hR := Pz.of s5 s6 (Nat.le_of_eq eR) (tops f3 g3 _ _ z3 (by omega))
  have w4 : zmag b64 V3 * (n * n * n).toNat = ((kk : Int) * kk * kk).toNat * one64 := by
    have e1 : (n * n * n).toNat = 2 ^ (3 * j) := by
      rw [hnj, show ((2 ^ j : Nat) : Int) * ((2 ^ j : Nat) : Int) * ((2 ^ j : Nat) : Int) = ((2 ^ j * 2 ^ j * 2 ^ j : Nat) : Int) by rw [Int.natCast_mul, Int.natCast_mul], Int.toNat_natCast, ← Nat.pow_add, ← Nat.pow_add]
      congr 1; omega
    have e2 : ((kk : Int) * kk * kk).toNat = kk * kk * kk := by rw [← Int.natCast_mul, ← Int.natCast_mul, Int.toNat_natCast]
    rw [e1, e2, z3, Nat.mul_assoc, powW (by omega)]
  obtain ⟨s7, s8⟩ := div_sgn ha3 hb3 hk3 hn3
  have eQ : zmag b64 (val64 (ddiv a3 b3)) = zmag b64 V3 := Nat.le_antisymm (div_le ha3 hb3 hk3 hn3 f3 g3 (Nat.le_of_eq w4.symm)) (div_ge ha3 hb3 hk3 hn3 f3 (Nat.le_of_eq w4))
  have hQ := Pz.of s7 s8 (Nat.le_of_eq eQ) (tops f3 g3 _ _ z3 (by omega))
  exact ⟨zmag b64 V3, eR ▸ hR, eQ ▸ hQ⟩
/-! ints and longs -/
theorem cube64 {k : Int32} (h0 : 0 < k.toInt) (h1 : k.toInt ≤ 1048576) : (k.toInt64 * k.toInt64 * k.toInt64).toInt = k.toInt * k.toInt * k.toInt ∧ 0 < k.toInt * k.toInt * k.toInt ∧ (k.toInt * k.toInt * k.toInt).toNat = k.toInt.toNat * k.toInt.toNat * k.toInt.toNat ∧ k.toInt.toNat * k.toInt.toNat * k.toInt.toNat ≤ 1152921504606846976 ∧ 0 < k.toInt.toNat * k.toInt.toNat * k.toInt.toNat := by
  have e : k.toInt64.toInt = k.toInt := Int32.toInt_toInt64 k
  obtain ⟨kk, hkk⟩ : ∃ kk : Nat, k.toInt = kk := ⟨k.toInt.toNat, by omega⟩
  have b1 : kk * kk ≤ 1048576 * 1048576 := Nat.mul_le_mul (by omega) (by omega)
  have b2 : kk * kk * kk ≤ 1048576 * 1048576 * 1048576 := Nat.mul_le_mul b1 (by omega)
  have p : 0 < kk * kk * kk := Nat.mul_pos (Nat.mul_pos (by omega) (by omega)) (by omega)
  have m1 : (k.toInt64 * k.toInt64).toInt = k.toInt * k.toInt := by
    rw [int64_mul (by rw [e, hkk, ← Int.natCast_mul]; omega) (by rw [e, hkk, ← Int.natCast_mul]; omega), e]
  have c1 : k.toInt * k.toInt * k.toInt = ((kk * kk * kk : Nat) : Int) := by rw [hkk, Int.natCast_mul, Int.natCast_mul]
  have m2 : (k.toInt64 * k.toInt64 * k.toInt64).toInt = k.toInt * k.toInt * k.toInt := by
    rw [int64_mul (by rw [m1, e, c1]; omega) (by rw [m1, e, c1]; omega), m1, e]
  refine ⟨m2, by omega, ?_, ?_, ?_⟩ <;> rw [hkk, Int.toNat_natCast]
  · rw [← hkk, c1, Int.toNat_natCast]
  · omega
  · exact p
end Plain
end Jvm.FP.Core.Wf
namespace Jvm.FP.Core.Wf
open Jvm.ClassFile (CmpOp)
open Jvm.Op (cmpValue)
section Facts
def cbr (k n : Int32) : UInt64 := FP.dmul (FP.dmul (FP.ddiv (FP.i2d k) (FP.i2d n)) (FP.ddiv (FP.i2d k) (FP.i2d n))) (FP.ddiv (FP.i2d k) (FP.i2d n))
theorem i32_pos {k : Int32} (h : ¬ k < 1) : 0 < k.toInt := by
  have : ¬ k.toInt < 1 := fun q => h (by rw [Int32.lt_iff_toInt_lt]; exact q)
  omega
theorem fact {k n : Int32} (hk : 0 < k.toInt) (hkn : k.toInt ≤ n.toInt) : ∃ R, Jvm.Free.Fl.NoNaN64 (FP.ddiv (FP.i2d k) (FP.i2d n)) ∧ Jvm.Free.Fl.NoNaN64 (FP.dmul (FP.ddiv (FP.i2d k) (FP.i2d n)) (FP.ddiv (FP.i2d k) (FP.i2d n))) ∧ Jvm.Free.Fl.NoNaN64 (cbr k n) ∧ Pz (cbr k n) R ∧ R ≤ one64 ∧ (k = n → R = one64) ∧ zmag b64 (val64 4188347653454561280) ≤ R ∧
    9007199254740992 * 9007199254740992 * 9007199254740992 * 9007199254740992 * 9007199254740992 * (R * (n.toInt.toNat * n.toInt.toNat * n.toInt.toNat)) ≤ 9007199254740993 * 9007199254740993 * 9007199254740993 * 9007199254740993 * 9007199254740993 * (k.toInt.toNat * k.toInt.toNat * k.toInt.toNat * one64) ∧ 9007199254740991 * 9007199254740991 * 9007199254740991 * 9007199254740991 * 9007199254740991 * (k.toInt.toNat * k.toInt.toNat * k.toInt.toNat * one64) ≤ 9007199254740992 * 9007199254740992 * 9007199254740992 * 9007199254740992 * 9007199254740992 * (R * (n.toInt.toNat * n.toInt.toNat * n.toInt.toNat)) := by
  have hn := n.toInt_lt
  obtain ⟨T, P, R, hT, hP, hR, r1, r2, r3, r4, r5⟩ := cub (i2d_int k) (i2d_int n) hk hkn (by omega)
  exact ⟨R, hT.noNaN, hP.noNaN, hR.noNaN, hR, r1, fun e => r2 (by rw [e]), r3, r4, r5⟩
theorem Rpos {R : Nat} (h : zmag b64 (val64 4188347653454561280) ≤ R) : 0 < R := Nat.lt_of_lt_of_le (by decide) (Nat.le_trans d93 h)
theorem sub1 {k : Int32} (h : (1 : Int32) < k) : (k - 1).toInt = k.toInt - 1 ∧ 1 < k.toInt := by
  have h1 : (1 : Int) < k.toInt := by rw [Int32.lt_iff_toInt_lt] at h; exact h
  have h2 := k.toInt_lt
  refine ⟨?_, h1⟩
  rw [Int32.toInt_sub, show (1 : Int32).toInt = 1 from rfl]
  rw [Int.bmod_eq_of_le (by omega) (by omega)]
theorem prevLt {k n : Int32} {R1 R2 : Nat} (hk : (1 : Int32) < k) (p1 : Pz (cbr (k - 1) n) R1) (p2 : Pz (cbr k n) R2) (h1 : 9007199254740992 * 9007199254740992 * 9007199254740992 * 9007199254740992 * 9007199254740992 * (R1 * (n.toInt.toNat * n.toInt.toNat * n.toInt.toNat)) ≤ 9007199254740993 * 9007199254740993 * 9007199254740993 * 9007199254740993 * 9007199254740993 * ((k - 1).toInt.toNat * (k - 1).toInt.toNat * (k - 1).toInt.toNat * one64)) (h2 : 9007199254740991 * 9007199254740991 * 9007199254740991 * 9007199254740991 * 9007199254740991 * (k.toInt.toNat * k.toInt.toNat * k.toInt.toNat * one64) ≤ 9007199254740992 * 9007199254740992 * 9007199254740992 * 9007199254740992 * 9007199254740992 * (R2 * (n.toInt.toNat * n.toInt.toNat * n.toInt.toNat))) : cmpValue (FP.dcmp (cbr (k - 1) n) (cbr k n)) .g = -1 := by
  obtain ⟨e1, e2⟩ := sub1 hk
  have hlt := k.toInt_lt
  have e3 : k.toInt.toNat = (k - 1).toInt.toNat + 1 := by omega
  rw [e3] at h2
  exact p1.lt p2 (cubLt (by omega) h1 h2) .g
theorem mode0 {k n : Int32} {R : Nat} (hk : 0 < k.toInt) (hkn : k.toInt ≤ n.toInt) (hn : ∃ j : Nat, j ≤ 17 ∧ n.toInt = ((2 ^ j : Nat) : Int)) : Jvm.Free.Fl.NoNaN64 (FP.ddiv (FP.l2d (k.toInt64 * k.toInt64 * k.toInt64)) (FP.l2d (n.toInt64 * n.toInt64 * n.toInt64))) ∧ cmpValue (FP.dcmp (cbr k n) (FP.ddiv (FP.l2d (k.toInt64 * k.toInt64 * k.toInt64)) (FP.l2d (n.toInt64 * n.toInt64 * n.toInt64)))) .l = 0 := by
  obtain ⟨j, hj, hnj⟩ := hn
  have hp : 2 ^ j ≤ 131072 := Nat.le_trans (Nat.pow_le_pow_right (by decide) hj) (by decide)
  obtain ⟨a1, a2, a3, a4, a5⟩ := cube64 hk (by omega)
  obtain ⟨b1, b2, b3, b4, b5⟩ := cube64 (k := n) (by omega) (by omega)
  have q : ∀ {x : Int32}, 0 < x.toInt → x.toInt ≤ 131072 → (x.toInt * x.toInt * x.toInt).natAbs ≤ 2 ^ 53 := fun {x} h0 h1 => by
    obtain ⟨xx, hx⟩ : ∃ xx : Nat, x.toInt = xx := ⟨x.toInt.toNat, by omega⟩
    have b1 : xx * xx ≤ 131072 * 131072 := Nat.mul_le_mul (by omega) (by omega)
    have b2 : xx * xx * xx ≤ 131072 * 131072 * 131072 := Nat.mul_le_mul b1 (by omega)
    rw [hx, ← Int.natCast_mul, ← Int.natCast_mul, Int.natAbs_natCast]
    exact Nat.le_trans b2 (by decide)
  have ha3 : DInt (k.toInt * k.toInt * k.toInt) (l2d (k.toInt64 * k.toInt64 * k.toInt64)) := a1 ▸ l2d_int (by rw [a1]; exact q hk (by omega))
  have hb3 : DInt (n.toInt * n.toInt * n.toInt) (l2d (n.toInt64 * n.toInt64 * n.toInt64)) := b1 ▸ l2d_int (by rw [b1]; exact q (by omega) (by omega))
  obtain ⟨Z, p1, p2⟩ := cub0 (i2d_int k) (i2d_int n) hk hkn hj hnj ha3 hb3 a2 b2
  exact ⟨p2.noNaN, Pz.eq p1 p2 rfl .l⟩
theorem mode1 {k n : Int32} {R : Nat} (hk : 0 < k.toInt) (hkn : k.toInt ≤ n.toInt) (hn : n.toInt ≤ 1048576) (hr : Pz (cbr k n) R) (r1 : R ≤ one64) (r3 : zmag b64 (val64 4188347653454561280) ≤ R) (r4 : 9007199254740992 * 9007199254740992 * 9007199254740992 * 9007199254740992 * 9007199254740992 * (R * (n.toInt.toNat * n.toInt.toNat * n.toInt.toNat)) ≤ 9007199254740993 * 9007199254740993 * 9007199254740993 * 9007199254740993 * 9007199254740993 * (k.toInt.toNat * k.toInt.toNat * k.toInt.toNat * one64)) (r5 : 9007199254740991 * 9007199254740991 * 9007199254740991 * 9007199254740991 * 9007199254740991 * (k.toInt.toNat * k.toInt.toNat * k.toInt.toNat * one64) ≤ 9007199254740992 * 9007199254740992 * 9007199254740992 * 9007199254740992 * 9007199254740992 * (R * (n.toInt.toNat * n.toInt.toNat * n.toInt.toNat))) :
    Jvm.Free.Fl.NoNaN64 (FP.dmul (cbr k n) (FP.l2d (n.toInt64 * n.toInt64 * n.toInt64))) ∧ Jvm.Free.Fl.NoNaN64 (FP.dsub (FP.dmul (cbr k n) (FP.l2d (n.toInt64 * n.toInt64 * n.toInt64))) (FP.l2d (k.toInt64 * k.toInt64 * k.toInt64))) ∧ Jvm.Free.Fl.NoNaN64 (FP.dmul (FP.l2d (k.toInt64 * k.toInt64 * k.toInt64)) 4427486594234968593) ∧
    (∃ v, cmpValue (FP.dcmp (FP.dsub (FP.dmul (cbr k n) (FP.l2d (n.toInt64 * n.toInt64 * n.toInt64))) (FP.l2d (k.toInt64 * k.toInt64 * k.toInt64))) (FP.dmul (FP.l2d (k.toInt64 * k.toInt64 * k.toInt64)) 4427486594234968593)) .g = v ∧ ¬ (0 : Int32) < v) ∧ ∃ v, cmpValue (FP.dcmp (FP.dneg (FP.dsub (FP.dmul (cbr k n) (FP.l2d (n.toInt64 * n.toInt64 * n.toInt64))) (FP.l2d (k.toInt64 * k.toInt64 * k.toInt64)))) (FP.dmul (FP.l2d (k.toInt64 * k.toInt64 * k.toInt64)) 4427486594234968593)) .g = v ∧ ¬ (0 : Int32) < v := by
  obtain ⟨a1, a2, a3, a4, a5⟩ := cube64 hk (by omega)
  obtain ⟨b1, b2, b3, b4, b5⟩ := cube64 (k := n) (by omega) hn
  obtain ⟨N3, p1, p2, p3⟩ := l2d_pz (n.toInt64 * n.toInt64 * n.toInt64) (by rw [b1]; exact b2)
  obtain ⟨K3, q1, q2, q3⟩ := l2d_pz (k.toInt64 * k.toInt64 * k.toInt64) (by rw [a1]; exact a2)
  rw [b1, b3] at p2 p3
  rw [a1, a3] at q2 q3
  exact tolLaw hr p1 q1 r1 r3 b5 a5 b4 a4 r4 r5 p2 p3 q2 q3
end Facts
end Jvm.FP.Core.Wf
namespace Jvm.Pilot.@@N@@
open Jvm Jvm.ClassFile Sem Op Lib Jvm.Free Jvm.Stand Jvm.LawKit Jvm.RoadKit Bundle Jvm.Pilot.@@N@@.Jvm.D
open Jvm.Wk (obj arr ints longs rf Rec Key kslot RecAt Hp WP Ctr gsE gsN gaL gaR distK)
theorem pn_0 : plainFor ({ cls := "java/lang/Record", name := "<init>", desc := "()V" } : Jvm.MethodName) = true := by first | decide +kernel | exact plainFor_of_name (by first | (simp [plainName, overriddenIn]; done) | decide +kernel)
theorem pn_1 : plainFor ({ cls := "com/example/particlade/particlade/AnnealingSchedule$Cubic", name := "<init>", desc := "(I)V" } : Jvm.MethodName) = true := by first | decide +kernel | exact plainFor_of_name (by first | (simp [plainName, overriddenIn]; done) | decide +kernel)
theorem pn_2 : plainFor ({ cls := "com/example/particlade/particlade/AnnealingSchedule$Cubic", name := "next", desc := "(ID[D[D)D" } : Jvm.MethodName) = true := by first | decide +kernel | exact plainFor_of_name (by first | (simp [plainName, overriddenIn]; done) | decide +kernel)
theorem pn_3 : plainFor ({ cls := "java/lang/Math", name := "max", desc := "(II)I" } : Jvm.MethodName) = true := by first | decide +kernel | exact plainFor_of_name (by first | (simp [plainName, overriddenIn]; done) | decide +kernel)
theorem pn_4 : plainFor ({ cls := "com/example/particlade/particlade/CubicNextPinLaw", name := "law", desc := "(III)Z" } : Jvm.MethodName) = true := by first | decide +kernel | exact plainFor_of_name (by first | (simp [plainName, overriddenIn]; done) | decide +kernel)
theorem pd_0 : parseMethodDescriptor "()V" = some ⟨[], none⟩ := by decide +kernel
theorem pd_1 : parseMethodDescriptor "(I)V" = some ⟨[.int], none⟩ := by decide +kernel
theorem pd_2 : parseMethodDescriptor "(ID[D[D)D" = some ⟨[.int, .double, (.array .double), (.array .double)], some .double⟩ := by decide +kernel
theorem pd_3 : parseMethodDescriptor "(II)I" = some ⟨[.int, .int], some .int⟩ := by decide +kernel
theorem d0_0 : decode jdk_29_method_65_code 0 = .ok (.iload_n 0, 1) := by decide +kernel
theorem d0_1 : decode jdk_29_method_65_code 1 = .ok (.iload_n 1, 1) := by decide +kernel
theorem d0_2 : decode jdk_29_method_65_code 2 = .ok (.if_icmp .lt 7, 3) := by decide +kernel
theorem d0_5 : decode jdk_29_method_65_code 5 = .ok (.iload_n 0, 1) := by decide +kernel
theorem d0_6 : decode jdk_29_method_65_code 6 = .ok (.goto 4, 3) := by decide +kernel
theorem d0_9 : decode jdk_29_method_65_code 9 = .ok (.iload_n 1, 1) := by decide +kernel
theorem d0_10 : decode jdk_29_method_65_code 10 = .ok (.ireturn, 1) := by decide +kernel
theorem d1_0 : decode prog_4_method_1_code 0 = .ok (.aload_n 0, 1) := by decide +kernel
theorem d1_1 : decode prog_4_method_1_code 1 = .ok (.invokespecial 1, 3) := by decide +kernel
theorem d1_4 : decode prog_4_method_1_code 4 = .ok (.iload_n 1, 1) := by decide +kernel
theorem d1_5 : decode prog_4_method_1_code 5 = .ok (.iconst 1, 1) := by decide +kernel
theorem d1_6 : decode prog_4_method_1_code 6 = .ok (.if_icmp .ge 17, 3) := by decide +kernel
theorem d1_23 : decode prog_4_method_1_code 23 = .ok (.aload_n 0, 1) := by decide +kernel
theorem d1_24 : decode prog_4_method_1_code 24 = .ok (.iload_n 1, 1) := by decide +kernel
theorem d1_25 : decode prog_4_method_1_code 25 = .ok (.putfield 16, 3) := by decide +kernel
theorem d1_28 : decode prog_4_method_1_code 28 = .ok (.return_, 1) := by decide +kernel
theorem d2_0 : decode jdk_30_method_1_code 0 = .ok (.aload_n 0, 1) := by decide +kernel
theorem d2_1 : decode jdk_30_method_1_code 1 = .ok (.invokespecial 1, 3) := by decide +kernel
theorem d2_4 : decode jdk_30_method_1_code 4 = .ok (.return_, 1) := by decide +kernel
theorem d4_0 : decode prog_4_method_2_code 0 = .ok (.iload_n 1, 1) := by decide +kernel
theorem d4_1 : decode prog_4_method_2_code 1 = .ok (.i2d, 1) := by decide +kernel
theorem d4_2 : decode prog_4_method_2_code 2 = .ok (.aload_n 0, 1) := by decide +kernel
theorem d4_3 : decode prog_4_method_2_code 3 = .ok (.getfield 16, 3) := by decide +kernel
theorem d4_6 : decode prog_4_method_2_code 6 = .ok (.i2d, 1) := by decide +kernel
theorem d4_7 : decode prog_4_method_2_code 7 = .ok (.ddiv, 1) := by decide +kernel
theorem d4_8 : decode prog_4_method_2_code 8 = .ok (.dstore 6, 2) := by decide +kernel
theorem d4_10 : decode prog_4_method_2_code 10 = .ok (.dload 6, 2) := by decide +kernel
theorem d4_12 : decode prog_4_method_2_code 12 = .ok (.dload 6, 2) := by decide +kernel
theorem d4_14 : decode prog_4_method_2_code 14 = .ok (.dmul, 1) := by decide +kernel
theorem d4_15 : decode prog_4_method_2_code 15 = .ok (.dload 6, 2) := by decide +kernel
theorem d4_17 : decode prog_4_method_2_code 17 = .ok (.dmul, 1) := by decide +kernel
theorem d4_18 : decode prog_4_method_2_code 18 = .ok (.dreturn, 1) := by decide +kernel
theorem wd0 {a0 : Array Value} {Z : State} (hw : ∀ d ∈ tables_1, d.before a0 Z = true) : ((Jvm.Cond.constant "com/example/particlade/particlade/CubicNextPinLaw" (7 : Nat) (2147483647 : Int32)) : Jvm.Cond).before a0 Z = true := hw _ (List.mem_of_getElem? (i := 0) rfl)
theorem wd1 {a0 : Array Value} {Z : State} (hw : ∀ d ∈ tables_1, d.before a0 Z = true) : ((Jvm.Cond.methodLink "com/example/particlade/particlade/CubicNextPinLaw" (9 : Nat) ({ cls := "java/lang/Math", name := "max", desc := "(II)I" } : Jvm.MethodName)) : Jvm.Cond).before a0 Z = true := hw _ (List.mem_of_getElem? (i := 1) rfl)
theorem wd2 {a0 : Array Value} {Z : State} (hw : ∀ d ∈ tables_1, d.before a0 Z = true) : ((Jvm.Cond.static ({ cls := "java/lang/Math", name := "max", desc := "(II)I" } : Jvm.MethodName)) : Jvm.Cond).before a0 Z = true := hw _ (List.mem_of_getElem? (i := 2) rfl)
theorem wd3 {a0 : Array Value} {Z : State} (hw : ∀ d ∈ tables_1, d.before a0 Z = true) : ((Jvm.Cond.initialized "java/lang/Math") : Jvm.Cond).before a0 Z = true := hw _ (List.mem_of_getElem? (i := 3) rfl)
theorem wd4 {a0 : Array Value} {Z : State} (hw : ∀ d ∈ tables_1, d.before a0 Z = true) : ((Jvm.Cond.code ({ cls := "java/lang/Math", name := "max", desc := "(II)I" } : Jvm.MethodName) jdk_29_method_65_code (2 : Nat) (Option.some Jvm.ClassFile.FieldType.int)) : Jvm.Cond).before a0 Z = true := hw _ (List.mem_of_getElem? (i := 4) rfl)
theorem wd5 {a0 : Array Value} {Z : State} (hw : ∀ d ∈ tables_1, d.before a0 Z = true) : ((Jvm.Cond.classLink "com/example/particlade/particlade/CubicNextPinLaw" (15 : Nat) "com/example/particlade/particlade/AnnealingSchedule$Cubic") : Jvm.Cond).before a0 Z = true := hw _ (List.mem_of_getElem? (i := 5) rfl)
theorem wd6 {a0 : Array Value} {Z : State} (hw : ∀ d ∈ tables_1, d.before a0 Z = true) : ((Jvm.Cond.instantiable "com/example/particlade/particlade/AnnealingSchedule$Cubic" (1 : Nat)) : Jvm.Cond).before a0 Z = true := hw _ (List.mem_of_getElem? (i := 6) rfl)
theorem wd7 {a0 : Array Value} {Z : State} (hw : ∀ d ∈ tables_1, d.before a0 Z = true) : ((Jvm.Cond.initialized "com/example/particlade/particlade/AnnealingSchedule$Cubic") : Jvm.Cond).before a0 Z = true := hw _ (List.mem_of_getElem? (i := 7) rfl)
theorem wd8 {a0 : Array Value} {Z : State} (hw : ∀ d ∈ tables_1, d.before a0 Z = true) : ((Jvm.Cond.methodLink "com/example/particlade/particlade/CubicNextPinLaw" (17 : Nat) ({ cls := "com/example/particlade/particlade/AnnealingSchedule$Cubic", name := "<init>", desc := "(I)V" } : Jvm.MethodName)) : Jvm.Cond).before a0 Z = true := hw _ (List.mem_of_getElem? (i := 8) rfl)
theorem wd9 {a0 : Array Value} {Z : State} (hw : ∀ d ∈ tables_1, d.before a0 Z = true) : ((Jvm.Cond.instanceMethod ({ cls := "com/example/particlade/particlade/AnnealingSchedule$Cubic", name := "<init>", desc := "(I)V" } : Jvm.MethodName)) : Jvm.Cond).before a0 Z = true := hw _ (List.mem_of_getElem? (i := 9) rfl)
theorem wd10 {a0 : Array Value} {Z : State} (hw : ∀ d ∈ tables_1, d.before a0 Z = true) : ((Jvm.Cond.code ({ cls := "com/example/particlade/particlade/AnnealingSchedule$Cubic", name := "<init>", desc := "(I)V" } : Jvm.MethodName) prog_4_method_1_code (2 : Nat) (Option.none : Option Jvm.ClassFile.FieldType)) : Jvm.Cond).before a0 Z = true := hw _ (List.mem_of_getElem? (i := 10) rfl)
theorem wd11 {a0 : Array Value} {Z : State} (hw : ∀ d ∈ tables_1, d.before a0 Z = true) : ((Jvm.Cond.methodLink "com/example/particlade/particlade/AnnealingSchedule$Cubic" (1 : Nat) ({ cls := "java/lang/Record", name := "<init>", desc := "()V" } : Jvm.MethodName)) : Jvm.Cond).before a0 Z = true := hw _ (List.mem_of_getElem? (i := 11) rfl)
theorem wd12 {a0 : Array Value} {Z : State} (hw : ∀ d ∈ tables_1, d.before a0 Z = true) : ((Jvm.Cond.instanceMethod ({ cls := "java/lang/Record", name := "<init>", desc := "()V" } : Jvm.MethodName)) : Jvm.Cond).before a0 Z = true := hw _ (List.mem_of_getElem? (i := 12) rfl)
theorem wd14 {a0 : Array Value} {Z : State} (hw : ∀ d ∈ tables_1, d.before a0 Z = true) : ((Jvm.Cond.initialized "java/lang/Record") : Jvm.Cond).before a0 Z = true := hw _ (List.mem_of_getElem? (i := 14) rfl)
theorem wd15 {a0 : Array Value} {Z : State} (hw : ∀ d ∈ tables_1, d.before a0 Z = true) : ((Jvm.Cond.code ({ cls := "java/lang/Record", name := "<init>", desc := "()V" } : Jvm.MethodName) jdk_30_method_1_code (1 : Nat) (Option.none : Option Jvm.ClassFile.FieldType)) : Jvm.Cond).before a0 Z = true := hw _ (List.mem_of_getElem? (i := 15) rfl)
theorem wd16 {a0 : Array Value} {Z : State} (hw : ∀ d ∈ tables_1, d.before a0 Z = true) : ((Jvm.Cond.methodLink "java/lang/Record" (1 : Nat) ({ cls := "java/lang/Object", name := "<init>", desc := "()V" } : Jvm.MethodName)) : Jvm.Cond).before a0 Z = true := hw _ (List.mem_of_getElem? (i := 16) rfl)
theorem wd17 {a0 : Array Value} {Z : State} (hw : ∀ d ∈ tables_1, d.before a0 Z = true) : ((Jvm.Cond.instanceMethod ({ cls := "java/lang/Object", name := "<init>", desc := "()V" } : Jvm.MethodName)) : Jvm.Cond).before a0 Z = true := hw _ (List.mem_of_getElem? (i := 17) rfl)
theorem wd18 {a0 : Array Value} {Z : State} (hw : ∀ d ∈ tables_1, d.before a0 Z = true) : ((Jvm.Cond.code ({ cls := "java/lang/Object", name := "<init>", desc := "()V" } : Jvm.MethodName) object_method_1_code (1 : Nat) (Option.none : Option Jvm.ClassFile.FieldType)) : Jvm.Cond).before a0 Z = true := hw _ (List.mem_of_getElem? (i := 18) rfl)
theorem wd19 {a0 : Array Value} {Z : State} (hw : ∀ d ∈ tables_1, d.before a0 Z = true) : ((Jvm.Cond.fieldLink "com/example/particlade/particlade/AnnealingSchedule$Cubic" (16 : Nat) "com/example/particlade/particlade/AnnealingSchedule$Cubic" "steps" "I") : Jvm.Cond).before a0 Z = true := hw _ (List.mem_of_getElem? (i := 19) rfl)
theorem wd20 {a0 : Array Value} {Z : State} (hw : ∀ d ∈ tables_1, d.before a0 Z = true) : ((Jvm.Cond.laysFinal "com/example/particlade/particlade/AnnealingSchedule$Cubic" "com/example/particlade/particlade/AnnealingSchedule$Cubic" "steps" "I") : Jvm.Cond).before a0 Z = true := hw _ (List.mem_of_getElem? (i := 20) rfl)
theorem wd21 {a0 : Array Value} {Z : State} (hw : ∀ d ∈ tables_1, d.before a0 Z = true) : ((Jvm.Cond.arrayClass Jvm.ClassFile.FieldType.double) : Jvm.Cond).before a0 Z = true := hw _ (List.mem_of_getElem? (i := 21) rfl)
theorem wd22 {a0 : Array Value} {Z : State} (hw : ∀ d ∈ tables_1, d.before a0 Z = true) : ((Jvm.Cond.methodLink "com/example/particlade/particlade/CubicNextPinLaw" (20 : Nat) ({ cls := "com/example/particlade/particlade/AnnealingSchedule$Cubic", name := "next", desc := "(ID[D[D)D" } : Jvm.MethodName)) : Jvm.Cond).before a0 Z = true := hw _ (List.mem_of_getElem? (i := 22) rfl)
theorem wd23 {a0 : Array Value} {Z : State} (hw : ∀ d ∈ tables_1, d.before a0 Z = true) : ((Jvm.Cond.declares ({ cls := "com/example/particlade/particlade/AnnealingSchedule$Cubic", name := "next", desc := "(ID[D[D)D" } : Jvm.MethodName)) : Jvm.Cond).before a0 Z = true := hw _ (List.mem_of_getElem? (i := 23) rfl)
theorem wd24 {a0 : Array Value} {Z : State} (hw : ∀ d ∈ tables_1, d.before a0 Z = true) : ((Jvm.Cond.instanceMethod ({ cls := "com/example/particlade/particlade/AnnealingSchedule$Cubic", name := "next", desc := "(ID[D[D)D" } : Jvm.MethodName)) : Jvm.Cond).before a0 Z = true := hw _ (List.mem_of_getElem? (i := 24) rfl)
theorem wd25 {a0 : Array Value} {Z : State} (hw : ∀ d ∈ tables_1, d.before a0 Z = true) : ((Jvm.Cond.selects "com/example/particlade/particlade/AnnealingSchedule$Cubic" ({ cls := "com/example/particlade/particlade/AnnealingSchedule$Cubic", name := "next", desc := "(ID[D[D)D" } : Jvm.MethodName) ({ cls := "com/example/particlade/particlade/AnnealingSchedule$Cubic", name := "next", desc := "(ID[D[D)D" } : Jvm.MethodName)) : Jvm.Cond).before a0 Z = true := hw _ (List.mem_of_getElem? (i := 25) rfl)
theorem wd26 {a0 : Array Value} {Z : State} (hw : ∀ d ∈ tables_1, d.before a0 Z = true) : ((Jvm.Cond.code ({ cls := "com/example/particlade/particlade/AnnealingSchedule$Cubic", name := "next", desc := "(ID[D[D)D" } : Jvm.MethodName) prog_4_method_2_code (8 : Nat) (Option.some Jvm.ClassFile.FieldType.double)) : Jvm.Cond).before a0 Z = true := hw _ (List.mem_of_getElem? (i := 26) rfl)
theorem wd27 {a0 : Array Value} {Z : State} (hw : ∀ d ∈ tables_1, d.before a0 Z = true) : ((Jvm.Cond.constant "com/example/particlade/particlade/CubicNextPinLaw" (8 : Nat) (1048575 : Int32)) : Jvm.Cond).before a0 Z = true := hw _ (List.mem_of_getElem? (i := 27) rfl)
theorem wd28 {a0 : Array Value} {Z : State} (hw : ∀ d ∈ tables_1, d.before a0 Z = true) : ((Jvm.Cond.constantDouble "com/example/particlade/particlade/CubicNextPinLaw" (24 : Nat) (4427486594234968593 : UInt64)) : Jvm.Cond).before a0 Z = true := hw _ (List.mem_of_getElem? (i := 28) rfl)
abbrev ksC : List Key := [("com/example/particlade/particlade/AnnealingSchedule$Cubic", "steps", "I")]
theorem ksC_laidk {a0 : Array Value} {Z : State} (hw : ∀ d ∈ tables_1, d.before a0 Z = true) : ∀ (i : Nat) (k : Key), ksC[i]? = some k → Laid Z a0 "com/example/particlade/particlade/AnnealingSchedule$Cubic" k.1 k.2.1 k.2.2
  | 0, _, rfl => (Or.inr (wd20 hw))
  | i + 1, k, h => by simp at h
theorem ksC_laid {a0 : Array Value} {Z : State} (hw : ∀ d ∈ tables_1, d.before a0 Z = true) : ∀ (i : Nat) (k : Key) (v : Value), ksC[i]? = some k → ([(.int (0 : Int32))] : List Value)[i]? = some v → Laid Z a0 "com/example/particlade/particlade/AnnealingSchedule$Cubic" k.1 k.2.1 k.2.2 ∧ ∃ ty, parseFieldDescriptor k.2.2 = some ty ∧ v = defaultValue ty
  | 0, _, _, rfl, rfl => ⟨ksC_laidk hw 0 _ rfl, .int, by decide, rfl⟩
  | i + 1, k, v, h, _ => by simp at h
theorem ksC_dist {a0 : Array Value} {Z : State} (hw : ∀ d ∈ tables_1, d.before a0 Z = true) (i j : Nat) (k k' : Key) (h1 : ksC[i]? = some k) (h2 : ksC[j]? = some k') (hne : i ≠ j) : kslot Z k ≠ kslot Z k' :=
  distK (C := "com/example/particlade/particlade/AnnealingSchedule$Cubic") (ksC_laidk hw) (by decide) (by decide) i j k k' h1 h2 hne
open Jvm.FP.Core.Wf (cbr fact Rpos sub1 prevLt mode0 mode1 Pz le_v)
def mxI (x z : Int32) : Int32 := if x < z then z else x
set_option maxRecDepth 65536 in
set_option maxHeartbeats 40000000 in
theorem m_rinit (l : Launch) (Z : State) (a0 : Array Value) (hw : ∀ d ∈ tables_1, d.before a0 Z = true) (hB : Heap) (H : List Rec) (i : Nat) : Ctr l Z hB ({ cls := "java/lang/Record", name := "<init>", desc := "()V" } : Jvm.MethodName) jdk_30_method_1_code 1 none [] ({ frames := 1, cells := 0, slots := 0, locals := 12 } : Room) #[(rf hB i)] H (fun v H' => v = none ∧ H' = H) := by
  refine Wk.ctr pn_0 (Ls := #[.val (rf hB i)]) (fun m => by first | rfl | (simp [entryFrame, mkF, argsToLocals, Value.category]; done)) ?_
  refine Wk.aloadN (pc' := 1) d2_0 rfl rfl rfl ?_
  refine Wk.initObj (pc' := 4) d2_1 (wd16 hw) (wd17 hw) (wd18 hw) rfl (Nat.le_of_ble_eq_true rfl) (Nat.le_of_ble_eq_true rfl) rfl ?_
  exact Wk.vret d2_4 rfl (by simp <;> omega) (Nat.le_of_ble_eq_true rfl) ⟨rfl, rfl⟩
set_option maxRecDepth 65536 in
set_option maxHeartbeats 40000000 in
theorem m_init (l : Launch) (Z : State) (a0 : Array Value) (hw : ∀ d ∈ tables_1, d.before a0 Z = true) (hB : Heap) (n : Int32) (hn : ¬ n < 1) : Ctr l Z hB ({ cls := "com/example/particlade/particlade/AnnealingSchedule$Cubic", name := "<init>", desc := "(I)V" } : Jvm.MethodName) prog_4_method_1_code 2 none [] ({ frames := 2, cells := 0, slots := 0, locals := 24 } : Room) #[(rf hB 0), (.int n)] [obj "com/example/particlade/particlade/AnnealingSchedule$Cubic" ksC [(.int (0 : Int32))]] (fun v H' => v = none ∧ H' = [obj "com/example/particlade/particlade/AnnealingSchedule$Cubic" ksC [(.int n)]]) := by
  refine Wk.ctr pn_1 (Ls := #[.val (rf hB 0), .val (.int n)]) (fun m => by first | rfl | (simp [entryFrame, mkF, argsToLocals, Value.category]; done)) ?_
  refine Wk.aloadN (pc' := 1) d1_0 rfl rfl rfl ?_
  refine Wk.callI (pc' := 4) (argsL := []) (st := []) d1_1 rfl (wd11 hw) (wd12 hw) (wd14 hw) (wd15 hw) (by decide) (lenOf pd_0 rfl) (m_rinit l Z a0 hw hB [obj "com/example/particlade/particlade/AnnealingSchedule$Cubic" ksC [(.int (0 : Int32))]] 0) rfl (Nat.le_of_ble_eq_true rfl) (Nat.le_of_ble_eq_true rfl) (Nat.le_of_ble_eq_true rfl) (Nat.le_of_ble_eq_true rfl) rfl rfl ?_
  rintro _ _ ⟨rfl, hH⟩; obtain rfl := hH.symm
  show WP l Z hB _ _ _ _ _ _ _ _ [obj "com/example/particlade/particlade/AnnealingSchedule$Cubic" ksC [(.int (0 : Int32))]] _ _ []
  refine Wk.iloadN (pc' := 5) d1_4 rfl rfl ?_
  refine Wk.iconst (pc' := 6) (1 : Int32) d1_5 (by decide) rfl ?_
  refine Wk.icY (pc' := 23) d1_6 (XT.ii_ge_t hn) (by decide) (by decide) ?_
  refine Wk.aloadN (pc' := 24) d1_23 rfl rfl rfl ?_
  refine Wk.iloadN (pc' := 25) d1_24 rfl rfl ?_
  refine Wk.putF0 (pc' := 28) (i := 0) (j := 0) (H' := [obj "com/example/particlade/particlade/AnnealingSchedule$Cubic" ksC [(.int n)]]) (ty := .int) d1_25 (wd19 hw) rfl rfl (Nat.le_of_ble_eq_true rfl) (Or.inr ⟨(wd20 hw), rfl, rfl⟩) (wd6 hw) (by decide) rfl rfl rfl rfl ?_
  exact Wk.vret d1_28 rfl (Nat.le_of_ble_eq_true rfl) (Nat.le_of_ble_eq_true rfl) ⟨rfl, rfl⟩
set_option maxRecDepth 65536 in
set_option maxHeartbeats 40000000 in
theorem m_next (l : Launch) (Z : State) (a0 : Array Value) (hw : ∀ d ∈ tables_1, d.before a0 Z = true) (hB : Heap) (H : List Rec) (i j : Nat) (k n : Int32) (ph : UInt64) (hi : H[i]? = some (obj "com/example/particlade/particlade/AnnealingSchedule$Cubic" ksC [(.int n)])) (N1 : Jvm.Free.Fl.NoNaN64 (FP.ddiv (FP.i2d k) (FP.i2d n))) (N2 : Jvm.Free.Fl.NoNaN64 (FP.dmul (FP.ddiv (FP.i2d k) (FP.i2d n)) (FP.ddiv (FP.i2d k) (FP.i2d n)))) (N3 : Jvm.Free.Fl.NoNaN64 (cbr k n)) : Ctr l Z hB ({ cls := "com/example/particlade/particlade/AnnealingSchedule$Cubic", name := "next", desc := "(ID[D[D)D" } : Jvm.MethodName) prog_4_method_2_code 8 (some .double) [] ({ frames := 0, cells := 0, slots := 0, locals := 0 } : Room) #[(rf hB i), (.int k), (.double ph), (rf hB j), (rf hB j)] H (fun v H' => v = some (.double (cbr k n)) ∧ H' = H) := by
  refine Wk.ctr pn_2 (Ls := #[.val (rf hB i), .val (.int k), .val (.double ph), .second, .val (rf hB j), .val (rf hB j), .unset, .unset]) (fun m => by first | rfl | (simp [entryFrame, mkF, argsToLocals, Value.category]; done)) ?_
  refine Wk.iloadN (pc' := 1) d4_0 rfl rfl ?_
  refine Wk.i2d (pc' := 2) d4_1 rfl ?_
  refine Wk.aloadN (pc' := 3) d4_2 rfl rfl rfl ?_
  refine Wk.getF0 (pc' := 6) (i := i) (j := 0) d4_3 (wd19 hw) hi rfl rfl rfl ?_
  refine Wk.i2d (pc' := 7) d4_6 rfl ?_
  refine Wk.ddiv (pc' := 8) (v := (FP.ddiv (FP.i2d k) (FP.i2d n))) d4_7 N1 rfl rfl ?_
  refine Wk.dstore (pc' := 10) (Ls' := #[.val (rf hB i), .val (.int k), .val (.double ph), .second, .val (rf hB j), .val (rf hB j), .val (.double (FP.ddiv (FP.i2d k) (FP.i2d n))), .second]) d4_8 rfl rfl ?_
  refine Wk.dload (pc' := 12) d4_10 rfl rfl ?_
  refine Wk.dload (pc' := 14) d4_12 rfl rfl ?_
  refine Wk.dmul (pc' := 15) (v := (FP.dmul (FP.ddiv (FP.i2d k) (FP.i2d n)) (FP.ddiv (FP.i2d k) (FP.i2d n)))) d4_14 N2 rfl rfl ?_
  refine Wk.dload (pc' := 17) d4_15 rfl rfl ?_
  refine Wk.dmul (pc' := 18) (v := (cbr k n)) d4_17 N3 rfl rfl ?_
  exact Wk.dret d4_18 rfl (by first | (simp only [List.length_append, List.length_cons, List.length_nil] <;> omega) | (simp <;> omega) | simp) (Nat.le_of_ble_eq_true rfl) ⟨rfl, rfl⟩
set_option maxRecDepth 65536 in
set_option maxHeartbeats 40000000 in
theorem m_max (l : Launch) (Z : State) (a0 : Array Value) (hw : ∀ d ∈ tables_1, d.before a0 Z = true) (hB : Heap) (H : List Rec) (x z : Int32) : Ctr l Z hB ({ cls := "java/lang/Math", name := "max", desc := "(II)I" } : Jvm.MethodName) jdk_29_method_65_code 2 (some .int) [] ({ frames := 0, cells := 0, slots := 0, locals := 0 } : Room) #[(.int x), (.int z)] H (fun v H' => v = some (.int (mxI x z)) ∧ H' = H) := by
  refine Wk.ctr pn_3 (Ls := #[.val (.int x), .val (.int z)]) (fun m => by first | rfl | (simp [entryFrame, mkF, argsToLocals, Value.category]; done)) ?_
  refine Wk.iloadN (pc' := 1) d0_0 rfl rfl ?_
  refine Wk.iloadN (pc' := 2) d0_1 rfl rfl ?_
  by_cases hc1 : x < z
  ·
    refine Wk.icY (pc' := 9) d0_2 (XT.ii_lt_t hc1) (by decide) (by decide) ?_
    refine Wk.iloadN (pc' := 10) d0_9 rfl rfl ?_
    exact Wk.iret (t := .int) d0_10 rfl (by simp) rfl (by simp <;> omega) (Nat.le_of_ble_eq_true rfl) ⟨congrArg (fun z => some (Value.int z)) (show z = mxI x z from by rw [mxI, if_pos hc1]), rfl⟩
  ·
    refine Wk.icN (pc' := 5) d0_2 (XT.ii_lt_f hc1) rfl ?_
    refine Wk.iloadN (pc' := 6) d0_5 rfl rfl ?_
    refine Wk.goTo (pc' := 10) d0_6 (by decide) (by decide) ?_
    exact Wk.iret (t := .int) d0_10 rfl (by simp) rfl (by simp <;> omega) (Nat.le_of_ble_eq_true rfl) ⟨congrArg (fun z => some (Value.int z)) (show x = mxI x z from by rw [mxI, if_neg hc1]), rfl⟩
set_option maxRecDepth 65536 in
set_option maxHeartbeats 40000000 in
theorem m_74 (l : Launch) (Z : State) (a0 : Array Value) (hw : ∀ d ∈ tables_1, d.before a0 Z = true) (hB : Heap) (a b c0 m n k : Int32) (hm0 : m = 0 → ∃ j : Nat, j ≤ 17 ∧ n.toInt = ((2 ^ j : Nat) : Int)) (hm1 : m = 1 → n.toInt ≤ 1048576) (hk : 0 < k.toInt) (hkn : k.toInt ≤ n.toInt) : WP l Z hB x code maxLocals ret room_1 0 (fun v _ => v = some (.int 1)) 0 [] 74 #[.val (.int a), .val (.int b), .val (.int c0), .val (.int m), .val (.int n), .val (.int k), .unset, .unset, .unset, .unset, .unset, .unset, .unset, .unset, .unset, .unset, .unset, .unset, .unset, .unset, .unset, .unset, .unset] [] := by
  obtain ⟨R2, N1, N2, N3, hR, r1, r2, r3, r4, r5⟩ := fact hk hkn
  have hn1 : ¬ n < 1 := by rw [Int32.lt_iff_toInt_lt, show (1 : Int32).toInt = 1 from rfl]; omega
  have cz := hR.gt Pz.zero (Rpos r3) .l
  obtain ⟨v1, cv1, hv1⟩ := le_v hR.nn Pz.one.nn (by rw [hR.zv, Pz.one.zv]; omega)
  have R := And.intro r2 hR
  refine Wk.newObj (pc' := 77) (i := 0) (H' := [obj "com/example/particlade/particlade/AnnealingSchedule$Cubic" ksC [(.int (0 : Int32))]]) at_74 (wd5 hw) (wd6 hw) (wd7 hw) (ksC_laid hw) (ksC_dist hw) (Nat.le_of_ble_eq_true rfl) (Nat.le_of_ble_eq_true rfl) rfl rfl rfl ?_
  refine Wk.dup (pc' := 78) at_77 rfl rfl ?_
  refine Wk.iload (pc' := 80) at_78 rfl rfl ?_
  refine Wk.callI (pc' := 83) (argsL := [(.int n)]) (st := [(rf hB 0)]) at_80 rfl (wd8 hw) (wd9 hw) (wd7 hw) (wd10 hw) (by decide) (lenOf pd_1 rfl) (m_init l Z a0 hw hB n hn1) rfl (Nat.le_of_ble_eq_true rfl) (Nat.le_of_ble_eq_true rfl) (Nat.le_of_ble_eq_true rfl) (Nat.le_of_ble_eq_true rfl) rfl rfl ?_
  rintro _ _ ⟨rfl, hH⟩; obtain rfl := hH.symm
  show WP l Z hB _ _ _ _ _ _ _ _ [obj "com/example/particlade/particlade/AnnealingSchedule$Cubic" ksC [(.int n)]] _ _ [(rf hB 0)]
  refine Wk.astore (pc' := 85) (Ls' := #[.val (.int a), .val (.int b), .val (.int c0), .val (.int m), .val (.int n), .val (.int k), .val (rf hB 0), .unset, .unset, .unset, .unset, .unset, .unset, .unset, .unset, .unset, .unset, .unset, .unset, .unset, .unset, .unset, .unset]) at_83 rfl rfl rfl ?_
  refine Wk.iconst (pc' := 86) (0 : Int32) at_85 (by decide) rfl ?_
  refine Wk.newArr (pc' := 88) (i := 1) (nn := 0) (H' := [obj "com/example/particlade/particlade/AnnealingSchedule$Cubic" ksC [(.int n)], arr .double []]) at_86 (wd21 hw) (by decide) (by decide) (by omega) rfl ⟨(by intro C; simp [newarray.typeOf]), (by intro C; simp [newarray.typeOf])⟩ (Nat.le_of_ble_eq_true rfl) (Nat.le_of_ble_eq_true rfl) rfl rfl rfl ?_
  refine Wk.astore (pc' := 90) (Ls' := #[.val (.int a), .val (.int b), .val (.int c0), .val (.int m), .val (.int n), .val (.int k), .val (rf hB 0), .val (rf hB 1), .unset, .unset, .unset, .unset, .unset, .unset, .unset, .unset, .unset, .unset, .unset, .unset, .unset, .unset, .unset]) at_88 rfl rfl rfl ?_
  refine Wk.dconst0 (pc' := 91) at_90 rfl ?_
  refine Wk.dstore (pc' := 93) (Ls' := #[.val (.int a), .val (.int b), .val (.int c0), .val (.int m), .val (.int n), .val (.int k), .val (rf hB 0), .val (rf hB 1), .val (.double (0 : UInt64)), .second, .unset, .unset, .unset, .unset, .unset, .unset, .unset, .unset, .unset, .unset, .unset, .unset, .unset]) at_91 rfl rfl ?_
  refine Wk.iload (pc' := 95) at_93 rfl rfl ?_
  refine Wk.iconst (pc' := 96) (1 : Int32) at_95 (by decide) rfl ?_
  by_cases hc1 : (1 : Int32) < k
  ·
    refine Wk.icN (pc' := 99) at_96 (XT.ii_le_f hc1) rfl ?_
    obtain ⟨s1, s2⟩ := sub1 hc1
    obtain ⟨R1, M1, M2, M3, hR1, t1, t2, t3, t4, t5⟩ := fact (k := k - 1) (n := n) (by omega) (by omega)
    have cp := prevLt hc1 hR1 hR t4 r5
    refine Wk.aload (pc' := 101) at_99 rfl rfl rfl ?_
    refine Wk.iload (pc' := 103) at_101 rfl rfl ?_
    refine Wk.iconst (pc' := 104) (1 : Int32) at_103 (by decide) rfl ?_
    refine Wk.isub (pc' := 105) at_104 rfl ?_
    refine Wk.dconst0 (pc' := 106) at_105 rfl ?_
    refine Wk.aload (pc' := 108) at_106 rfl rfl rfl ?_
    refine Wk.aload (pc' := 110) at_108 rfl rfl rfl ?_
    refine Wk.callV (pc' := 113) (argsL := [(.int (k - (1 : Int32))), (.double (0 : UInt64)), (rf hB 1), (rf hB 1)]) (st := []) at_110 (wd22 hw) (wd23 hw) (Wk.nfSel (wd25 hw)) (wd25 hw) (wd24 hw) (wd7 hw) (wd26 hw) (by decide) (lenOf pd_2 rfl) (fun _ P => P.exa rfl) (m_next l Z a0 hw hB [obj "com/example/particlade/particlade/AnnealingSchedule$Cubic" ksC [(.int n)], arr .double []] 0 1 (k - (1 : Int32)) n (0 : UInt64) rfl M1 M2 M3) rfl (Nat.le_of_ble_eq_true rfl) (Nat.le_of_ble_eq_true rfl) (Nat.le_of_ble_eq_true rfl) (Nat.le_of_ble_eq_true rfl) rfl rfl ?_
    rintro _ _ ⟨rfl, hH⟩; obtain rfl := hH.symm
    show WP l Z hB _ _ _ _ _ _ _ _ [obj "com/example/particlade/particlade/AnnealingSchedule$Cubic" ksC [(.int n)], arr .double []] _ _ [(.double (cbr (k - (1 : Int32)) n))]
    refine Wk.dstore (pc' := 115) (Ls' := #[.val (.int a), .val (.int b), .val (.int c0), .val (.int m), .val (.int n), .val (.int k), .val (rf hB 0), .val (rf hB 1), .val (.double (cbr (k - (1 : Int32)) n)), .second, .unset, .unset, .unset, .unset, .unset, .unset, .unset, .unset, .unset, .unset, .unset, .unset, .unset]) at_113 rfl rfl ?_
    refine Wk.aload (pc' := 117) at_115 rfl rfl rfl ?_
    refine Wk.iload (pc' := 119) at_117 rfl rfl ?_
    refine Wk.dload (pc' := 121) at_119 rfl rfl ?_
    refine Wk.aload (pc' := 123) at_121 rfl rfl rfl ?_
    refine Wk.aload (pc' := 125) at_123 rfl rfl rfl ?_
    refine Wk.callV (pc' := 128) (argsL := [(.int k), (.double (cbr (k - (1 : Int32)) n)), (rf hB 1), (rf hB 1)]) (st := []) at_125 (wd22 hw) (wd23 hw) (Wk.nfSel (wd25 hw)) (wd25 hw) (wd24 hw) (wd7 hw) (wd26 hw) (by decide) (lenOf pd_2 rfl) (fun _ P => P.exa rfl) (m_next l Z a0 hw hB [obj "com/example/particlade/particlade/AnnealingSchedule$Cubic" ksC [(.int n)], arr .double []] 0 1 k n (cbr (k - (1 : Int32)) n) rfl N1 N2 N3) rfl (Nat.le_of_ble_eq_true rfl) (Nat.le_of_ble_eq_true rfl) (Nat.le_of_ble_eq_true rfl) (Nat.le_of_ble_eq_true rfl) rfl rfl ?_
    rintro _ _ ⟨rfl, hH⟩; obtain rfl := hH.symm
    show WP l Z hB _ _ _ _ _ _ _ _ [obj "com/example/particlade/particlade/AnnealingSchedule$Cubic" ksC [(.int n)], arr .double []] _ _ [(.double (cbr k n))]
    refine Wk.dstore (pc' := 130) (Ls' := #[.val (.int a), .val (.int b), .val (.int c0), .val (.int m), .val (.int n), .val (.int k), .val (rf hB 0), .val (rf hB 1), .val (.double (cbr (k - (1 : Int32)) n)), .second, .val (.double (cbr k n)), .second, .unset, .unset, .unset, .unset, .unset, .unset, .unset, .unset, .unset, .unset, .unset]) at_128 rfl rfl ?_
    refine Wk.dload (pc' := 132) at_130 rfl rfl ?_
    refine Wk.dconst0 (pc' := 133) at_132 rfl ?_
    refine Wk.dcmp (pc' := 134) (v := (1 : Int32)) at_133 cz rfl ?_
    refine Wk.ifN (pc' := 137) at_134 (XT.i0_le_f (by decide)) rfl ?_
    refine Wk.dload (pc' := 139) at_137 rfl rfl ?_
    refine Wk.dconst1 (pc' := 140) at_139 rfl ?_
    refine Wk.dcmp (pc' := 141) (v := v1) at_140 cv1 rfl ?_
    refine Wk.ifN (pc' := 144) at_141 (XT.i0_gt_f hv1) rfl ?_
    refine Wk.iconst (pc' := 145) (1 : Int32) at_144 (by decide) rfl ?_
    refine Wk.goTo (pc' := 149) at_145 (by decide) (by decide) ?_
    refine Wk.istore (pc' := 151) (Ls' := #[.val (.int a), .val (.int b), .val (.int c0), .val (.int m), .val (.int n), .val (.int k), .val (rf hB 0), .val (rf hB 1), .val (.double (cbr (k - (1 : Int32)) n)), .second, .val (.double (cbr k n)), .second, .val (.int (1 : Int32)), .unset, .unset, .unset, .unset, .unset, .unset, .unset, .unset, .unset, .unset]) at_149 rfl rfl ?_
    refine Wk.iload (pc' := 153) at_151 rfl rfl ?_
    refine Wk.iload (pc' := 155) at_153 rfl rfl ?_
    by_cases hc2 : k = n
    ·
      refine Wk.icN (pc' := 158) at_155 (XT.ii_ne_f hc2) rfl ?_
      refine Wk.iload (pc' := 160) at_158 rfl rfl ?_
      refine Wk.ifN (pc' := 163) at_160 (XT.i0_eq_f (by decide)) rfl ?_
      refine Wk.dload (pc' := 165) at_163 rfl rfl ?_
      refine Wk.dconst1 (pc' := 166) at_165 rfl ?_
      refine Wk.dcmp (pc' := 167) (v := (0 : Int32)) at_166 (R.2.eq Pz.one (R.1 hc2) .l) rfl ?_
      refine Wk.ifN (pc' := 170) at_167 (XT.i0_ne_f rfl) rfl ?_
      refine Wk.iconst (pc' := 171) (1 : Int32) at_170 (by decide) rfl ?_
      refine Wk.goTo (pc' := 175) at_171 (by decide) (by decide) ?_
      refine Wk.istore (pc' := 177) (Ls' := #[.val (.int a), .val (.int b), .val (.int c0), .val (.int m), .val (.int n), .val (.int k), .val (rf hB 0), .val (rf hB 1), .val (.double (cbr (k - (1 : Int32)) n)), .second, .val (.double (cbr k n)), .second, .val (.int (1 : Int32)), .unset, .unset, .unset, .unset, .unset, .unset, .unset, .unset, .unset, .unset]) at_175 rfl rfl ?_
      refine Wk.iload (pc' := 179) at_177 rfl rfl ?_
      refine Wk.iconst (pc' := 180) (1 : Int32) at_179 (by decide) rfl ?_
      refine Wk.icN (pc' := 183) at_180 (XT.ii_le_f hc1) rfl ?_
      refine Wk.iload (pc' := 185) at_183 rfl rfl ?_
      refine Wk.ifN (pc' := 188) at_185 (XT.i0_eq_f (by decide)) rfl ?_
      refine Wk.dload (pc' := 190) at_188 rfl rfl ?_
      refine Wk.dload (pc' := 192) at_190 rfl rfl ?_
      refine Wk.dcmp (pc' := 193) (v := (-1 : Int32)) at_192 cp rfl ?_
      refine Wk.ifN (pc' := 196) at_193 (XT.i0_ge_f (by decide)) rfl ?_
      refine Wk.iconst (pc' := 197) (1 : Int32) at_196 (by decide) rfl ?_
      refine Wk.goTo (pc' := 201) at_197 (by decide) (by decide) ?_
      refine Wk.istore (pc' := 203) (Ls' := #[.val (.int a), .val (.int b), .val (.int c0), .val (.int m), .val (.int n), .val (.int k), .val (rf hB 0), .val (rf hB 1), .val (.double (cbr (k - (1 : Int32)) n)), .second, .val (.double (cbr k n)), .second, .val (.int (1 : Int32)), .unset, .unset, .unset, .unset, .unset, .unset, .unset, .unset, .unset, .unset]) at_201 rfl rfl ?_
      refine Wk.iload (pc' := 205) at_203 rfl rfl ?_
      refine Wk.i2l (pc' := 206) at_205 rfl ?_
      refine Wk.lstore (pc' := 208) (Ls' := #[.val (.int a), .val (.int b), .val (.int c0), .val (.int m), .val (.int n), .val (.int k), .val (rf hB 0), .val (rf hB 1), .val (.double (cbr (k - (1 : Int32)) n)), .second, .val (.double (cbr k n)), .second, .val (.int (1 : Int32)), .val (.long ((k).toInt64)), .second, .unset, .unset, .unset, .unset, .unset, .unset, .unset, .unset]) at_206 rfl rfl ?_
      refine Wk.iload (pc' := 210) at_208 rfl rfl ?_
      refine Wk.i2l (pc' := 211) at_210 rfl ?_
      refine Wk.lstore (pc' := 213) (Ls' := #[.val (.int a), .val (.int b), .val (.int c0), .val (.int m), .val (.int n), .val (.int k), .val (rf hB 0), .val (rf hB 1), .val (.double (cbr (k - (1 : Int32)) n)), .second, .val (.double (cbr k n)), .second, .val (.int (1 : Int32)), .val (.long ((k).toInt64)), .second, .val (.long ((n).toInt64)), .second, .unset, .unset, .unset, .unset, .unset, .unset]) at_211 rfl rfl ?_
      refine Wk.iloadN (pc' := 214) at_213 rfl rfl ?_
      by_cases hm : m = (0 : Int32)
      ·
        refine Wk.ifN (pc' := 217) at_214 (XT.i0_ne_f hm) rfl ?_
        obtain ⟨nm0, cm0⟩ := mode0 (R := R2) hk hkn (hm0 hm)
        refine Wk.iload (pc' := 219) at_217 rfl rfl ?_
        refine Wk.ifN (pc' := 222) at_219 (XT.i0_eq_f (by decide)) rfl ?_
        refine Wk.dload (pc' := 224) at_222 rfl rfl ?_
        refine Wk.lload (pc' := 226) at_224 rfl rfl ?_
        refine Wk.lload (pc' := 228) at_226 rfl rfl ?_
        refine Wk.lmul (pc' := 229) at_228 rfl ?_
        refine Wk.lload (pc' := 231) at_229 rfl rfl ?_
        refine Wk.lmul (pc' := 232) at_231 rfl ?_
        refine Wk.l2d (pc' := 233) at_232 rfl ?_
        refine Wk.lload (pc' := 235) at_233 rfl rfl ?_
        refine Wk.lload (pc' := 237) at_235 rfl rfl ?_
        refine Wk.lmul (pc' := 238) at_237 rfl ?_
        refine Wk.lload (pc' := 240) at_238 rfl rfl ?_
        refine Wk.lmul (pc' := 241) at_240 rfl ?_
        refine Wk.l2d (pc' := 242) at_241 rfl ?_
        refine Wk.ddiv (pc' := 243) (v := (FP.ddiv (FP.l2d ((((k).toInt64) * ((k).toInt64)) * ((k).toInt64))) (FP.l2d ((((n).toInt64) * ((n).toInt64)) * ((n).toInt64))))) at_242 nm0 rfl rfl ?_
        refine Wk.dcmp (pc' := 244) (v := (0 : Int32)) at_243 cm0 rfl ?_
        refine Wk.ifN (pc' := 247) at_244 (XT.i0_ne_f rfl) rfl ?_
        refine Wk.iconst (pc' := 248) (1 : Int32) at_247 (by decide) rfl ?_
        refine Wk.goTo (pc' := 252) at_248 (by decide) (by decide) ?_
        refine Wk.istore (pc' := 254) (Ls' := #[.val (.int a), .val (.int b), .val (.int c0), .val (.int m), .val (.int n), .val (.int k), .val (rf hB 0), .val (rf hB 1), .val (.double (cbr (k - (1 : Int32)) n)), .second, .val (.double (cbr k n)), .second, .val (.int (1 : Int32)), .val (.long ((k).toInt64)), .second, .val (.long ((n).toInt64)), .second, .unset, .unset, .unset, .unset, .unset, .unset]) at_252 rfl rfl ?_
        refine Wk.goTo (pc' := 327) at_254 (by decide) (by decide) ?_
        refine Wk.iload (pc' := 329) at_327 rfl rfl ?_
        exact Wk.iret (t := .boolean) at_329 rfl (by simp) rfl (Nat.le_of_ble_eq_true rfl) (Nat.le_of_ble_eq_true rfl) rfl
      ·
        refine Wk.ifY (pc' := 257) at_214 (XT.i0_ne_t hm) (by decide) (by decide) ?_
        refine Wk.iloadN (pc' := 258) at_257 rfl rfl ?_
        refine Wk.iconst (pc' := 259) (1 : Int32) at_258 (by decide) rfl ?_
        by_cases hmm : m = (1 : Int32)
        ·
          refine Wk.icN (pc' := 262) at_259 (XT.ii_ne_f hmm) rfl ?_
          obtain ⟨nm1, nm2, nm3, ⟨v2, cv2, hv2⟩, ⟨v3, cv3, hv3⟩⟩ := mode1 hk hkn (hm1 hmm) hR r1 r3 r4 r5
          refine Wk.lload (pc' := 264) at_262 rfl rfl ?_
          refine Wk.lload (pc' := 266) at_264 rfl rfl ?_
          refine Wk.lmul (pc' := 267) at_266 rfl ?_
          refine Wk.lload (pc' := 269) at_267 rfl rfl ?_
          refine Wk.lmul (pc' := 270) at_269 rfl ?_
          refine Wk.l2d (pc' := 271) at_270 rfl ?_
          refine Wk.dstore (pc' := 273) (Ls' := #[.val (.int a), .val (.int b), .val (.int c0), .val (.int m), .val (.int n), .val (.int k), .val (rf hB 0), .val (rf hB 1), .val (.double (cbr (k - (1 : Int32)) n)), .second, .val (.double (cbr k n)), .second, .val (.int (1 : Int32)), .val (.long ((k).toInt64)), .second, .val (.long ((n).toInt64)), .second, .val (.double (FP.l2d ((((k).toInt64) * ((k).toInt64)) * ((k).toInt64)))), .second, .unset, .unset, .unset, .unset]) at_271 rfl rfl ?_
          refine Wk.dload (pc' := 275) at_273 rfl rfl ?_
          refine Wk.lload (pc' := 277) at_275 rfl rfl ?_
          refine Wk.lload (pc' := 279) at_277 rfl rfl ?_
          refine Wk.lmul (pc' := 280) at_279 rfl ?_
          refine Wk.lload (pc' := 282) at_280 rfl rfl ?_
          refine Wk.lmul (pc' := 283) at_282 rfl ?_
          refine Wk.l2d (pc' := 284) at_283 rfl ?_
          refine Wk.dmul (pc' := 285) (v := (FP.dmul (cbr k n) (FP.l2d ((((n).toInt64) * ((n).toInt64)) * ((n).toInt64))))) at_284 nm1 rfl rfl ?_
          refine Wk.dload (pc' := 287) at_285 rfl rfl ?_
          refine Wk.dsub (pc' := 288) (v := (FP.dsub (FP.dmul (cbr k n) (FP.l2d ((((n).toInt64) * ((n).toInt64)) * ((n).toInt64)))) (FP.l2d ((((k).toInt64) * ((k).toInt64)) * ((k).toInt64))))) at_287 nm2 rfl rfl ?_
          refine Wk.dstore (pc' := 290) (Ls' := #[.val (.int a), .val (.int b), .val (.int c0), .val (.int m), .val (.int n), .val (.int k), .val (rf hB 0), .val (rf hB 1), .val (.double (cbr (k - (1 : Int32)) n)), .second, .val (.double (cbr k n)), .second, .val (.int (1 : Int32)), .val (.long ((k).toInt64)), .second, .val (.long ((n).toInt64)), .second, .val (.double (FP.l2d ((((k).toInt64) * ((k).toInt64)) * ((k).toInt64)))), .second, .val (.double (FP.dsub (FP.dmul (cbr k n) (FP.l2d ((((n).toInt64) * ((n).toInt64)) * ((n).toInt64)))) (FP.l2d ((((k).toInt64) * ((k).toInt64)) * ((k).toInt64))))), .second, .unset, .unset]) at_288 rfl rfl ?_
          refine Wk.dload (pc' := 292) at_290 rfl rfl ?_
          refine Wk.ldc2D (pc' := 295) at_292 (wd28 hw) rfl ?_
          refine Wk.dmul (pc' := 296) (v := (FP.dmul (FP.l2d ((((k).toInt64) * ((k).toInt64)) * ((k).toInt64))) (4427486594234968593 : UInt64))) at_295 nm3 rfl rfl ?_
          refine Wk.dstore (pc' := 298) (Ls' := #[.val (.int a), .val (.int b), .val (.int c0), .val (.int m), .val (.int n), .val (.int k), .val (rf hB 0), .val (rf hB 1), .val (.double (cbr (k - (1 : Int32)) n)), .second, .val (.double (cbr k n)), .second, .val (.int (1 : Int32)), .val (.long ((k).toInt64)), .second, .val (.long ((n).toInt64)), .second, .val (.double (FP.l2d ((((k).toInt64) * ((k).toInt64)) * ((k).toInt64)))), .second, .val (.double (FP.dsub (FP.dmul (cbr k n) (FP.l2d ((((n).toInt64) * ((n).toInt64)) * ((n).toInt64)))) (FP.l2d ((((k).toInt64) * ((k).toInt64)) * ((k).toInt64))))), .second, .val (.double (FP.dmul (FP.l2d ((((k).toInt64) * ((k).toInt64)) * ((k).toInt64))) (4427486594234968593 : UInt64))), .second]) at_296 rfl rfl ?_
          refine Wk.iload (pc' := 300) at_298 rfl rfl ?_
          refine Wk.ifN (pc' := 303) at_300 (XT.i0_eq_f (by decide)) rfl ?_
          refine Wk.dload (pc' := 305) at_303 rfl rfl ?_
          refine Wk.dload (pc' := 307) at_305 rfl rfl ?_
          refine Wk.dcmp (pc' := 308) (v := v2) at_307 cv2 rfl ?_
          refine Wk.ifN (pc' := 311) at_308 (XT.i0_gt_f hv2) rfl ?_
          refine Wk.dload (pc' := 313) at_311 rfl rfl ?_
          refine Wk.dneg (pc' := 314) at_313 rfl ?_
          refine Wk.dload (pc' := 316) at_314 rfl rfl ?_
          refine Wk.dcmp (pc' := 317) (v := v3) at_316 cv3 rfl ?_
          refine Wk.ifN (pc' := 320) at_317 (XT.i0_gt_f hv3) rfl ?_
          refine Wk.iconst (pc' := 321) (1 : Int32) at_320 (by decide) rfl ?_
          refine Wk.goTo (pc' := 325) at_321 (by decide) (by decide) ?_
          refine Wk.istore (pc' := 327) (Ls' := #[.val (.int a), .val (.int b), .val (.int c0), .val (.int m), .val (.int n), .val (.int k), .val (rf hB 0), .val (rf hB 1), .val (.double (cbr (k - (1 : Int32)) n)), .second, .val (.double (cbr k n)), .second, .val (.int (1 : Int32)), .val (.long ((k).toInt64)), .second, .val (.long ((n).toInt64)), .second, .val (.double (FP.l2d ((((k).toInt64) * ((k).toInt64)) * ((k).toInt64)))), .second, .val (.double (FP.dsub (FP.dmul (cbr k n) (FP.l2d ((((n).toInt64) * ((n).toInt64)) * ((n).toInt64)))) (FP.l2d ((((k).toInt64) * ((k).toInt64)) * ((k).toInt64))))), .second, .val (.double (FP.dmul (FP.l2d ((((k).toInt64) * ((k).toInt64)) * ((k).toInt64))) (4427486594234968593 : UInt64))), .second]) at_325 rfl rfl ?_
          refine Wk.iload (pc' := 329) at_327 rfl rfl ?_
          exact Wk.iret (t := .boolean) at_329 rfl (by simp) rfl (Nat.le_of_ble_eq_true rfl) (Nat.le_of_ble_eq_true rfl) rfl
        ·
          refine Wk.icY (pc' := 327) at_259 (XT.ii_ne_t hmm) (by decide) (by decide) ?_
          refine Wk.iload (pc' := 329) at_327 rfl rfl ?_
          exact Wk.iret (t := .boolean) at_329 rfl (by simp) rfl (Nat.le_of_ble_eq_true rfl) (Nat.le_of_ble_eq_true rfl) rfl
    ·
      refine Wk.icY (pc' := 177) at_155 (XT.ii_ne_t hc2) (by decide) (by decide) ?_
      refine Wk.iload (pc' := 179) at_177 rfl rfl ?_
      refine Wk.iconst (pc' := 180) (1 : Int32) at_179 (by decide) rfl ?_
      refine Wk.icN (pc' := 183) at_180 (XT.ii_le_f hc1) rfl ?_
      refine Wk.iload (pc' := 185) at_183 rfl rfl ?_
      refine Wk.ifN (pc' := 188) at_185 (XT.i0_eq_f (by decide)) rfl ?_
      refine Wk.dload (pc' := 190) at_188 rfl rfl ?_
      refine Wk.dload (pc' := 192) at_190 rfl rfl ?_
      refine Wk.dcmp (pc' := 193) (v := (-1 : Int32)) at_192 cp rfl ?_
      refine Wk.ifN (pc' := 196) at_193 (XT.i0_ge_f (by decide)) rfl ?_
      refine Wk.iconst (pc' := 197) (1 : Int32) at_196 (by decide) rfl ?_
      refine Wk.goTo (pc' := 201) at_197 (by decide) (by decide) ?_
      refine Wk.istore (pc' := 203) (Ls' := #[.val (.int a), .val (.int b), .val (.int c0), .val (.int m), .val (.int n), .val (.int k), .val (rf hB 0), .val (rf hB 1), .val (.double (cbr (k - (1 : Int32)) n)), .second, .val (.double (cbr k n)), .second, .val (.int (1 : Int32)), .unset, .unset, .unset, .unset, .unset, .unset, .unset, .unset, .unset, .unset]) at_201 rfl rfl ?_
      refine Wk.iload (pc' := 205) at_203 rfl rfl ?_
      refine Wk.i2l (pc' := 206) at_205 rfl ?_
      refine Wk.lstore (pc' := 208) (Ls' := #[.val (.int a), .val (.int b), .val (.int c0), .val (.int m), .val (.int n), .val (.int k), .val (rf hB 0), .val (rf hB 1), .val (.double (cbr (k - (1 : Int32)) n)), .second, .val (.double (cbr k n)), .second, .val (.int (1 : Int32)), .val (.long ((k).toInt64)), .second, .unset, .unset, .unset, .unset, .unset, .unset, .unset, .unset]) at_206 rfl rfl ?_
      refine Wk.iload (pc' := 210) at_208 rfl rfl ?_
      refine Wk.i2l (pc' := 211) at_210 rfl ?_
      refine Wk.lstore (pc' := 213) (Ls' := #[.val (.int a), .val (.int b), .val (.int c0), .val (.int m), .val (.int n), .val (.int k), .val (rf hB 0), .val (rf hB 1), .val (.double (cbr (k - (1 : Int32)) n)), .second, .val (.double (cbr k n)), .second, .val (.int (1 : Int32)), .val (.long ((k).toInt64)), .second, .val (.long ((n).toInt64)), .second, .unset, .unset, .unset, .unset, .unset, .unset]) at_211 rfl rfl ?_
      refine Wk.iloadN (pc' := 214) at_213 rfl rfl ?_
      by_cases hm : m = (0 : Int32)
      ·
        refine Wk.ifN (pc' := 217) at_214 (XT.i0_ne_f hm) rfl ?_
        obtain ⟨nm0, cm0⟩ := mode0 (R := R2) hk hkn (hm0 hm)
        refine Wk.iload (pc' := 219) at_217 rfl rfl ?_
        refine Wk.ifN (pc' := 222) at_219 (XT.i0_eq_f (by decide)) rfl ?_
        refine Wk.dload (pc' := 224) at_222 rfl rfl ?_
        refine Wk.lload (pc' := 226) at_224 rfl rfl ?_
        refine Wk.lload (pc' := 228) at_226 rfl rfl ?_
        refine Wk.lmul (pc' := 229) at_228 rfl ?_
        refine Wk.lload (pc' := 231) at_229 rfl rfl ?_
        refine Wk.lmul (pc' := 232) at_231 rfl ?_
        refine Wk.l2d (pc' := 233) at_232 rfl ?_
        refine Wk.lload (pc' := 235) at_233 rfl rfl ?_
        refine Wk.lload (pc' := 237) at_235 rfl rfl ?_
        refine Wk.lmul (pc' := 238) at_237 rfl ?_
        refine Wk.lload (pc' := 240) at_238 rfl rfl ?_
        refine Wk.lmul (pc' := 241) at_240 rfl ?_
        refine Wk.l2d (pc' := 242) at_241 rfl ?_
        refine Wk.ddiv (pc' := 243) (v := (FP.ddiv (FP.l2d ((((k).toInt64) * ((k).toInt64)) * ((k).toInt64))) (FP.l2d ((((n).toInt64) * ((n).toInt64)) * ((n).toInt64))))) at_242 nm0 rfl rfl ?_
        refine Wk.dcmp (pc' := 244) (v := (0 : Int32)) at_243 cm0 rfl ?_
        refine Wk.ifN (pc' := 247) at_244 (XT.i0_ne_f rfl) rfl ?_
        refine Wk.iconst (pc' := 248) (1 : Int32) at_247 (by decide) rfl ?_
        refine Wk.goTo (pc' := 252) at_248 (by decide) (by decide) ?_
        refine Wk.istore (pc' := 254) (Ls' := #[.val (.int a), .val (.int b), .val (.int c0), .val (.int m), .val (.int n), .val (.int k), .val (rf hB 0), .val (rf hB 1), .val (.double (cbr (k - (1 : Int32)) n)), .second, .val (.double (cbr k n)), .second, .val (.int (1 : Int32)), .val (.long ((k).toInt64)), .second, .val (.long ((n).toInt64)), .second, .unset, .unset, .unset, .unset, .unset, .unset]) at_252 rfl rfl ?_
        refine Wk.goTo (pc' := 327) at_254 (by decide) (by decide) ?_
        refine Wk.iload (pc' := 329) at_327 rfl rfl ?_
        exact Wk.iret (t := .boolean) at_329 rfl (by simp) rfl (Nat.le_of_ble_eq_true rfl) (Nat.le_of_ble_eq_true rfl) rfl
      ·
        refine Wk.ifY (pc' := 257) at_214 (XT.i0_ne_t hm) (by decide) (by decide) ?_
        refine Wk.iloadN (pc' := 258) at_257 rfl rfl ?_
        refine Wk.iconst (pc' := 259) (1 : Int32) at_258 (by decide) rfl ?_
        by_cases hmm : m = (1 : Int32)
        ·
          refine Wk.icN (pc' := 262) at_259 (XT.ii_ne_f hmm) rfl ?_
          obtain ⟨nm1, nm2, nm3, ⟨v2, cv2, hv2⟩, ⟨v3, cv3, hv3⟩⟩ := mode1 hk hkn (hm1 hmm) hR r1 r3 r4 r5
          refine Wk.lload (pc' := 264) at_262 rfl rfl ?_
          refine Wk.lload (pc' := 266) at_264 rfl rfl ?_
          refine Wk.lmul (pc' := 267) at_266 rfl ?_
          refine Wk.lload (pc' := 269) at_267 rfl rfl ?_
          refine Wk.lmul (pc' := 270) at_269 rfl ?_
          refine Wk.l2d (pc' := 271) at_270 rfl ?_
          refine Wk.dstore (pc' := 273) (Ls' := #[.val (.int a), .val (.int b), .val (.int c0), .val (.int m), .val (.int n), .val (.int k), .val (rf hB 0), .val (rf hB 1), .val (.double (cbr (k - (1 : Int32)) n)), .second, .val (.double (cbr k n)), .second, .val (.int (1 : Int32)), .val (.long ((k).toInt64)), .second, .val (.long ((n).toInt64)), .second, .val (.double (FP.l2d ((((k).toInt64) * ((k).toInt64)) * ((k).toInt64)))), .second, .unset, .unset, .unset, .unset]) at_271 rfl rfl ?_
          refine Wk.dload (pc' := 275) at_273 rfl rfl ?_
          refine Wk.lload (pc' := 277) at_275 rfl rfl ?_
          refine Wk.lload (pc' := 279) at_277 rfl rfl ?_
          refine Wk.lmul (pc' := 280) at_279 rfl ?_
          refine Wk.lload (pc' := 282) at_280 rfl rfl ?_
          refine Wk.lmul (pc' := 283) at_282 rfl ?_
          refine Wk.l2d (pc' := 284) at_283 rfl ?_
          refine Wk.dmul (pc' := 285) (v := (FP.dmul (cbr k n) (FP.l2d ((((n).toInt64) * ((n).toInt64)) * ((n).toInt64))))) at_284 nm1 rfl rfl ?_
          refine Wk.dload (pc' := 287) at_285 rfl rfl ?_
          refine Wk.dsub (pc' := 288) (v := (FP.dsub (FP.dmul (cbr k n) (FP.l2d ((((n).toInt64) * ((n).toInt64)) * ((n).toInt64)))) (FP.l2d ((((k).toInt64) * ((k).toInt64)) * ((k).toInt64))))) at_287 nm2 rfl rfl ?_
          refine Wk.dstore (pc' := 290) (Ls' := #[.val (.int a), .val (.int b), .val (.int c0), .val (.int m), .val (.int n), .val (.int k), .val (rf hB 0), .val (rf hB 1), .val (.double (cbr (k - (1 : Int32)) n)), .second, .val (.double (cbr k n)), .second, .val (.int (1 : Int32)), .val (.long ((k).toInt64)), .second, .val (.long ((n).toInt64)), .second, .val (.double (FP.l2d ((((k).toInt64) * ((k).toInt64)) * ((k).toInt64)))), .second, .val (.double (FP.dsub (FP.dmul (cbr k n) (FP.l2d ((((n).toInt64) * ((n).toInt64)) * ((n).toInt64)))) (FP.l2d ((((k).toInt64) * ((k).toInt64)) * ((k).toInt64))))), .second, .unset, .unset]) at_288 rfl rfl ?_
          refine Wk.dload (pc' := 292) at_290 rfl rfl ?_
          refine Wk.ldc2D (pc' := 295) at_292 (wd28 hw) rfl ?_
          refine Wk.dmul (pc' := 296) (v := (FP.dmul (FP.l2d ((((k).toInt64) * ((k).toInt64)) * ((k).toInt64))) (4427486594234968593 : UInt64))) at_295 nm3 rfl rfl ?_
          refine Wk.dstore (pc' := 298) (Ls' := #[.val (.int a), .val (.int b), .val (.int c0), .val (.int m), .val (.int n), .val (.int k), .val (rf hB 0), .val (rf hB 1), .val (.double (cbr (k - (1 : Int32)) n)), .second, .val (.double (cbr k n)), .second, .val (.int (1 : Int32)), .val (.long ((k).toInt64)), .second, .val (.long ((n).toInt64)), .second, .val (.double (FP.l2d ((((k).toInt64) * ((k).toInt64)) * ((k).toInt64)))), .second, .val (.double (FP.dsub (FP.dmul (cbr k n) (FP.l2d ((((n).toInt64) * ((n).toInt64)) * ((n).toInt64)))) (FP.l2d ((((k).toInt64) * ((k).toInt64)) * ((k).toInt64))))), .second, .val (.double (FP.dmul (FP.l2d ((((k).toInt64) * ((k).toInt64)) * ((k).toInt64))) (4427486594234968593 : UInt64))), .second]) at_296 rfl rfl ?_
          refine Wk.iload (pc' := 300) at_298 rfl rfl ?_
          refine Wk.ifN (pc' := 303) at_300 (XT.i0_eq_f (by decide)) rfl ?_
          refine Wk.dload (pc' := 305) at_303 rfl rfl ?_
          refine Wk.dload (pc' := 307) at_305 rfl rfl ?_
          refine Wk.dcmp (pc' := 308) (v := v2) at_307 cv2 rfl ?_
          refine Wk.ifN (pc' := 311) at_308 (XT.i0_gt_f hv2) rfl ?_
          refine Wk.dload (pc' := 313) at_311 rfl rfl ?_
          refine Wk.dneg (pc' := 314) at_313 rfl ?_
          refine Wk.dload (pc' := 316) at_314 rfl rfl ?_
          refine Wk.dcmp (pc' := 317) (v := v3) at_316 cv3 rfl ?_
          refine Wk.ifN (pc' := 320) at_317 (XT.i0_gt_f hv3) rfl ?_
          refine Wk.iconst (pc' := 321) (1 : Int32) at_320 (by decide) rfl ?_
          refine Wk.goTo (pc' := 325) at_321 (by decide) (by decide) ?_
          refine Wk.istore (pc' := 327) (Ls' := #[.val (.int a), .val (.int b), .val (.int c0), .val (.int m), .val (.int n), .val (.int k), .val (rf hB 0), .val (rf hB 1), .val (.double (cbr (k - (1 : Int32)) n)), .second, .val (.double (cbr k n)), .second, .val (.int (1 : Int32)), .val (.long ((k).toInt64)), .second, .val (.long ((n).toInt64)), .second, .val (.double (FP.l2d ((((k).toInt64) * ((k).toInt64)) * ((k).toInt64)))), .second, .val (.double (FP.dsub (FP.dmul (cbr k n) (FP.l2d ((((n).toInt64) * ((n).toInt64)) * ((n).toInt64)))) (FP.l2d ((((k).toInt64) * ((k).toInt64)) * ((k).toInt64))))), .second, .val (.double (FP.dmul (FP.l2d ((((k).toInt64) * ((k).toInt64)) * ((k).toInt64))) (4427486594234968593 : UInt64))), .second]) at_325 rfl rfl ?_
          refine Wk.iload (pc' := 329) at_327 rfl rfl ?_
          exact Wk.iret (t := .boolean) at_329 rfl (by simp) rfl (Nat.le_of_ble_eq_true rfl) (Nat.le_of_ble_eq_true rfl) rfl
        ·
          refine Wk.icY (pc' := 327) at_259 (XT.ii_ne_t hmm) (by decide) (by decide) ?_
          refine Wk.iload (pc' := 329) at_327 rfl rfl ?_
          exact Wk.iret (t := .boolean) at_329 rfl (by simp) rfl (Nat.le_of_ble_eq_true rfl) (Nat.le_of_ble_eq_true rfl) rfl
  ·
    refine Wk.icY (pc' := 115) at_96 (XT.ii_le_t hc1) (by decide) (by decide) ?_
    refine Wk.aload (pc' := 117) at_115 rfl rfl rfl ?_
    refine Wk.iload (pc' := 119) at_117 rfl rfl ?_
    refine Wk.dload (pc' := 121) at_119 rfl rfl ?_
    refine Wk.aload (pc' := 123) at_121 rfl rfl rfl ?_
    refine Wk.aload (pc' := 125) at_123 rfl rfl rfl ?_
    refine Wk.callV (pc' := 128) (argsL := [(.int k), (.double (0 : UInt64)), (rf hB 1), (rf hB 1)]) (st := []) at_125 (wd22 hw) (wd23 hw) (Wk.nfSel (wd25 hw)) (wd25 hw) (wd24 hw) (wd7 hw) (wd26 hw) (by decide) (lenOf pd_2 rfl) (fun _ P => P.exa rfl) (m_next l Z a0 hw hB [obj "com/example/particlade/particlade/AnnealingSchedule$Cubic" ksC [(.int n)], arr .double []] 0 1 k n (0 : UInt64) rfl N1 N2 N3) rfl (Nat.le_of_ble_eq_true rfl) (Nat.le_of_ble_eq_true rfl) (Nat.le_of_ble_eq_true rfl) (Nat.le_of_ble_eq_true rfl) rfl rfl ?_
    rintro _ _ ⟨rfl, hH⟩; obtain rfl := hH.symm
    show WP l Z hB _ _ _ _ _ _ _ _ [obj "com/example/particlade/particlade/AnnealingSchedule$Cubic" ksC [(.int n)], arr .double []] _ _ [(.double (cbr k n))]
    refine Wk.dstore (pc' := 130) (Ls' := #[.val (.int a), .val (.int b), .val (.int c0), .val (.int m), .val (.int n), .val (.int k), .val (rf hB 0), .val (rf hB 1), .val (.double (0 : UInt64)), .second, .val (.double (cbr k n)), .second, .unset, .unset, .unset, .unset, .unset, .unset, .unset, .unset, .unset, .unset, .unset]) at_128 rfl rfl ?_
    refine Wk.dload (pc' := 132) at_130 rfl rfl ?_
    refine Wk.dconst0 (pc' := 133) at_132 rfl ?_
    refine Wk.dcmp (pc' := 134) (v := (1 : Int32)) at_133 cz rfl ?_
    refine Wk.ifN (pc' := 137) at_134 (XT.i0_le_f (by decide)) rfl ?_
    refine Wk.dload (pc' := 139) at_137 rfl rfl ?_
    refine Wk.dconst1 (pc' := 140) at_139 rfl ?_
    refine Wk.dcmp (pc' := 141) (v := v1) at_140 cv1 rfl ?_
    refine Wk.ifN (pc' := 144) at_141 (XT.i0_gt_f hv1) rfl ?_
    refine Wk.iconst (pc' := 145) (1 : Int32) at_144 (by decide) rfl ?_
    refine Wk.goTo (pc' := 149) at_145 (by decide) (by decide) ?_
    refine Wk.istore (pc' := 151) (Ls' := #[.val (.int a), .val (.int b), .val (.int c0), .val (.int m), .val (.int n), .val (.int k), .val (rf hB 0), .val (rf hB 1), .val (.double (0 : UInt64)), .second, .val (.double (cbr k n)), .second, .val (.int (1 : Int32)), .unset, .unset, .unset, .unset, .unset, .unset, .unset, .unset, .unset, .unset]) at_149 rfl rfl ?_
    refine Wk.iload (pc' := 153) at_151 rfl rfl ?_
    refine Wk.iload (pc' := 155) at_153 rfl rfl ?_
    by_cases hc2 : k = n
    ·
      refine Wk.icN (pc' := 158) at_155 (XT.ii_ne_f hc2) rfl ?_
      refine Wk.iload (pc' := 160) at_158 rfl rfl ?_
      refine Wk.ifN (pc' := 163) at_160 (XT.i0_eq_f (by decide)) rfl ?_
      refine Wk.dload (pc' := 165) at_163 rfl rfl ?_
      refine Wk.dconst1 (pc' := 166) at_165 rfl ?_
      refine Wk.dcmp (pc' := 167) (v := (0 : Int32)) at_166 (R.2.eq Pz.one (R.1 hc2) .l) rfl ?_
      refine Wk.ifN (pc' := 170) at_167 (XT.i0_ne_f rfl) rfl ?_
      refine Wk.iconst (pc' := 171) (1 : Int32) at_170 (by decide) rfl ?_
      refine Wk.goTo (pc' := 175) at_171 (by decide) (by decide) ?_
      refine Wk.istore (pc' := 177) (Ls' := #[.val (.int a), .val (.int b), .val (.int c0), .val (.int m), .val (.int n), .val (.int k), .val (rf hB 0), .val (rf hB 1), .val (.double (0 : UInt64)), .second, .val (.double (cbr k n)), .second, .val (.int (1 : Int32)), .unset, .unset, .unset, .unset, .unset, .unset, .unset, .unset, .unset, .unset]) at_175 rfl rfl ?_
      refine Wk.iload (pc' := 179) at_177 rfl rfl ?_
      refine Wk.iconst (pc' := 180) (1 : Int32) at_179 (by decide) rfl ?_
      refine Wk.icY (pc' := 203) at_180 (XT.ii_le_t hc1) (by decide) (by decide) ?_
      refine Wk.iload (pc' := 205) at_203 rfl rfl ?_
      refine Wk.i2l (pc' := 206) at_205 rfl ?_
      refine Wk.lstore (pc' := 208) (Ls' := #[.val (.int a), .val (.int b), .val (.int c0), .val (.int m), .val (.int n), .val (.int k), .val (rf hB 0), .val (rf hB 1), .val (.double (0 : UInt64)), .second, .val (.double (cbr k n)), .second, .val (.int (1 : Int32)), .val (.long ((k).toInt64)), .second, .unset, .unset, .unset, .unset, .unset, .unset, .unset, .unset]) at_206 rfl rfl ?_
      refine Wk.iload (pc' := 210) at_208 rfl rfl ?_
      refine Wk.i2l (pc' := 211) at_210 rfl ?_
      refine Wk.lstore (pc' := 213) (Ls' := #[.val (.int a), .val (.int b), .val (.int c0), .val (.int m), .val (.int n), .val (.int k), .val (rf hB 0), .val (rf hB 1), .val (.double (0 : UInt64)), .second, .val (.double (cbr k n)), .second, .val (.int (1 : Int32)), .val (.long ((k).toInt64)), .second, .val (.long ((n).toInt64)), .second, .unset, .unset, .unset, .unset, .unset, .unset]) at_211 rfl rfl ?_
      refine Wk.iloadN (pc' := 214) at_213 rfl rfl ?_
      by_cases hm : m = (0 : Int32)
      ·
        refine Wk.ifN (pc' := 217) at_214 (XT.i0_ne_f hm) rfl ?_
        obtain ⟨nm0, cm0⟩ := mode0 (R := R2) hk hkn (hm0 hm)
        refine Wk.iload (pc' := 219) at_217 rfl rfl ?_
        refine Wk.ifN (pc' := 222) at_219 (XT.i0_eq_f (by decide)) rfl ?_
        refine Wk.dload (pc' := 224) at_222 rfl rfl ?_
        refine Wk.lload (pc' := 226) at_224 rfl rfl ?_
        refine Wk.lload (pc' := 228) at_226 rfl rfl ?_
        refine Wk.lmul (pc' := 229) at_228 rfl ?_
        refine Wk.lload (pc' := 231) at_229 rfl rfl ?_
        refine Wk.lmul (pc' := 232) at_231 rfl ?_
        refine Wk.l2d (pc' := 233) at_232 rfl ?_
        refine Wk.lload (pc' := 235) at_233 rfl rfl ?_
        refine Wk.lload (pc' := 237) at_235 rfl rfl ?_
        refine Wk.lmul (pc' := 238) at_237 rfl ?_
        refine Wk.lload (pc' := 240) at_238 rfl rfl ?_
        refine Wk.lmul (pc' := 241) at_240 rfl ?_
        refine Wk.l2d (pc' := 242) at_241 rfl ?_
        refine Wk.ddiv (pc' := 243) (v := (FP.ddiv (FP.l2d ((((k).toInt64) * ((k).toInt64)) * ((k).toInt64))) (FP.l2d ((((n).toInt64) * ((n).toInt64)) * ((n).toInt64))))) at_242 nm0 rfl rfl ?_
        refine Wk.dcmp (pc' := 244) (v := (0 : Int32)) at_243 cm0 rfl ?_
        refine Wk.ifN (pc' := 247) at_244 (XT.i0_ne_f rfl) rfl ?_
        refine Wk.iconst (pc' := 248) (1 : Int32) at_247 (by decide) rfl ?_
        refine Wk.goTo (pc' := 252) at_248 (by decide) (by decide) ?_
        refine Wk.istore (pc' := 254) (Ls' := #[.val (.int a), .val (.int b), .val (.int c0), .val (.int m), .val (.int n), .val (.int k), .val (rf hB 0), .val (rf hB 1), .val (.double (0 : UInt64)), .second, .val (.double (cbr k n)), .second, .val (.int (1 : Int32)), .val (.long ((k).toInt64)), .second, .val (.long ((n).toInt64)), .second, .unset, .unset, .unset, .unset, .unset, .unset]) at_252 rfl rfl ?_
        refine Wk.goTo (pc' := 327) at_254 (by decide) (by decide) ?_
        refine Wk.iload (pc' := 329) at_327 rfl rfl ?_
        exact Wk.iret (t := .boolean) at_329 rfl (by simp) rfl (Nat.le_of_ble_eq_true rfl) (Nat.le_of_ble_eq_true rfl) rfl
      ·
        refine Wk.ifY (pc' := 257) at_214 (XT.i0_ne_t hm) (by decide) (by decide) ?_
        refine Wk.iloadN (pc' := 258) at_257 rfl rfl ?_
        refine Wk.iconst (pc' := 259) (1 : Int32) at_258 (by decide) rfl ?_
        by_cases hmm : m = (1 : Int32)
        ·
          refine Wk.icN (pc' := 262) at_259 (XT.ii_ne_f hmm) rfl ?_
          obtain ⟨nm1, nm2, nm3, ⟨v2, cv2, hv2⟩, ⟨v3, cv3, hv3⟩⟩ := mode1 hk hkn (hm1 hmm) hR r1 r3 r4 r5
          refine Wk.lload (pc' := 264) at_262 rfl rfl ?_
          refine Wk.lload (pc' := 266) at_264 rfl rfl ?_
          refine Wk.lmul (pc' := 267) at_266 rfl ?_
          refine Wk.lload (pc' := 269) at_267 rfl rfl ?_
          refine Wk.lmul (pc' := 270) at_269 rfl ?_
          refine Wk.l2d (pc' := 271) at_270 rfl ?_
          refine Wk.dstore (pc' := 273) (Ls' := #[.val (.int a), .val (.int b), .val (.int c0), .val (.int m), .val (.int n), .val (.int k), .val (rf hB 0), .val (rf hB 1), .val (.double (0 : UInt64)), .second, .val (.double (cbr k n)), .second, .val (.int (1 : Int32)), .val (.long ((k).toInt64)), .second, .val (.long ((n).toInt64)), .second, .val (.double (FP.l2d ((((k).toInt64) * ((k).toInt64)) * ((k).toInt64)))), .second, .unset, .unset, .unset, .unset]) at_271 rfl rfl ?_
          refine Wk.dload (pc' := 275) at_273 rfl rfl ?_
          refine Wk.lload (pc' := 277) at_275 rfl rfl ?_
          refine Wk.lload (pc' := 279) at_277 rfl rfl ?_
          refine Wk.lmul (pc' := 280) at_279 rfl ?_
          refine Wk.lload (pc' := 282) at_280 rfl rfl ?_
          refine Wk.lmul (pc' := 283) at_282 rfl ?_
          refine Wk.l2d (pc' := 284) at_283 rfl ?_
          refine Wk.dmul (pc' := 285) (v := (FP.dmul (cbr k n) (FP.l2d ((((n).toInt64) * ((n).toInt64)) * ((n).toInt64))))) at_284 nm1 rfl rfl ?_
          refine Wk.dload (pc' := 287) at_285 rfl rfl ?_
          refine Wk.dsub (pc' := 288) (v := (FP.dsub (FP.dmul (cbr k n) (FP.l2d ((((n).toInt64) * ((n).toInt64)) * ((n).toInt64)))) (FP.l2d ((((k).toInt64) * ((k).toInt64)) * ((k).toInt64))))) at_287 nm2 rfl rfl ?_
          refine Wk.dstore (pc' := 290) (Ls' := #[.val (.int a), .val (.int b), .val (.int c0), .val (.int m), .val (.int n), .val (.int k), .val (rf hB 0), .val (rf hB 1), .val (.double (0 : UInt64)), .second, .val (.double (cbr k n)), .second, .val (.int (1 : Int32)), .val (.long ((k).toInt64)), .second, .val (.long ((n).toInt64)), .second, .val (.double (FP.l2d ((((k).toInt64) * ((k).toInt64)) * ((k).toInt64)))), .second, .val (.double (FP.dsub (FP.dmul (cbr k n) (FP.l2d ((((n).toInt64) * ((n).toInt64)) * ((n).toInt64)))) (FP.l2d ((((k).toInt64) * ((k).toInt64)) * ((k).toInt64))))), .second, .unset, .unset]) at_288 rfl rfl ?_
          refine Wk.dload (pc' := 292) at_290 rfl rfl ?_
          refine Wk.ldc2D (pc' := 295) at_292 (wd28 hw) rfl ?_
          refine Wk.dmul (pc' := 296) (v := (FP.dmul (FP.l2d ((((k).toInt64) * ((k).toInt64)) * ((k).toInt64))) (4427486594234968593 : UInt64))) at_295 nm3 rfl rfl ?_
          refine Wk.dstore (pc' := 298) (Ls' := #[.val (.int a), .val (.int b), .val (.int c0), .val (.int m), .val (.int n), .val (.int k), .val (rf hB 0), .val (rf hB 1), .val (.double (0 : UInt64)), .second, .val (.double (cbr k n)), .second, .val (.int (1 : Int32)), .val (.long ((k).toInt64)), .second, .val (.long ((n).toInt64)), .second, .val (.double (FP.l2d ((((k).toInt64) * ((k).toInt64)) * ((k).toInt64)))), .second, .val (.double (FP.dsub (FP.dmul (cbr k n) (FP.l2d ((((n).toInt64) * ((n).toInt64)) * ((n).toInt64)))) (FP.l2d ((((k).toInt64) * ((k).toInt64)) * ((k).toInt64))))), .second, .val (.double (FP.dmul (FP.l2d ((((k).toInt64) * ((k).toInt64)) * ((k).toInt64))) (4427486594234968593 : UInt64))), .second]) at_296 rfl rfl ?_
          refine Wk.iload (pc' := 300) at_298 rfl rfl ?_
          refine Wk.ifN (pc' := 303) at_300 (XT.i0_eq_f (by decide)) rfl ?_
          refine Wk.dload (pc' := 305) at_303 rfl rfl ?_
          refine Wk.dload (pc' := 307) at_305 rfl rfl ?_
          refine Wk.dcmp (pc' := 308) (v := v2) at_307 cv2 rfl ?_
          refine Wk.ifN (pc' := 311) at_308 (XT.i0_gt_f hv2) rfl ?_
          refine Wk.dload (pc' := 313) at_311 rfl rfl ?_
          refine Wk.dneg (pc' := 314) at_313 rfl ?_
          refine Wk.dload (pc' := 316) at_314 rfl rfl ?_
          refine Wk.dcmp (pc' := 317) (v := v3) at_316 cv3 rfl ?_
          refine Wk.ifN (pc' := 320) at_317 (XT.i0_gt_f hv3) rfl ?_
          refine Wk.iconst (pc' := 321) (1 : Int32) at_320 (by decide) rfl ?_
          refine Wk.goTo (pc' := 325) at_321 (by decide) (by decide) ?_
          refine Wk.istore (pc' := 327) (Ls' := #[.val (.int a), .val (.int b), .val (.int c0), .val (.int m), .val (.int n), .val (.int k), .val (rf hB 0), .val (rf hB 1), .val (.double (0 : UInt64)), .second, .val (.double (cbr k n)), .second, .val (.int (1 : Int32)), .val (.long ((k).toInt64)), .second, .val (.long ((n).toInt64)), .second, .val (.double (FP.l2d ((((k).toInt64) * ((k).toInt64)) * ((k).toInt64)))), .second, .val (.double (FP.dsub (FP.dmul (cbr k n) (FP.l2d ((((n).toInt64) * ((n).toInt64)) * ((n).toInt64)))) (FP.l2d ((((k).toInt64) * ((k).toInt64)) * ((k).toInt64))))), .second, .val (.double (FP.dmul (FP.l2d ((((k).toInt64) * ((k).toInt64)) * ((k).toInt64))) (4427486594234968593 : UInt64))), .second]) at_325 rfl rfl ?_
          refine Wk.iload (pc' := 329) at_327 rfl rfl ?_
          exact Wk.iret (t := .boolean) at_329 rfl (by simp) rfl (Nat.le_of_ble_eq_true rfl) (Nat.le_of_ble_eq_true rfl) rfl
        ·
          refine Wk.icY (pc' := 327) at_259 (XT.ii_ne_t hmm) (by decide) (by decide) ?_
          refine Wk.iload (pc' := 329) at_327 rfl rfl ?_
          exact Wk.iret (t := .boolean) at_329 rfl (by simp) rfl (Nat.le_of_ble_eq_true rfl) (Nat.le_of_ble_eq_true rfl) rfl
    ·
      refine Wk.icY (pc' := 177) at_155 (XT.ii_ne_t hc2) (by decide) (by decide) ?_
      refine Wk.iload (pc' := 179) at_177 rfl rfl ?_
      refine Wk.iconst (pc' := 180) (1 : Int32) at_179 (by decide) rfl ?_
      refine Wk.icY (pc' := 203) at_180 (XT.ii_le_t hc1) (by decide) (by decide) ?_
      refine Wk.iload (pc' := 205) at_203 rfl rfl ?_
      refine Wk.i2l (pc' := 206) at_205 rfl ?_
      refine Wk.lstore (pc' := 208) (Ls' := #[.val (.int a), .val (.int b), .val (.int c0), .val (.int m), .val (.int n), .val (.int k), .val (rf hB 0), .val (rf hB 1), .val (.double (0 : UInt64)), .second, .val (.double (cbr k n)), .second, .val (.int (1 : Int32)), .val (.long ((k).toInt64)), .second, .unset, .unset, .unset, .unset, .unset, .unset, .unset, .unset]) at_206 rfl rfl ?_
      refine Wk.iload (pc' := 210) at_208 rfl rfl ?_
      refine Wk.i2l (pc' := 211) at_210 rfl ?_
      refine Wk.lstore (pc' := 213) (Ls' := #[.val (.int a), .val (.int b), .val (.int c0), .val (.int m), .val (.int n), .val (.int k), .val (rf hB 0), .val (rf hB 1), .val (.double (0 : UInt64)), .second, .val (.double (cbr k n)), .second, .val (.int (1 : Int32)), .val (.long ((k).toInt64)), .second, .val (.long ((n).toInt64)), .second, .unset, .unset, .unset, .unset, .unset, .unset]) at_211 rfl rfl ?_
      refine Wk.iloadN (pc' := 214) at_213 rfl rfl ?_
      by_cases hm : m = (0 : Int32)
      ·
        refine Wk.ifN (pc' := 217) at_214 (XT.i0_ne_f hm) rfl ?_
        obtain ⟨nm0, cm0⟩ := mode0 (R := R2) hk hkn (hm0 hm)
        refine Wk.iload (pc' := 219) at_217 rfl rfl ?_
        refine Wk.ifN (pc' := 222) at_219 (XT.i0_eq_f (by decide)) rfl ?_
        refine Wk.dload (pc' := 224) at_222 rfl rfl ?_
        refine Wk.lload (pc' := 226) at_224 rfl rfl ?_
        refine Wk.lload (pc' := 228) at_226 rfl rfl ?_
        refine Wk.lmul (pc' := 229) at_228 rfl ?_
        refine Wk.lload (pc' := 231) at_229 rfl rfl ?_
        refine Wk.lmul (pc' := 232) at_231 rfl ?_
        refine Wk.l2d (pc' := 233) at_232 rfl ?_
        refine Wk.lload (pc' := 235) at_233 rfl rfl ?_
        refine Wk.lload (pc' := 237) at_235 rfl rfl ?_
        refine Wk.lmul (pc' := 238) at_237 rfl ?_
        refine Wk.lload (pc' := 240) at_238 rfl rfl ?_
        refine Wk.lmul (pc' := 241) at_240 rfl ?_
        refine Wk.l2d (pc' := 242) at_241 rfl ?_
        refine Wk.ddiv (pc' := 243) (v := (FP.ddiv (FP.l2d ((((k).toInt64) * ((k).toInt64)) * ((k).toInt64))) (FP.l2d ((((n).toInt64) * ((n).toInt64)) * ((n).toInt64))))) at_242 nm0 rfl rfl ?_
        refine Wk.dcmp (pc' := 244) (v := (0 : Int32)) at_243 cm0 rfl ?_
        refine Wk.ifN (pc' := 247) at_244 (XT.i0_ne_f rfl) rfl ?_
        refine Wk.iconst (pc' := 248) (1 : Int32) at_247 (by decide) rfl ?_
        refine Wk.goTo (pc' := 252) at_248 (by decide) (by decide) ?_
        refine Wk.istore (pc' := 254) (Ls' := #[.val (.int a), .val (.int b), .val (.int c0), .val (.int m), .val (.int n), .val (.int k), .val (rf hB 0), .val (rf hB 1), .val (.double (0 : UInt64)), .second, .val (.double (cbr k n)), .second, .val (.int (1 : Int32)), .val (.long ((k).toInt64)), .second, .val (.long ((n).toInt64)), .second, .unset, .unset, .unset, .unset, .unset, .unset]) at_252 rfl rfl ?_
        refine Wk.goTo (pc' := 327) at_254 (by decide) (by decide) ?_
        refine Wk.iload (pc' := 329) at_327 rfl rfl ?_
        exact Wk.iret (t := .boolean) at_329 rfl (by simp) rfl (Nat.le_of_ble_eq_true rfl) (Nat.le_of_ble_eq_true rfl) rfl
      ·
        refine Wk.ifY (pc' := 257) at_214 (XT.i0_ne_t hm) (by decide) (by decide) ?_
        refine Wk.iloadN (pc' := 258) at_257 rfl rfl ?_
        refine Wk.iconst (pc' := 259) (1 : Int32) at_258 (by decide) rfl ?_
        by_cases hmm : m = (1 : Int32)
        ·
          refine Wk.icN (pc' := 262) at_259 (XT.ii_ne_f hmm) rfl ?_
          obtain ⟨nm1, nm2, nm3, ⟨v2, cv2, hv2⟩, ⟨v3, cv3, hv3⟩⟩ := mode1 hk hkn (hm1 hmm) hR r1 r3 r4 r5
          refine Wk.lload (pc' := 264) at_262 rfl rfl ?_
          refine Wk.lload (pc' := 266) at_264 rfl rfl ?_
          refine Wk.lmul (pc' := 267) at_266 rfl ?_
          refine Wk.lload (pc' := 269) at_267 rfl rfl ?_
          refine Wk.lmul (pc' := 270) at_269 rfl ?_
          refine Wk.l2d (pc' := 271) at_270 rfl ?_
          refine Wk.dstore (pc' := 273) (Ls' := #[.val (.int a), .val (.int b), .val (.int c0), .val (.int m), .val (.int n), .val (.int k), .val (rf hB 0), .val (rf hB 1), .val (.double (0 : UInt64)), .second, .val (.double (cbr k n)), .second, .val (.int (1 : Int32)), .val (.long ((k).toInt64)), .second, .val (.long ((n).toInt64)), .second, .val (.double (FP.l2d ((((k).toInt64) * ((k).toInt64)) * ((k).toInt64)))), .second, .unset, .unset, .unset, .unset]) at_271 rfl rfl ?_
          refine Wk.dload (pc' := 275) at_273 rfl rfl ?_
          refine Wk.lload (pc' := 277) at_275 rfl rfl ?_
          refine Wk.lload (pc' := 279) at_277 rfl rfl ?_
          refine Wk.lmul (pc' := 280) at_279 rfl ?_
          refine Wk.lload (pc' := 282) at_280 rfl rfl ?_
          refine Wk.lmul (pc' := 283) at_282 rfl ?_
          refine Wk.l2d (pc' := 284) at_283 rfl ?_
          refine Wk.dmul (pc' := 285) (v := (FP.dmul (cbr k n) (FP.l2d ((((n).toInt64) * ((n).toInt64)) * ((n).toInt64))))) at_284 nm1 rfl rfl ?_
          refine Wk.dload (pc' := 287) at_285 rfl rfl ?_
          refine Wk.dsub (pc' := 288) (v := (FP.dsub (FP.dmul (cbr k n) (FP.l2d ((((n).toInt64) * ((n).toInt64)) * ((n).toInt64)))) (FP.l2d ((((k).toInt64) * ((k).toInt64)) * ((k).toInt64))))) at_287 nm2 rfl rfl ?_
          refine Wk.dstore (pc' := 290) (Ls' := #[.val (.int a), .val (.int b), .val (.int c0), .val (.int m), .val (.int n), .val (.int k), .val (rf hB 0), .val (rf hB 1), .val (.double (0 : UInt64)), .second, .val (.double (cbr k n)), .second, .val (.int (1 : Int32)), .val (.long ((k).toInt64)), .second, .val (.long ((n).toInt64)), .second, .val (.double (FP.l2d ((((k).toInt64) * ((k).toInt64)) * ((k).toInt64)))), .second, .val (.double (FP.dsub (FP.dmul (cbr k n) (FP.l2d ((((n).toInt64) * ((n).toInt64)) * ((n).toInt64)))) (FP.l2d ((((k).toInt64) * ((k).toInt64)) * ((k).toInt64))))), .second, .unset, .unset]) at_288 rfl rfl ?_
          refine Wk.dload (pc' := 292) at_290 rfl rfl ?_
          refine Wk.ldc2D (pc' := 295) at_292 (wd28 hw) rfl ?_
          refine Wk.dmul (pc' := 296) (v := (FP.dmul (FP.l2d ((((k).toInt64) * ((k).toInt64)) * ((k).toInt64))) (4427486594234968593 : UInt64))) at_295 nm3 rfl rfl ?_
          refine Wk.dstore (pc' := 298) (Ls' := #[.val (.int a), .val (.int b), .val (.int c0), .val (.int m), .val (.int n), .val (.int k), .val (rf hB 0), .val (rf hB 1), .val (.double (0 : UInt64)), .second, .val (.double (cbr k n)), .second, .val (.int (1 : Int32)), .val (.long ((k).toInt64)), .second, .val (.long ((n).toInt64)), .second, .val (.double (FP.l2d ((((k).toInt64) * ((k).toInt64)) * ((k).toInt64)))), .second, .val (.double (FP.dsub (FP.dmul (cbr k n) (FP.l2d ((((n).toInt64) * ((n).toInt64)) * ((n).toInt64)))) (FP.l2d ((((k).toInt64) * ((k).toInt64)) * ((k).toInt64))))), .second, .val (.double (FP.dmul (FP.l2d ((((k).toInt64) * ((k).toInt64)) * ((k).toInt64))) (4427486594234968593 : UInt64))), .second]) at_296 rfl rfl ?_
          refine Wk.iload (pc' := 300) at_298 rfl rfl ?_
          refine Wk.ifN (pc' := 303) at_300 (XT.i0_eq_f (by decide)) rfl ?_
          refine Wk.dload (pc' := 305) at_303 rfl rfl ?_
          refine Wk.dload (pc' := 307) at_305 rfl rfl ?_
          refine Wk.dcmp (pc' := 308) (v := v2) at_307 cv2 rfl ?_
          refine Wk.ifN (pc' := 311) at_308 (XT.i0_gt_f hv2) rfl ?_
          refine Wk.dload (pc' := 313) at_311 rfl rfl ?_
          refine Wk.dneg (pc' := 314) at_313 rfl ?_
          refine Wk.dload (pc' := 316) at_314 rfl rfl ?_
          refine Wk.dcmp (pc' := 317) (v := v3) at_316 cv3 rfl ?_
          refine Wk.ifN (pc' := 320) at_317 (XT.i0_gt_f hv3) rfl ?_
          refine Wk.iconst (pc' := 321) (1 : Int32) at_320 (by decide) rfl ?_
          refine Wk.goTo (pc' := 325) at_321 (by decide) (by decide) ?_
          refine Wk.istore (pc' := 327) (Ls' := #[.val (.int a), .val (.int b), .val (.int c0), .val (.int m), .val (.int n), .val (.int k), .val (rf hB 0), .val (rf hB 1), .val (.double (0 : UInt64)), .second, .val (.double (cbr k n)), .second, .val (.int (1 : Int32)), .val (.long ((k).toInt64)), .second, .val (.long ((n).toInt64)), .second, .val (.double (FP.l2d ((((k).toInt64) * ((k).toInt64)) * ((k).toInt64)))), .second, .val (.double (FP.dsub (FP.dmul (cbr k n) (FP.l2d ((((n).toInt64) * ((n).toInt64)) * ((n).toInt64)))) (FP.l2d ((((k).toInt64) * ((k).toInt64)) * ((k).toInt64))))), .second, .val (.double (FP.dmul (FP.l2d ((((k).toInt64) * ((k).toInt64)) * ((k).toInt64))) (4427486594234968593 : UInt64))), .second]) at_325 rfl rfl ?_
          refine Wk.iload (pc' := 329) at_327 rfl rfl ?_
          exact Wk.iret (t := .boolean) at_329 rfl (by simp) rfl (Nat.le_of_ble_eq_true rfl) (Nat.le_of_ble_eq_true rfl) rfl
        ·
          refine Wk.icY (pc' := 327) at_259 (XT.ii_ne_t hmm) (by decide) (by decide) ?_
          refine Wk.iload (pc' := 329) at_327 rfl rfl ?_
          exact Wk.iret (t := .boolean) at_329 rfl (by simp) rfl (Nat.le_of_ble_eq_true rfl) (Nat.le_of_ble_eq_true rfl) rfl
theorem and31 (a : Int32) : 0 ≤ (a &&& 2147483647).toInt := by
  have e : (a &&& 2147483647).toInt = ((a &&& 2147483647).toBitVec).toInt := rfl
  have h1 : ((a &&& 2147483647).toBitVec).toNat = a.toBitVec.toNat &&& 2147483647 := rfl
  have h2 : a.toBitVec.toNat &&& 2147483647 ≤ 2147483647 := Nat.and_le_right
  rw [e, BitVec.toInt_eq_toNat_cond, h1]
  split <;> omega
theorem and20 (a : Int32) : 0 ≤ (a &&& 1048575).toInt ∧ (a &&& 1048575).toInt ≤ 1048575 := by
  have e : (a &&& 1048575).toInt = ((a &&& 1048575).toBitVec).toInt := rfl
  have h1 : ((a &&& 1048575).toBitVec).toNat = a.toBitVec.toNat &&& 1048575 := rfl
  have h2 : a.toBitVec.toNat &&& 1048575 ≤ 1048575 := Nat.and_le_right
  rw [e, BitVec.toInt_eq_toNat_cond, h1]
  split <;> omega
theorem n_one (a : Int32) : ((a &&& 1048575) + 1).toInt = (a &&& 1048575).toInt + 1 := by
  have := and20 a
  rw [Int32.toInt_add, show (1 : Int32).toInt = 1 from rfl]
  rw [Int.bmod_eq_of_le (by omega) (by omega)]
theorem n_max (a : Int32) : 1 ≤ (mxI 1 (a &&& 2147483647)).toInt := by
  unfold mxI
  split
  · rename_i h
    rw [Int32.lt_iff_toInt_lt, show (1 : Int32).toInt = 1 from rfl] at h; omega
  · decide
theorem n_pow (a : Int32) : ∃ j : Nat, j ≤ 17 ∧ ((1 : Int32) <<< (((a &&& 2147483647) % 18) &&& 31)).toInt = ((2 ^ j : Nat) : Int) := by
  have h1 := and31 a
  have h2 : ((a &&& 2147483647) % 18).toInt = (a &&& 2147483647).toInt.tmod 18 := Int32.toInt_mod _ _
  have h3 : (0 : Int) ≤ (a &&& 2147483647).toInt.tmod 18 := Int.tmod_nonneg _ h1
  have h4 : (a &&& 2147483647).toInt.tmod 18 < 18 := Int.tmod_lt_of_pos _ (by decide)
  generalize (a &&& 2147483647) % 18 = x at h2
  have key : ∀ i : Fin 18, ((1 : Int32) <<< ((Int32.ofNat i.val) &&& 31)).toInt = ((2 ^ i.val : Nat) : Int) := by decide +kernel
  have ex : x = Int32.ofNat x.toInt.toNat := by
    apply Int32.toInt_inj.mp
    rw [Int32.toInt_ofNat_small (by omega)]; omega
  refine ⟨x.toInt.toNat, by omega, ?_⟩
  rw [ex, show (Int32.ofNat x.toInt.toNat).toInt = x.toInt from by rw [← ex]]
  exact key ⟨x.toInt.toNat, by omega⟩
theorem k_ok (b : Int32) {n : Int32} (hn : 1 ≤ n.toInt) : 0 < ((b &&& 2147483647) % n + 1).toInt ∧ ((b &&& 2147483647) % n + 1).toInt ≤ n.toInt := by
  have h1 := and31 b
  have hl := n.toInt_lt
  have h2 : ((b &&& 2147483647) % n).toInt = (b &&& 2147483647).toInt.tmod n.toInt := Int32.toInt_mod _ _
  have h3 : (0 : Int) ≤ (b &&& 2147483647).toInt.tmod n.toInt := Int.tmod_nonneg _ h1
  have h4 : (b &&& 2147483647).toInt.tmod n.toInt < n.toInt := Int.tmod_lt_of_pos _ (by omega)
  rw [Int32.toInt_add, show (1 : Int32).toInt = 1 from rfl, h2]
  rw [Int.bmod_eq_of_le (by omega) (by omega)]
  omega
theorem n_ne {n : Int32} (hn : 1 ≤ n.toInt) : n ≠ 0 := fun q => by subst q; exact absurd hn (by decide)
set_option maxRecDepth 65536 in
set_option maxHeartbeats 40000000 in
theorem m_law (l : Launch) (Z : State) (a0 : Array Value) (hw : ∀ d ∈ tables_1, d.before a0 Z = true) (hB : Heap) (a b c0 : Int32) : Ctr l Z hB x code maxLocals ret tables_1 room_1 #[(.int a), (.int b), (.int c0)] [] (fun v _ => v = some (.int 1)) := by
  refine Wk.ctr pn_4 (Ls := #[.val (.int a), .val (.int b), .val (.int c0), .unset, .unset, .unset, .unset, .unset, .unset, .unset, .unset, .unset, .unset, .unset, .unset, .unset, .unset, .unset, .unset, .unset, .unset, .unset, .unset]) (fun m => by first | (simp [entryFrame, mkF, argsToLocals, Value.category, maxLocals]; done) | rfl) ?_
  refine Wk.iloadN (pc' := 1) at_0 rfl rfl ?_
  refine Wk.iconst (pc' := 2) (3 : Int32) at_1 (by decide) rfl ?_
  refine Wk.iand (pc' := 3) at_2 rfl ?_
  refine Wk.istoreN (pc' := 4) (Ls' := #[.val (.int a), .val (.int b), .val (.int c0), .val (.int (c0 &&& (3 : Int32))), .unset, .unset, .unset, .unset, .unset, .unset, .unset, .unset, .unset, .unset, .unset, .unset, .unset, .unset, .unset, .unset, .unset, .unset, .unset]) at_3 rfl rfl ?_
  refine Wk.iloadN (pc' := 5) at_4 rfl rfl ?_
  by_cases hc1 : (c0 &&& (3 : Int32)) = (0 : Int32)
  ·
    refine Wk.ifN (pc' := 8) at_5 (XT.i0_ne_f hc1) rfl ?_
    refine Wk.iloadN (pc' := 9) at_8 rfl rfl ?_
    refine Wk.ldcInt (pc' := 11) at_9 (wd0 hw) rfl ?_
    refine Wk.iand (pc' := 12) at_11 rfl ?_
    refine Wk.bipush (pc' := 14) (18 : Int32) at_12 (by decide) rfl ?_
    refine Wk.irem (pc' := 15) at_14 (by decide) rfl ?_
    refine Wk.istore (pc' := 17) (Ls' := #[.val (.int a), .val (.int b), .val (.int c0), .val (.int (c0 &&& (3 : Int32))), .unset, .val (.int ((a &&& (2147483647 : Int32)) % (18 : Int32))), .unset, .unset, .unset, .unset, .unset, .unset, .unset, .unset, .unset, .unset, .unset, .unset, .unset, .unset, .unset, .unset, .unset]) at_15 rfl rfl ?_
    refine Wk.iconst (pc' := 18) (1 : Int32) at_17 (by decide) rfl ?_
    refine Wk.iload (pc' := 20) at_18 rfl rfl ?_
    refine Wk.ishl (pc' := 21) at_20 rfl ?_
    refine Wk.istore (pc' := 23) (Ls' := #[.val (.int a), .val (.int b), .val (.int c0), .val (.int (c0 &&& (3 : Int32))), .val (.int ((1 : Int32) <<< (((a &&& (2147483647 : Int32)) % (18 : Int32)) &&& 31))), .val (.int ((a &&& (2147483647 : Int32)) % (18 : Int32))), .unset, .unset, .unset, .unset, .unset, .unset, .unset, .unset, .unset, .unset, .unset, .unset, .unset, .unset, .unset, .unset, .unset]) at_21 rfl rfl ?_
    refine Wk.goTo (pc' := 52) at_23 (by decide) (by decide) ?_
    refine Wk.iloadN (pc' := 53) at_52 rfl rfl ?_
    refine Wk.iconst (pc' := 54) (4 : Int32) at_53 (by decide) rfl ?_
    refine Wk.iand (pc' := 55) at_54 rfl ?_
    by_cases hc2 : (c0 &&& (4 : Int32)) = (0 : Int32)
    ·
      refine Wk.ifY (pc' := 63) at_55 (XT.i0_eq_t hc2) (by decide) (by decide) ?_
      refine Wk.iloadN (pc' := 64) at_63 rfl rfl ?_
      refine Wk.ldcInt (pc' := 66) at_64 (wd0 hw) rfl ?_
      refine Wk.iand (pc' := 67) at_66 rfl ?_
      refine Wk.iload (pc' := 69) at_67 rfl rfl ?_
      refine Wk.irem (pc' := 70) at_69 (n_ne (by obtain ⟨j, -, e⟩ := n_pow a; rw [e]; have := Nat.two_pow_pos j; omega)) rfl ?_
      refine Wk.iconst (pc' := 71) (1 : Int32) at_70 (by decide) rfl ?_
      refine Wk.iadd (pc' := 72) at_71 rfl ?_
      refine Wk.istore (pc' := 74) (Ls' := #[.val (.int a), .val (.int b), .val (.int c0), .val (.int (c0 &&& (3 : Int32))), .val (.int ((1 : Int32) <<< (((a &&& (2147483647 : Int32)) % (18 : Int32)) &&& 31))), .val (.int (((b &&& (2147483647 : Int32)) % ((1 : Int32) <<< (((a &&& (2147483647 : Int32)) % (18 : Int32)) &&& 31))) + (1 : Int32))), .unset, .unset, .unset, .unset, .unset, .unset, .unset, .unset, .unset, .unset, .unset, .unset, .unset, .unset, .unset, .unset, .unset]) at_72 rfl rfl ?_
      exact m_74 l Z a0 hw hB a b c0 (c0 &&& (3 : Int32)) ((1 : Int32) <<< (((a &&& (2147483647 : Int32)) % (18 : Int32)) &&& 31)) (((b &&& (2147483647 : Int32)) % ((1 : Int32) <<< (((a &&& (2147483647 : Int32)) % (18 : Int32)) &&& 31))) + (1 : Int32)) (fun _ => n_pow a) (fun q => by rw [hc1] at q; exact absurd q (by decide)) (k_ok b (by obtain ⟨j, -, e⟩ := n_pow a; rw [e]; have := Nat.two_pow_pos j; omega)).1 (k_ok b (by obtain ⟨j, -, e⟩ := n_pow a; rw [e]; have := Nat.two_pow_pos j; omega)).2
    ·
      refine Wk.ifN (pc' := 58) at_55 (XT.i0_eq_f hc2) rfl ?_
      refine Wk.iload (pc' := 60) at_58 rfl rfl ?_
      refine Wk.goTo (pc' := 72) at_60 (by decide) (by decide) ?_
      refine Wk.istore (pc' := 74) (Ls' := #[.val (.int a), .val (.int b), .val (.int c0), .val (.int (c0 &&& (3 : Int32))), .val (.int ((1 : Int32) <<< (((a &&& (2147483647 : Int32)) % (18 : Int32)) &&& 31))), .val (.int ((1 : Int32) <<< (((a &&& (2147483647 : Int32)) % (18 : Int32)) &&& 31))), .unset, .unset, .unset, .unset, .unset, .unset, .unset, .unset, .unset, .unset, .unset, .unset, .unset, .unset, .unset, .unset, .unset]) at_72 rfl rfl ?_
      exact m_74 l Z a0 hw hB a b c0 (c0 &&& (3 : Int32)) ((1 : Int32) <<< (((a &&& (2147483647 : Int32)) % (18 : Int32)) &&& 31)) ((1 : Int32) <<< (((a &&& (2147483647 : Int32)) % (18 : Int32)) &&& 31)) (fun _ => n_pow a) (fun q => by rw [hc1] at q; exact absurd q (by decide)) (Int.lt_of_lt_of_le (by decide) (show (1 : Int) ≤ ((1 : Int32) <<< (((a &&& (2147483647 : Int32)) % (18 : Int32)) &&& 31)).toInt from (by obtain ⟨j, -, e⟩ := n_pow a; rw [e]; have := Nat.two_pow_pos j; omega))) (Int.le_refl _)
  ·
    refine Wk.ifY (pc' := 26) at_5 (XT.i0_ne_t hc1) (by decide) (by decide) ?_
    refine Wk.iloadN (pc' := 27) at_26 rfl rfl ?_
    refine Wk.iconst (pc' := 28) (1 : Int32) at_27 (by decide) rfl ?_
    by_cases hc2 : (c0 &&& (3 : Int32)) = (1 : Int32)
    ·
      refine Wk.icN (pc' := 31) at_28 (XT.ii_ne_f hc2) rfl ?_
      refine Wk.iloadN (pc' := 32) at_31 rfl rfl ?_
      refine Wk.ldcInt (pc' := 34) at_32 (wd27 hw) rfl ?_
      refine Wk.iand (pc' := 35) at_34 rfl ?_
      refine Wk.iconst (pc' := 36) (1 : Int32) at_35 (by decide) rfl ?_
      refine Wk.iadd (pc' := 37) at_36 rfl ?_
      refine Wk.istore (pc' := 39) (Ls' := #[.val (.int a), .val (.int b), .val (.int c0), .val (.int (c0 &&& (3 : Int32))), .val (.int ((a &&& (1048575 : Int32)) + (1 : Int32))), .unset, .unset, .unset, .unset, .unset, .unset, .unset, .unset, .unset, .unset, .unset, .unset, .unset, .unset, .unset, .unset, .unset, .unset]) at_37 rfl rfl ?_
      refine Wk.goTo (pc' := 52) at_39 (by decide) (by decide) ?_
      refine Wk.iloadN (pc' := 53) at_52 rfl rfl ?_
      refine Wk.iconst (pc' := 54) (4 : Int32) at_53 (by decide) rfl ?_
      refine Wk.iand (pc' := 55) at_54 rfl ?_
      by_cases hc4 : (c0 &&& (4 : Int32)) = (0 : Int32)
      ·
        refine Wk.ifY (pc' := 63) at_55 (XT.i0_eq_t hc4) (by decide) (by decide) ?_
        refine Wk.iloadN (pc' := 64) at_63 rfl rfl ?_
        refine Wk.ldcInt (pc' := 66) at_64 (wd0 hw) rfl ?_
        refine Wk.iand (pc' := 67) at_66 rfl ?_
        refine Wk.iload (pc' := 69) at_67 rfl rfl ?_
        refine Wk.irem (pc' := 70) at_69 (n_ne (by rw [n_one]; have := and20 a; omega)) rfl ?_
        refine Wk.iconst (pc' := 71) (1 : Int32) at_70 (by decide) rfl ?_
        refine Wk.iadd (pc' := 72) at_71 rfl ?_
        refine Wk.istore (pc' := 74) (Ls' := #[.val (.int a), .val (.int b), .val (.int c0), .val (.int (c0 &&& (3 : Int32))), .val (.int ((a &&& (1048575 : Int32)) + (1 : Int32))), .val (.int (((b &&& (2147483647 : Int32)) % ((a &&& (1048575 : Int32)) + (1 : Int32))) + (1 : Int32))), .unset, .unset, .unset, .unset, .unset, .unset, .unset, .unset, .unset, .unset, .unset, .unset, .unset, .unset, .unset, .unset, .unset]) at_72 rfl rfl ?_
        exact m_74 l Z a0 hw hB a b c0 (c0 &&& (3 : Int32)) ((a &&& (1048575 : Int32)) + (1 : Int32)) (((b &&& (2147483647 : Int32)) % ((a &&& (1048575 : Int32)) + (1 : Int32))) + (1 : Int32)) (fun q => absurd q hc1) (fun _ => by rw [n_one]; have := and20 a; omega) (k_ok b (by rw [n_one]; have := and20 a; omega)).1 (k_ok b (by rw [n_one]; have := and20 a; omega)).2
      ·
        refine Wk.ifN (pc' := 58) at_55 (XT.i0_eq_f hc4) rfl ?_
        refine Wk.iload (pc' := 60) at_58 rfl rfl ?_
        refine Wk.goTo (pc' := 72) at_60 (by decide) (by decide) ?_
        refine Wk.istore (pc' := 74) (Ls' := #[.val (.int a), .val (.int b), .val (.int c0), .val (.int (c0 &&& (3 : Int32))), .val (.int ((a &&& (1048575 : Int32)) + (1 : Int32))), .val (.int ((a &&& (1048575 : Int32)) + (1 : Int32))), .unset, .unset, .unset, .unset, .unset, .unset, .unset, .unset, .unset, .unset, .unset, .unset, .unset, .unset, .unset, .unset, .unset]) at_72 rfl rfl ?_
        exact m_74 l Z a0 hw hB a b c0 (c0 &&& (3 : Int32)) ((a &&& (1048575 : Int32)) + (1 : Int32)) ((a &&& (1048575 : Int32)) + (1 : Int32)) (fun q => absurd q hc1) (fun _ => by rw [n_one]; have := and20 a; omega) (Int.lt_of_lt_of_le (by decide) (show (1 : Int) ≤ ((a &&& (1048575 : Int32)) + (1 : Int32)).toInt from (by rw [n_one]; have := and20 a; omega))) (Int.le_refl _)
    ·
      refine Wk.icY (pc' := 42) at_28 (XT.ii_ne_t hc2) (by decide) (by decide) ?_
      refine Wk.iconst (pc' := 43) (1 : Int32) at_42 (by decide) rfl ?_
      refine Wk.iloadN (pc' := 44) at_43 rfl rfl ?_
      refine Wk.ldcInt (pc' := 46) at_44 (wd0 hw) rfl ?_
      refine Wk.iand (pc' := 47) at_46 rfl ?_
      refine Wk.callS (pc' := 50) (argsL := [(.int (1 : Int32)), (.int (a &&& (2147483647 : Int32)))]) (st := []) at_47 (wd1 hw) (wd2 hw) (wd3 hw) (wd4 hw) (by decide) (lenOf pd_3 rfl) (m_max l Z a0 hw hB [] 1 (a &&& (2147483647 : Int32))) rfl (Nat.le_of_ble_eq_true rfl) (Nat.le_of_ble_eq_true rfl) (Nat.le_of_ble_eq_true rfl) (Nat.le_of_ble_eq_true rfl) rfl rfl ?_
      rintro _ _ ⟨rfl, hH⟩; obtain rfl := hH.symm
      show WP l Z hB _ _ _ _ _ _ _ _ [] _ _ [(.int (mxI 1 (a &&& (2147483647 : Int32))))]
      refine Wk.istore (pc' := 52) (Ls' := #[.val (.int a), .val (.int b), .val (.int c0), .val (.int (c0 &&& (3 : Int32))), .val (.int (mxI 1 (a &&& (2147483647 : Int32)))), .unset, .unset, .unset, .unset, .unset, .unset, .unset, .unset, .unset, .unset, .unset, .unset, .unset, .unset, .unset, .unset, .unset, .unset]) at_50 rfl rfl ?_
      refine Wk.iloadN (pc' := 53) at_52 rfl rfl ?_
      refine Wk.iconst (pc' := 54) (4 : Int32) at_53 (by decide) rfl ?_
      refine Wk.iand (pc' := 55) at_54 rfl ?_
      by_cases hc5 : (c0 &&& (4 : Int32)) = (0 : Int32)
      ·
        refine Wk.ifY (pc' := 63) at_55 (XT.i0_eq_t hc5) (by decide) (by decide) ?_
        refine Wk.iloadN (pc' := 64) at_63 rfl rfl ?_
        refine Wk.ldcInt (pc' := 66) at_64 (wd0 hw) rfl ?_
        refine Wk.iand (pc' := 67) at_66 rfl ?_
        refine Wk.iload (pc' := 69) at_67 rfl rfl ?_
        refine Wk.irem (pc' := 70) at_69 (n_ne (n_max a)) rfl ?_
        refine Wk.iconst (pc' := 71) (1 : Int32) at_70 (by decide) rfl ?_
        refine Wk.iadd (pc' := 72) at_71 rfl ?_
        refine Wk.istore (pc' := 74) (Ls' := #[.val (.int a), .val (.int b), .val (.int c0), .val (.int (c0 &&& (3 : Int32))), .val (.int (mxI 1 (a &&& (2147483647 : Int32)))), .val (.int (((b &&& (2147483647 : Int32)) % (mxI 1 (a &&& (2147483647 : Int32)))) + (1 : Int32))), .unset, .unset, .unset, .unset, .unset, .unset, .unset, .unset, .unset, .unset, .unset, .unset, .unset, .unset, .unset, .unset, .unset]) at_72 rfl rfl ?_
        exact m_74 l Z a0 hw hB a b c0 (c0 &&& (3 : Int32)) (mxI 1 (a &&& (2147483647 : Int32))) (((b &&& (2147483647 : Int32)) % (mxI 1 (a &&& (2147483647 : Int32)))) + (1 : Int32)) (fun q => absurd q hc1) (fun q => absurd q hc2) (k_ok b (n_max a)).1 (k_ok b (n_max a)).2
      ·
        refine Wk.ifN (pc' := 58) at_55 (XT.i0_eq_f hc5) rfl ?_
        refine Wk.iload (pc' := 60) at_58 rfl rfl ?_
        refine Wk.goTo (pc' := 72) at_60 (by decide) (by decide) ?_
        refine Wk.istore (pc' := 74) (Ls' := #[.val (.int a), .val (.int b), .val (.int c0), .val (.int (c0 &&& (3 : Int32))), .val (.int (mxI 1 (a &&& (2147483647 : Int32)))), .val (.int (mxI 1 (a &&& (2147483647 : Int32)))), .unset, .unset, .unset, .unset, .unset, .unset, .unset, .unset, .unset, .unset, .unset, .unset, .unset, .unset, .unset, .unset, .unset]) at_72 rfl rfl ?_
        exact m_74 l Z a0 hw hB a b c0 (c0 &&& (3 : Int32)) (mxI 1 (a &&& (2147483647 : Int32))) (mxI 1 (a &&& (2147483647 : Int32))) (fun q => absurd q hc1) (fun q => absurd q hc2) (Int.lt_of_lt_of_le (by decide) (show (1 : Int) ≤ (mxI 1 (a &&& (2147483647 : Int32))).toInt from (n_max a))) (Int.le_refl _)
set_option maxRecDepth 65536 in
set_option maxHeartbeats 40000000 in
theorem comes_1 {Post : Tables → Env → Array Value → State → Outcome → State → Prop} (hpost : ∀ tb e args s v u, (limb_1_1.after args s (.returned v) u = true ∧ limb_1_2.after args s (.returned v) u = true ∧ True) → FrameEnd s (.returned v) u (Jvm.fieldLocs frame_1_writes args s ++ Jvm.arrayLocs frame_1_arrays args s ++ Jvm.staticLocs frame_1_statics s) 16 128 → Post tb e args s (.returned v) u) :
    ArmFor flags0 classFile x code maxLocals ret World_1 tables_1 room_1 Calls_1 rest_1 Pre_1 Post := by
  intro l hfl _ _ p e ha hc hk s m args below hf hA hF happ hP
  obtain ⟨hcalls, hrest, hpre⟩ := hP
  obtain ⟨-, -, -, hnamed, -, -, -, hat⟩ := (Spec.applies_iff hf).mp happ
  obtain ⟨hg, hn⟩ := and_e (Cond.before_iff.mp (show (Jvm.Cond.and given_1 narrow_1).before args s = true from hpre))
  obtain ⟨h1, h2⟩ := and_e hg
  obtain ⟨w0, w1, w2, rfl⟩ : ∃ w0 w1 w2 : Value, args = #[w0, w1, w2] := by
    have hs : args.size = 3 := by simpa [Cond.value, given_1] using h1
    obtain ⟨L⟩ := args
    match L, hs with
    | [w0, w1, w2], _ => exact ⟨w0, w1, w2, rfl⟩
  have hw := fun d (hd : d ∈ tables_1) => atoms_spec (ws := Jvm.Cond.code x code maxLocals ret :: tables_1) hat d (List.mem_cons_of_mem _ hd)
  have hfit : Fit s := fun {y c} hc i hi => by
    obtain ⟨ha, rfl⟩ := Array.getElem?_eq_some_iff.mp hc
    have q := List.all_eq_true.mp ((Array.all_eq_true_iff_forall_mem.mp hF) _ (Array.getElem_mem ha)) i (List.mem_range.mpr hi)
    simpa [Array.getElem?_eq_getElem hi] using q
  obtain ⟨g0, r0⟩ := and_e h2
  obtain ⟨i0, e0⟩ := is_v g0
  obtain rfl : w0 = (.int i0) := Option.some.inj e0
  obtain ⟨g1, r1⟩ := and_e r0
  obtain ⟨i1, e1⟩ := is_v g1
  obtain rfl : w1 = (.int i1) := Option.some.inj e1
  obtain ⟨i2, e2⟩ := is_v r1
  obtain rfl : w2 = (.int i2) := Option.some.inj e2
  obtain ⟨n, o, h1, h2, h3, v, L, H', rfl, rfl, hp, N, hq⟩ := m_law l s _ hw s.heap i0 i1 i2 p e ha hc hk s m _ below hf ((Spec.applies_iff_loose hf).mp happ).1 ⟨rfl, State.Warmed39.refl s, Wk.Hp.start s s.heap⟩ trivial
  refine ⟨n, _, h1, h2, h3, hpost _ _ _ _ _ _ ⟨Cond.after_iff.mpr rfl, Cond.after_iff.mpr (eq_i res_at (Term.int_eval (1)) rfl), trivial⟩ ⟨hq.1, hq.2.1, (hq.2.2.sift fun y hy => Or.inr (N y hy)).mono (by decide) (by decide)⟩⟩
theorem main_1_1 : Claimed_1_1 := comes_1 fun _ _ _ _ _ _ h hF => ⟨h.1, hF⟩
theorem main_1_2 : Claimed_1_2 := comes_1 fun _ _ _ _ _ _ h hF => ⟨h.2.1, hF⟩
end Jvm.Pilot.@@N@@
namespace Jvm.Pilot.@@N@@
open Jvm Jvm.ClassFile Sem Op Lib Jvm.Free Jvm.Stand Jvm.Pilot.@@N@@.Jvm.D
/-! MADE BY PROGRAM (witnessworld.py) out of the Statement's table words and the real class files: 14 classes; the members and pool entries that the words name. The judged class is class 1, her method 1. -/
namespace start1
open Jvm.ClassFile
def u (s : String) : CpInfo := .utf8 (stringToUtf16 s)
/-- a pool by its gaps: so many unusable entries, then the entry; so many at the end -/
def gap : Nat → List CpInfo → List CpInfo
  | 0, r => r
  | n + 1, r => .unusable :: gap n r
def poolList (es : List (Nat × CpInfo)) (last : Nat) : List CpInfo := es.foldr (fun e r => gap e.1 (e.2 :: r)) (gap last [])
def pool (es : List (Nat × CpInfo)) (last : Nat) : Array CpInfo := ⟨poolList es last⟩
def fileOf (pool : Array CpInfo) (this : Nat) (attrs : Array Attribute := #[]) (ms : Array MethodInfo := #[]) (fl : Nat := 33) (sup : Nat := 0) (ifs : Array Nat := #[]) (fds : Array FieldInfo := #[]) : ClassFile where
  minorVersion := 0
  majorVersion := 65
  constantPool := pool
  accessFlags := fl
  thisClass := this
  superClass := sup
  interfaces := ifs
  fields := fds
  methods := ms
  attributes := attrs
def plain (name : String) (sup : Option ClassId) : Class where
  name := name
  kind := .ordinary
  loader := none
  accessFlags := 33
  super := sup
  interfaces := #[]
  cf := none
  fields := #[]
  methods := #[]
  instanceTypes := #[]
  staticTypes := #[]
  resolved := #[]
  callSites := []
  init := .initialized
  statics := none
  mirror := none

def pool0 : Array CpInfo := pool [(5, u "<init>"), (0, u "()V"), (1, .class_ 10), (1, u "java/lang/Object")] 113

def k0c0 : Code := { maxStack := 0, maxLocals := 1, code := object_method_1_code, exceptionTable := #[], attributes := #[] }
def k0m0 : Method := { name := "<init>", desc := "()V", sig := { parameters := [], returnType := none }, accessFlags := 1, code := some k0c0 }
/-- java/lang/Object -/
def k0 : Class := { plain "java/lang/Object" none with
  accessFlags := 33
  interfaces := #[]
  cf := some (fileOf pool0 8 #[] #[{ accessFlags := 1, nameIndex := 5, descriptorIndex := 6, attributes := #[] }] 33 0 #[] #[])
  fields := #[]
  methods := #[k0m0]
  instanceTypes := #[]
  staticTypes := #[]
  resolved := Array.replicate 124 none
  statics := none }

def pool1 : Array CpInfo := pool [(2, .class_ 4), (1, u "java/lang/Object"), (0, u "<init>"), (0, u "()V"), (0, .integer 2147483647), (0, .integer 1048575), (0, .methodref 10 11), (0, .class_ 12), (0, .nameAndType 13 14), (0, u "java/lang/Math"), (0, u "max"), (0, u "(II)I"), (0, .class_ 16), (0, u "com/example/particlade/particlade/AnnealingSchedule$Cubic"), (0, .methodref 15 18), (0, .nameAndType 5 19), (0, u "(I)V"), (0, .methodref 15 21), (0, .nameAndType 22 23), (0, u "next"), (0, u "(ID[D[D)D"), (0, .double 4427486594234968593), (1, .class_ 27), (0, u "com/example/particlade/particlade/CubicNextPinLaw"), (2, u "law"), (0, u "(III)Z")] 9

def k1m0 : Method := { name := "<init>", desc := "()V", sig := { parameters := [], returnType := none }, accessFlags := 1, code := none }
def k1c1 : Code := { maxStack := 8, maxLocals := 23, code := code, exceptionTable := #[], attributes := #[] }
def k1m1 : Method := { name := "law", desc := "(III)Z", sig := { parameters := [.int, .int, .int], returnType := some .boolean }, accessFlags := 9, code := some k1c1 }
/-- com/example/particlade/particlade/CubicNextPinLaw -/
def k1 : Class := { plain "com/example/particlade/particlade/CubicNextPinLaw" (some 0) with
  accessFlags := 49
  interfaces := #[]
  cf := some (fileOf pool1 26 #[] #[{ accessFlags := 1, nameIndex := 5, descriptorIndex := 6, attributes := #[] }, { accessFlags := 9, nameIndex := 30, descriptorIndex := 31, attributes := #[] }] 49 2 #[] #[])
  fields := #[]
  methods := #[k1m0, k1m1]
  instanceTypes := #[]
  staticTypes := #[]
  resolved := Array.replicate 41 none
  statics := none }

def pool2 : Array CpInfo := pool [(1, .class_ 2), (0, u "java/lang/Math"), (1, .class_ 6), (1, u "java/lang/Object"), (0, u "<init>"), (0, u "()V"), (89, .class_ 100), (1, u "java/lang/Math$RandomNumberGeneratorHolder"), (71, u "negativeZeroFloatBits"), (0, u "J"), (2, u "negativeZeroDoubleBits"), (21, u "max"), (46, u "$assertionsDisabled"), (0, u "Z"), (88, u "(II)I"), (2, u "twoToTheDoubleScaleDown"), (0, u "D"), (4, u "twoToTheDoubleScaleUp"), (9, u "E"), (3, u "PI"), (2, u "TAU"), (2, u "DEGREES_TO_RADIANS"), (0, u "RADIANS_TO_DEGREES")] 94

def k2m0 : Method := { name := "<init>", desc := "()V", sig := { parameters := [], returnType := none }, accessFlags := 2, code := none }
def k2c1 : Code := { maxStack := 2, maxLocals := 2, code := jdk_29_method_65_code, exceptionTable := #[], attributes := #[] }
def k2m1 : Method := { name := "max", desc := "(II)I", sig := { parameters := [.int, .int], returnType := some .int }, accessFlags := 9, code := some k2c1 }
/-- java/lang/Math -/
def k2 : Class := { plain "java/lang/Math" (some 0) with
  accessFlags := 49
  interfaces := #[]
  cf := some (fileOf pool2 1 #[.nestMembers #[98]] #[{ accessFlags := 2, nameIndex := 7, descriptorIndex := 8, attributes := #[] }, { accessFlags := 9, nameIndex := 198, descriptorIndex := 335, attributes := #[] }] 49 4 #[] #[{ accessFlags := 25, nameIndex := 354, descriptorIndex := 339, attributes := #[] }, { accessFlags := 25, nameIndex := 358, descriptorIndex := 339, attributes := #[] }, { accessFlags := 25, nameIndex := 361, descriptorIndex := 339, attributes := #[] }, { accessFlags := 26, nameIndex := 364, descriptorIndex := 339, attributes := #[] }, { accessFlags := 26, nameIndex := 365, descriptorIndex := 339, attributes := #[] }, { accessFlags := 26, nameIndex := 172, descriptorIndex := 173, attributes := #[] }, { accessFlags := 26, nameIndex := 176, descriptorIndex := 173, attributes := #[] }, { accessFlags := 8, nameIndex := 344, descriptorIndex := 339, attributes := #[] }, { accessFlags := 8, nameIndex := 338, descriptorIndex := 339, attributes := #[] }, { accessFlags := 4120, nameIndex := 245, descriptorIndex := 246, attributes := #[] }])
  fields := #[{ name := "E", type := .double, accessFlags := 25, slot := 0, constantValue := 0 }, { name := "PI", type := .double, accessFlags := 25, slot := 1, constantValue := 0 }, { name := "TAU", type := .double, accessFlags := 25, slot := 2, constantValue := 0 }, { name := "DEGREES_TO_RADIANS", type := .double, accessFlags := 26, slot := 3, constantValue := 0 }, { name := "RADIANS_TO_DEGREES", type := .double, accessFlags := 26, slot := 4, constantValue := 0 }, { name := "negativeZeroFloatBits", type := .long, accessFlags := 26, slot := 5, constantValue := 0 }, { name := "negativeZeroDoubleBits", type := .long, accessFlags := 26, slot := 6, constantValue := 0 }, { name := "twoToTheDoubleScaleUp", type := .double, accessFlags := 8, slot := 7, constantValue := 0 }, { name := "twoToTheDoubleScaleDown", type := .double, accessFlags := 8, slot := 8, constantValue := 0 }, { name := "$assertionsDisabled", type := .boolean, accessFlags := 4120, slot := 9, constantValue := 0 }]
  methods := #[k2m0, k2m1]
  instanceTypes := #[]
  staticTypes := #[.double, .double, .double, .double, .double, .long, .long, .double, .double, .boolean]
  resolved := Array.replicate 460 none
  statics := none }

def pool3 : Array CpInfo := pool [(1, .methodref 2 3), (0, .class_ 4), (0, .nameAndType 5 6), (0, u "java/lang/Object"), (0, u "<init>"), (0, u "()V"), (0, .class_ 8), (0, u "java/lang/Record")] 13

def k3c0 : Code := { maxStack := 1, maxLocals := 1, code := jdk_30_method_1_code, exceptionTable := #[], attributes := #[] }
def k3m0 : Method := { name := "<init>", desc := "()V", sig := { parameters := [], returnType := none }, accessFlags := 4, code := some k3c0 }
/-- java/lang/Record -/
def k3 : Class := { plain "java/lang/Record" (some 0) with
  accessFlags := 1057
  interfaces := #[]
  cf := some (fileOf pool3 7 #[] #[{ accessFlags := 4, nameIndex := 5, descriptorIndex := 6, attributes := #[] }] 1057 2 #[] #[])
  fields := #[]
  methods := #[k3m0]
  instanceTypes := #[]
  staticTypes := #[]
  resolved := Array.replicate 22 none
  statics := none }

def pool4 : Array CpInfo := pool [(1, .class_ 2), (0, u "com/example/particlade/particlade/AnnealingSchedule"), (0, .class_ 4), (0, u "java/lang/Object"), (5, .class_ 11), (0, u "com/example/particlade/particlade/AnnealingSchedule$Cubic"), (0, .class_ 13), (0, u "com/example/particlade/particlade/AnnealingSchedule$Adaptive"), (0, .class_ 15), (0, u "com/example/particlade/particlade/AnnealingSchedule$Adaptive$Increments")] 5

/-- com/example/particlade/particlade/AnnealingSchedule -/
def k4 : Class := { plain "com/example/particlade/particlade/AnnealingSchedule" (some 0) with
  accessFlags := 1537
  interfaces := #[]
  cf := some (fileOf pool4 1 #[.nestMembers #[10, 12, 14]] #[] 1537 3 #[] #[])
  fields := #[]
  methods := #[]
  instanceTypes := #[]
  staticTypes := #[]
  resolved := Array.replicate 21 none
  statics := none }

def pool5 : Array CpInfo := pool [(1, .methodref 2 3), (0, .class_ 4), (0, .nameAndType 5 6), (0, u "java/lang/Record"), (0, u "<init>"), (0, u "()V"), (9, .fieldref 17 18), (0, .class_ 19), (0, .nameAndType 20 21), (0, u "com/example/particlade/particlade/AnnealingSchedule$Cubic"), (0, u "steps"), (0, u "I"), (9, .class_ 32), (0, u "com/example/particlade/particlade/AnnealingSchedule"), (0, u "(I)V"), (4, u "next"), (0, u "(ID[D[D)D")] 35

def k5c0 : Code := { maxStack := 3, maxLocals := 2, code := prog_4_method_1_code, exceptionTable := #[], attributes := #[] }
def k5m0 : Method := { name := "<init>", desc := "(I)V", sig := { parameters := [.int], returnType := none }, accessFlags := 1, code := some k5c0 }
def k5c1 : Code := { maxStack := 4, maxLocals := 8, code := prog_4_method_2_code, exceptionTable := #[], attributes := #[] }
def k5m1 : Method := { name := "next", desc := "(ID[D[D)D", sig := { parameters := [.int, .double, (.array .double), (.array .double)], returnType := some .double }, accessFlags := 1, code := some k5c1 }
/-- com/example/particlade/particlade/AnnealingSchedule$Cubic -/
def k5 : Class := { plain "com/example/particlade/particlade/AnnealingSchedule$Cubic" (some 3) with
  accessFlags := 49
  interfaces := #[4]
  cf := some (fileOf pool5 17 #[.nestHost 31] #[{ accessFlags := 1, nameIndex := 5, descriptorIndex := 33, attributes := #[] }, { accessFlags := 1, nameIndex := 38, descriptorIndex := 39, attributes := #[] }] 49 2 #[31] #[{ accessFlags := 18, nameIndex := 20, descriptorIndex := 21, attributes := #[] }])
  fields := #[{ name := "steps", type := .int, accessFlags := 18, slot := 0, constantValue := 0 }]
  methods := #[k5m0, k5m1]
  instanceTypes := #[.int]
  staticTypes := #[]
  resolved := Array.replicate 75 none
  statics := none }

def pool6 : Array CpInfo := pool [(1, u "java/lang/Cloneable"), (0, .class_ 1), (0, u "java/lang/Object"), (0, .class_ 3)] 3

/-- java/lang/Cloneable -/
def k6 : Class := { plain "java/lang/Cloneable" (some 0) with
  accessFlags := 1537
  interfaces := #[]
  cf := some (fileOf pool6 2 #[] #[] 1537 4 #[] #[])
  fields := #[]
  methods := #[]
  instanceTypes := #[]
  staticTypes := #[]
  resolved := Array.replicate 8 none
  statics := none }

def pool7 : Array CpInfo := pool [(1, u "java/io/Serializable"), (0, .class_ 1), (0, u "java/lang/Object"), (0, .class_ 3)] 3

/-- java/io/Serializable -/
def k7 : Class := { plain "java/io/Serializable" (some 0) with
  accessFlags := 1537
  interfaces := #[]
  cf := some (fileOf pool7 2 #[] #[] 1537 4 #[] #[])
  fields := #[]
  methods := #[]
  instanceTypes := #[]
  staticTypes := #[]
  resolved := Array.replicate 8 none
  statics := none }

/-- the primitive byte -/
def k8 : Class := { plain "byte" none with kind := .primitive 'B', accessFlags := 0x411 }
/-- [B -/
def k9 : Class := { plain "[B" (some 0) with kind := .array 8 .byte, interfaces := #[6, 7], accessFlags := 1041 }

/-- the primitive double -/
def k10 : Class := { plain "double" none with kind := .primitive 'D', accessFlags := 0x411 }
/-- [D -/
def k11 : Class := { plain "[D" (some 0) with kind := .array 10 .double, interfaces := #[6, 7], accessFlags := 1041 }

/-- the primitive int -/
def k12 : Class := { plain "int" none with kind := .primitive 'I', accessFlags := 0x411 }
/-- [I -/
def k13 : Class := { plain "[I" (some 0) with kind := .array 12 .int, interfaces := #[6, 7], accessFlags := 1041 }

def heap : Heap := #[]
def classes : Array Class := #[k0, k1, k2, k3, k4, k5, k6, k7, k8, k9, k10, k11, k12, k13]
def interned : List (Array UInt16 × Addr) := []
def slotsUsed : Nat := 0
def theMethod : MethodId := ⟨1, 1⟩
def args0 : Array Value := #[.int 5, .int 2, .int 1]
def aboutOver (below : List Frame) : State where
  vm := { classes := classes, interned := interned.toArray }
  heap := heap
  slotsUsed := slotsUsed
  threads := #[{ frames := .invoking theMethod args0 :: below }]
def below0 : List Frame := [.native { method := ⟨0, 0⟩, args := #[] }]
def about1 : State := aboutOver below0
def p0 : Program := .bare "" "" ""
def e0 : Env := launch0.env 0 0 0
theorem w_frames : about1.frames = Frame.invoking theMethod args0 :: below0 := rfl
set_option maxRecDepth 65536 in
theorem w_args : argsFit about1.vm theMethod args0 = true := by decide +kernel
set_option maxRecDepth 65536 in
theorem w_heap : heapFits about1 = true := by decide +kernel
set_option maxRecDepth 65536 in
theorem w_runnable : about1.curStatus? = some .runnable := by decide +kernel
set_option maxRecDepth 65536 in
theorem w_alone : about1.alone = true := by decide +kernel
set_option maxRecDepth 65536 in
theorem w_named : about1.methodNamed? x = some theMethod := by decide +kernel
set_option maxRecDepth 65536 in
theorem w_hears : about1.hears theMethod below0 = true := by decide +kernel
set_option maxRecDepth 65536 in
theorem w_ripe : about1.ripe theMethod args0 below0 = true := by decide +kernel
theorem w_running : about1.status = .running := rfl
set_option maxRecDepth 65536 in
theorem w_room : about1.hasRoom e0.platform room_1 = true :=
  launch0.hasRoom_least _ room_1 (by decide +kernel) (by decide +kernel) (by decide +kernel) (by decide +kernel) (by decide +kernel) (by decide +kernel)
theorem allAtoms_all (ts : List Jvm.Cond) (a : Array Jvm.Value) (st : Jvm.State) : (allAtoms ts).before a st = ts.all (fun c => c.before a st) := by
  induction ts with
  | nil => rfl
  | cons c t ih =>
    show (Jvm.Cond.and c (allAtoms t)).before a st = _
    rw [Jvm.Cond.before_and, ih, List.all_cons]
def words1 : List Jvm.Cond := Jvm.Cond.code x code maxLocals ret :: tables_1
/-- a 'code' word, met by the world's own term for the bytes: nothing is compared byte by byte -/
theorem code_word {y : MethodName} {bytes : ByteArray} {mx : Nat} {rt : Option FieldType} {a : Array Value} {s : State} {m : MethodId} {meth : Method} {c : Code} (h1 : s.methodNamed? y = some m) (h2 : s.vm.method? m = some meth) (h3 : meth.code = some c) (h4 : c.code = bytes)
    (h5 : (c.maxLocals == mx && c.exceptionTable.isEmpty && decide (c.maxStack ≤ mostOperands) && decide (meth.sig.returnType = rt) && !meth.locks && decide (parseMethodDescriptor y.desc = some meth.sig)) = true) : (Jvm.Cond.code y bytes mx rt).before a s = true := by
  simp only [Bool.and_eq_true, beq_iff_eq, Bool.not_eq_true', decide_eq_true_eq] at h5
  obtain ⟨⟨⟨⟨⟨g1, g2⟩, g3⟩, g4⟩, g5⟩, g6⟩ := h5
  simp [Cond.before, Cond.holds, Cond.value, h1, h2, h3, h4, g1, g2, g3, g4, g5, g6]
def isCode : Jvm.Cond → Bool
  | .code _ _ _ _ => true
  | _ => false
theorem all_split {L : List Jvm.Cond} {P : Jvm.Cond → Bool} (h1 : L.all (fun c => isCode c || P c) = true) (h2 : ∀ c ∈ L.filter isCode, P c = true) : L.all P = true := by
  refine List.all_eq_true.mpr fun c hc => ?_
  have h := List.all_eq_true.mp h1 c hc
  rcases Bool.eq_false_or_eq_true (isCode c) with hi | hi
  · exact h2 c (List.mem_filter.mpr ⟨hc, hi⟩)
  · simpa [hi] using h
set_option maxRecDepth 65536 in
theorem w_c0 : (Jvm.Cond.code x code maxLocals ret).before args0 about1 = true := code_word (m := ⟨1, 1⟩) (meth := k1m1) (c := k1c1) (by decide +kernel) rfl rfl rfl (by decide +kernel)
set_option maxRecDepth 65536 in
theorem w_c1 : (Jvm.Cond.code ({ cls := "java/lang/Math", name := "max", desc := "(II)I" } : Jvm.MethodName) jdk_29_method_65_code (2 : Nat) (Option.some Jvm.ClassFile.FieldType.int)).before args0 about1 = true := code_word (m := ⟨2, 1⟩) (meth := k2m1) (c := k2c1) (by decide +kernel) rfl rfl rfl (by decide +kernel)
set_option maxRecDepth 65536 in
theorem w_c2 : (Jvm.Cond.code ({ cls := "com/example/particlade/particlade/AnnealingSchedule$Cubic", name := "<init>", desc := "(I)V" } : Jvm.MethodName) prog_4_method_1_code (2 : Nat) (Option.none : Option Jvm.ClassFile.FieldType)).before args0 about1 = true := code_word (m := ⟨5, 0⟩) (meth := k5m0) (c := k5c0) (by decide +kernel) rfl rfl rfl (by decide +kernel)
set_option maxRecDepth 65536 in
theorem w_c3 : (Jvm.Cond.code ({ cls := "java/lang/Record", name := "<init>", desc := "()V" } : Jvm.MethodName) jdk_30_method_1_code (1 : Nat) (Option.none : Option Jvm.ClassFile.FieldType)).before args0 about1 = true := code_word (m := ⟨3, 0⟩) (meth := k3m0) (c := k3c0) (by decide +kernel) rfl rfl rfl (by decide +kernel)
set_option maxRecDepth 65536 in
theorem w_c4 : (Jvm.Cond.code ({ cls := "java/lang/Object", name := "<init>", desc := "()V" } : Jvm.MethodName) object_method_1_code (1 : Nat) (Option.none : Option Jvm.ClassFile.FieldType)).before args0 about1 = true := code_word (m := ⟨0, 0⟩) (meth := k0m0) (c := k0c0) (by decide +kernel) rfl rfl rfl (by decide +kernel)
set_option maxRecDepth 65536 in
theorem w_c5 : (Jvm.Cond.code ({ cls := "com/example/particlade/particlade/AnnealingSchedule$Cubic", name := "next", desc := "(ID[D[D)D" } : Jvm.MethodName) prog_4_method_2_code (8 : Nat) (Option.some Jvm.ClassFile.FieldType.double)).before args0 about1 = true := code_word (m := ⟨5, 1⟩) (meth := k5m1) (c := k5c1) (by decide +kernel) rfl rfl rfl (by decide +kernel)
def codes1 : List Jvm.Cond := [Jvm.Cond.code x code maxLocals ret, Jvm.Cond.code ({ cls := "java/lang/Math", name := "max", desc := "(II)I" } : Jvm.MethodName) jdk_29_method_65_code (2 : Nat) (Option.some Jvm.ClassFile.FieldType.int), Jvm.Cond.code ({ cls := "com/example/particlade/particlade/AnnealingSchedule$Cubic", name := "<init>", desc := "(I)V" } : Jvm.MethodName) prog_4_method_1_code (2 : Nat) (Option.none : Option Jvm.ClassFile.FieldType), Jvm.Cond.code ({ cls := "java/lang/Record", name := "<init>", desc := "()V" } : Jvm.MethodName) jdk_30_method_1_code (1 : Nat) (Option.none : Option Jvm.ClassFile.FieldType), Jvm.Cond.code ({ cls := "java/lang/Object", name := "<init>", desc := "()V" } : Jvm.MethodName) object_method_1_code (1 : Nat) (Option.none : Option Jvm.ClassFile.FieldType), Jvm.Cond.code ({ cls := "com/example/particlade/particlade/AnnealingSchedule$Cubic", name := "next", desc := "(ID[D[D)D" } : Jvm.MethodName) prog_4_method_2_code (8 : Nat) (Option.some Jvm.ClassFile.FieldType.double)]
set_option maxRecDepth 65536 in
theorem codes_eq : words1.filter isCode = codes1 := rfl
theorem w_codes : ∀ c ∈ words1.filter isCode, c.before args0 about1 = true := by
  rw [codes_eq]
  intro c hc
  simp only [codes1, List.mem_cons, List.not_mem_nil, or_false] at hc
  rcases hc with rfl | rfl | rfl | rfl | rfl | rfl
  · exact w_c0
  · exact w_c1
  · exact w_c2
  · exact w_c3
  · exact w_c4
  · exact w_c5
set_option maxRecDepth 65536 in
theorem w_t1 : (words1.take 24).all (fun c => isCode c || c.before args0 about1) = true := by decide +kernel
set_option maxRecDepth 65536 in
theorem w_t2 : (words1.drop 24).all (fun c => isCode c || c.before args0 about1) = true := by decide +kernel
theorem w_tables : (allAtoms (Jvm.Cond.code x code maxLocals ret :: tables_1)).before args0 about1 = true := by
  rw [allAtoms_all]
  show words1.all (fun c => c.before args0 about1) = true
  refine all_split ?_ w_codes
  rw [← List.take_append_drop 24 words1, List.all_append, w_t1, w_t2]
  rfl
set_option maxRecDepth 65536 in
theorem w_case : (Jvm.Cond.and given_1 narrow_1).before args0 about1 = true := by decide +kernel
theorem w_applies : (headSpec (Jvm.Cond.code x code maxLocals ret :: tables_1) room_1).applies x e0.platform about1 = true :=
  (Spec.applies_iff w_frames).mpr ⟨w_running, w_runnable, w_alone, w_named, w_hears, w_ripe, w_room, w_tables⟩
theorem atStart : AtStart classFile x code maxLocals ret World_1 tables_1 room_1 Calls_1 rest_1 Pre_1 launch0 p0 e0 about1 theMethod args0 below0 :=
  ⟨lists_1, trivial, launch0.admits_env _ _ _, launch0.least_env, fairChoices_fair.cas, fairChoices_fair.clock, w_frames, w_args, w_heap, w_applies, trivial, trivial, w_case⟩
end start1
theorem witness_1 : WitnessClaimed_1 := ⟨start1.p0, start1.e0, start1.about1, start1.theMethod, start1.args0, start1.below0, start1.atStart⟩
end Jvm.Pilot.@@N@@
